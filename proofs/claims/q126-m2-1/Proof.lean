import JvmDerived
import JvmDerived.Pilot.@@N@@Statement
import JvmDerived.Pilot.@@N@@Code
set_option linter.unusedVariables false
set_option linter.unusedSimpArgs false
namespace Jvm.RoadKit
open Sem ClassFile Op Lib Jvm.Stand Jvm.Free Jvm.LawKit
section New
variable {p : Program} {l : Launch} {e : Env} {R : Room} {s : State} {m : MethodId} {args : Array Value} {below : List Frame} {meth : Method} {c : Code} {T : State} {locs : List Loc} {cells slots : Nat}
theorem retI (X : Stand p l e R s m args below meth c T locs cells slots) (hx : p.tables.exec = Jvm.exec) {pc : Nat} {Ls : Array Slot} {z : Int32} {rest : List Value} (hret : meth.sig.returnType = some .int) (hd : decode c.code pc = .ok (.ireturn, 1)) {fs : List Frame}
    (hl : ∀ (f : JFrame) (acts : List Action), f.method = m → f.locked = none → f.entered = [] → (doReturn e (T.setTop f) acts (some (.int z))).1 = T.setFrames fs) : Steps p.tables e below (T.setTop (mkF m pc Ls (.int z :: rest))) (T.setFrames fs) := by
  have hm' : T.vm.method? m = some meth := X.method'
  have hn : narrow .int (.int z) = .int z := rfl
  show Steps p.tables e below (T.setTop { method := m, pc := pc, locals := Ls, stack := _ :: rest, locked := none }) _
  jvm_step X.here [X.here.top, hx, hd, hm', hret, hn]
  first | (intro acts; rw [hl _ acts rfl rfl rfl]) | rw [hl _ _ rfl rfl rfl]
  exact Steps.refl _
end New
end Jvm.RoadKit
/- laws to paste: Road.eqW, Road.backV, Road.lenW, Road.chN, Road.codOf (cut by pick.py; bodies as the Statement names them) -/
namespace Jvm.Pilot.@@N@@
namespace StrChars
open Jvm Sem ClassFile Op Lib Jvm.Stand Jvm.Free.XT Jvm.Free.ALB Jvm.Free.JM Jvm.Free
open Jvm.Lib.Cold (StaticIs)
/-- a char array whose places are chars -/
def Ch (a : Addr) (A : Cell) (U : State) : Prop := Arr .char a A U ∧ Typed .char A
theorem Ch.mv {a : Addr} {A : Cell} {U U' : State} (h : Ch a A U) (hal : U.vm.Alike U'.vm) (hh : U'.heap = U.heap) : Ch a A U' := ⟨h.1.mv hal hh, h.2⟩
theorem Ch.keep {a : Addr} {A : Cell} {U U' : State} (h : Ch a A U) (hal : U.vm.Alike U'.vm) (hk : U'.heap[a]? = some A) : Ch a A U' := ⟨h.1.keep hal hk, h.2⟩
/-- what place i of a char[]'s cell holds -/
def cv (A : Cell) (i : Nat) : Int32 := match A.slots[i]? with | some (.int x) => x | _ => 0
theorem Ch.get {a : Addr} {A : Cell} {U : State} (h : Ch a A U) {i : Nat} (hi : i < A.slots.size) : A.slots[i]? = some (.int (cv A i)) := by
  have e := Array.getElem?_eq_getElem hi
  have f := h.2 i _ e
  unfold cv; rw [e]
  generalize A.slots[i] = v at f
  cases v <;> simp [fits] at f ⊢
/-- the byte that i2b leaves of a char -/
def lo8 (x : Int32) : Int32 := x.toInt8.toInt32
theorem fits_lo8 (y : Int32) : fits .byte (.int (lo8 y)) = true := by
  have h1 := y.toInt8.le_toInt
  have h2 := y.toInt8.toInt_lt
  simp only [lo8, fits, Bool.and_eq_true, decide_eq_true_eq, Int32.le_iff_toInt_le, Int8.toInt_toInt32, show (-128 : Int32).toInt = -128 from by decide, show (127 : Int32).toInt = 127 from by decide]
  omega
/-- A' is A but that each place j of lo .. hi - 1 holds f j -/
def Laid (A A' : Cell) (lo hi : Nat) (f : Nat → Value) : Prop := A'.cls = A.cls ∧ A'.vm = A.vm ∧ A'.slots.size = A.slots.size ∧ ∀ i, A'.slots[i]? = if lo ≤ i ∧ i < hi then some (f i) else A.slots[i]?
theorem Laid.zero (A : Cell) (lo : Nat) (f : Nat → Value) : Laid A A lo (lo + 0) f := ⟨rfl, rfl, rfl, fun i => by rw [if_neg (by omega)]⟩
theorem Laid.step {A Ak : Cell} {lo k : Nat} {f : Nat → Value} {v : Value} (h : Laid A Ak lo k f) (hlo : lo ≤ k) (hk : k < Ak.slots.size) (hv : v = f k) : Laid A (Ak.setSlot k v) lo (k + 1) f := by
  refine ⟨h.1, h.2.1, by simpa [Cell.setSlot] using h.2.2.1, fun i => ?_⟩
  by_cases e : k = i
  · subst e; rw [Cell.slots_setSlot_self v hk, if_pos (by omega), hv]
  · rw [Cell.slots_setSlot_ne v e, h.2.2.2 i]
    by_cases q : lo ≤ i ∧ i < k
    · rw [if_pos q, if_pos (by omega)]
    · rw [if_neg q, if_neg (by omega)]
def U16 : String := "java/lang/StringUTF16"
namespace Cmp5
def yN : MethodName := ⟨"java/lang/StringUTF16", "compress", "([CI[BII)I"⟩
abbrev yB : ByteArray := jdk_52_method_21_code
theorem d0 : decode yB 0 = .ok (.iconst 0, 1) := by decide +kernel
theorem d1 : decode yB 1 = .ok (.istore 5, 2) := by decide +kernel
theorem d3 : decode yB 3 = .ok (.iload 5, 2) := by decide +kernel
theorem d5 : decode yB 5 = .ok (.iload 4, 2) := by decide +kernel
theorem d7 : decode yB 7 = .ok (.if_icmp (.ge) 37, 3) := by decide +kernel
theorem d10 : decode yB 10 = .ok (.aload_n 0, 1) := by decide +kernel
theorem d11 : decode yB 11 = .ok (.iload_n 1, 1) := by decide +kernel
theorem d12 : decode yB 12 = .ok (.caload, 1) := by decide +kernel
theorem d13 : decode yB 13 = .ok (.istore 6, 2) := by decide +kernel
theorem d15 : decode yB 15 = .ok (.iload 6, 2) := by decide +kernel
theorem d17 : decode yB 17 = .ok (.sipush 255, 3) := by decide +kernel
theorem d20 : decode yB 20 = .ok (.if_icmp (.le) 6, 3) := by decide +kernel
theorem d26 : decode yB 26 = .ok (.aload_n 2, 1) := by decide +kernel
theorem d27 : decode yB 27 = .ok (.iload_n 3, 1) := by decide +kernel
theorem d28 : decode yB 28 = .ok (.iload 6, 2) := by decide +kernel
theorem d30 : decode yB 30 = .ok (.i2b, 1) := by decide +kernel
theorem d31 : decode yB 31 = .ok (.bastore, 1) := by decide +kernel
theorem d32 : decode yB 32 = .ok (.iinc 1 1, 3) := by decide +kernel
theorem d35 : decode yB 35 = .ok (.iinc 3 1, 3) := by decide +kernel
theorem d38 : decode yB 38 = .ok (.iinc 5 1, 3) := by decide +kernel
theorem d41 : decode yB 41 = .ok (.goto (-38), 3) := by decide +kernel
theorem d44 : decode yB 44 = .ok (.iload 4, 2) := by decide +kernel
theorem d46 : decode yB 46 = .ok (.ireturn, 1) := by decide +kernel
def site : List Cond := []
def tab : Cond := tabOf yN yB 7 (some .int) site
def P (b : Addr) (A : Cell) (d : Addr) (B : Cell) (o q len : Nat) (args : Array Value) (s : State) : Prop := args = #[.ref b, .int (Int32.ofNat o), .ref d, .int (Int32.ofNat q), .int (Int32.ofNat len)] ∧ Ch b A s ∧ Arr .byte d B s ∧ b ≠ d ∧ o + len ≤ A.slots.size ∧ q + len ≤ B.slots.size ∧ ∀ i, i < len → ¬ 255 < cv A (o + i)
def E (b : Addr) (A : Cell) (d : Addr) (B : Cell) (o q len : Nat) (r : Option Value) (s u : State) : Prop := r = some (.int (Int32.ofNat len)) ∧ ∃ B', Put d B' s u ∧ Laid B B' q (q + len) (fun j => Value.int (lo8 (cv A (o + (j - q)))))
/-- no char of the range above 255: len; the places written hold each char's low byte -/
theorem law (l : Launch) (b : Addr) (A : Cell) (d : Addr) (B : Cell) (o q len : Nat) : Law l yN 5 5 0 0 yB 7 (some .int) site (P b A d B o q len) (E b A d B o q len) (copyLocs d q len) 0 0 := by
  refine Law.of_walk (plainFor_of_name (by decide +kernel)) (by decide +kernel) (by decide +kernel) (by decide) (fun _ _ h => by rw [h.1]; rfl) (fun _ U U' hal hh h => ⟨h.1, h.2.1.mv hal hh, h.2.2.1.mv hal hh, h.2.2.2⟩) (fun r U U' V V' h1 hal h2 h => ⟨h.1, h.2.elim fun B' q => ⟨B', q.1.mv h1 h2, q.2⟩⟩) ?_
  intro p e s m args below meth c s₁ X0 hexec hbytes hml hret hlk hnm hown hh0 W hP
  obtain ⟨rfl, hA, hB, hne, l1, l2, hp⟩ := hP
  have c1 : Steps p.tables e below (s₁.setTop (entryFrame m #[.ref b, .int (Int32.ofNat o), .ref d, .int (Int32.ofNat q), .int (Int32.ofNat len)] 7)) (s₁.setTop (mkF m 0 #[.val (.ref b), .val (.int (Int32.ofNat o)), .val (.ref d), .val (.int (Int32.ofNat q)), .val (.int (Int32.ofNat len)), .unset, .unset] [])) := entry rfl
  have hA0 := hA.1.mv X0.warmed.alike hh0
  have hB0 := hB.mv X0.warmed.alike hh0
  have a31 := hA.1.2.2.2
  have c2 : Steps p.tables e below (s₁.setTop (entryFrame m #[.ref b, .int (Int32.ofNat o), .ref d, .int (Int32.ofNat q), .int (Int32.ofNat len)] 7)) (s₁.setTop (mkF m 3 #[.val (.ref b), .val (.int (Int32.ofNat o)), .val (.ref d), .val (.int (Int32.ofNat q)), .val (.int (Int32.ofNat len)), .val (.int 0), .unset] [])) := c1.trans (by
    refine iconstV X0.here hexec rfl 0 (hb hbytes d0) (by decide) ?_
    refine XS.istore X0.here hexec rfl (hb hbytes d1) rfl rfl ?_
    exact Steps.refl _)
  have loop : ∀ (r i : Nat), i + r = len → ∀ (z : Slot), (z = .unset ∨ ∃ w, z = .val w ∧ w.category = 1) → ∀ (Tl : State) (Bk : Cell), Stand p l e { frames := 0, locals := 0, cells := 0, slots := 0 } s m #[.ref b, .int (Int32.ofNat o), .ref d, .int (Int32.ofNat q), .int (Int32.ofNat len)] below meth c Tl ([] ++ copyLocs d q i) 0 0 → Put d Bk s₁ Tl → Laid B Bk q (q + i) (fun j => Value.int (lo8 (cv A (o + (j - q))))) →
      Steps p.tables e below (s₁.setTop (entryFrame m #[.ref b, .int (Int32.ofNat o), .ref d, .int (Int32.ofNat q), .int (Int32.ofNat len)] 7)) (Tl.setTop (mkF m 3 #[.val (.ref b), .val (.int (Int32.ofNat (o + i))), .val (.ref d), .val (.int (Int32.ofNat (q + i))), .val (.int (Int32.ofNat len)), .val (.int (Int32.ofNat i)), z] [])) → ∃ (T' : State) (B' : Cell) (z' : Slot), Stand p l e { frames := 0, locals := 0, cells := 0, slots := 0 } s m #[.ref b, .int (Int32.ofNat o), .ref d, .int (Int32.ofNat q), .int (Int32.ofNat len)] below meth c T' ([] ++ copyLocs d q len) 0 0 ∧ Put d B' s₁ T' ∧ Laid B B' q (q + len) (fun j => Value.int (lo8 (cv A (o + (j - q))))) ∧
      Steps p.tables e below (s₁.setTop (entryFrame m #[.ref b, .int (Int32.ofNat o), .ref d, .int (Int32.ofNat q), .int (Int32.ofNat len)] 7)) (T'.setTop (mkF m 3 #[.val (.ref b), .val (.int (Int32.ofNat (o + len))), .val (.ref d), .val (.int (Int32.ofNat (q + len))), .val (.int (Int32.ofNat len)), .val (.int (Int32.ofNat len)), z'] [])) := by
    intro r
    induction r with
    | zero =>
      intro i hi z hz Tl Bk Xl pl fl cl
      have hil : i = len := by omega
      rw [hil] at Xl fl cl
      exact ⟨Tl, Bk, z, Xl, pl, fl, cl⟩
    | succ r ih =>
      intro i hi z hz Tl Bk Xl pl fl cl
      have all := X0.warmed.alike.symm.trans Xl.warmed.alike
      have hAl := hA0.keep all (pl.other hne hA0.1)
      have hBk := hB0.like all pl.1 fl.1 fl.2.1 fl.2.2.1
      have hlt : q + i < Bk.slots.size := by rw [fl.2.2.1]; omega
      have c3 : Steps p.tables e below (s₁.setTop (entryFrame m #[.ref b, .int (Int32.ofNat o), .ref d, .int (Int32.ofNat q), .int (Int32.ofNat len)] 7)) (Tl.setTop (mkF m 12 #[.val (.ref b), .val (.int (Int32.ofNat (o + i))), .val (.ref d), .val (.int (Int32.ofNat (q + i))), .val (.int (Int32.ofNat len)), .val (.int (Int32.ofNat i)), z] [.int (Int32.ofNat (o + i)), .ref b])) := cl.trans (by
        refine XS.iload Xl.here hexec rfl (hb hbytes d3) rfl ?_
        refine XS.iload Xl.here hexec rfl (hb hbytes d5) rfl ?_
        refine XS.icmpNo Xl.here hexec rfl (hb hbytes d7) rfl (ii_ge_f (lt32 (by omega) (by omega))) ?_
        refine XS.aloadN Xl.here hexec rfl (hb hbytes d10) rfl rfl ?_
        refine XS.iloadN Xl.here hexec rfl (hb hbytes d11) rfl ?_
        exact Steps.refl _)
      have c4 : Steps p.tables e below (s₁.setTop (entryFrame m #[.ref b, .int (Int32.ofNat o), .ref d, .int (Int32.ofNat q), .int (Int32.ofNat len)] 7)) (Tl.setTop (mkF m 13 #[.val (.ref b), .val (.int (Int32.ofNat (o + i))), .val (.ref d), .val (.int (Int32.ofNat (q + i))), .val (.int (Int32.ofNat len)), .val (.int (Int32.ofNat i)), z] [.int (cv A (o + i))])) := c3.trans (by
        refine Xl.aget hexec hAl rfl (hA.get (i := o + i) (by omega)) rfl rfl (hb hbytes d12) ?_
        exact Steps.refl _)
      have c5 : Steps p.tables e below (s₁.setTop (entryFrame m #[.ref b, .int (Int32.ofNat o), .ref d, .int (Int32.ofNat q), .int (Int32.ofNat len)] 7)) (Tl.setTop (mkF m 15 #[.val (.ref b), .val (.int (Int32.ofNat (o + i))), .val (.ref d), .val (.int (Int32.ofNat (q + i))), .val (.int (Int32.ofNat len)), .val (.int (Int32.ofNat i)), .val (.int (cv A (o + i)))] [])) := c4.trans (by
        refine XS.istoreS Xl.here hexec rfl (hb hbytes d13) rfl rfl hz ?_
        exact Steps.refl _)
      have c6 : Steps p.tables e below (s₁.setTop (entryFrame m #[.ref b, .int (Int32.ofNat o), .ref d, .int (Int32.ofNat q), .int (Int32.ofNat len)] 7)) (Tl.setTop (mkF m 31 #[.val (.ref b), .val (.int (Int32.ofNat (o + i))), .val (.ref d), .val (.int (Int32.ofNat (q + i))), .val (.int (Int32.ofNat len)), .val (.int (Int32.ofNat i)), .val (.int (cv A (o + i)))] [.int (lo8 (cv A (o + i))), .int (Int32.ofNat (q + i)), .ref d])) := c5.trans (by
        refine XS.iload Xl.here hexec rfl (hb hbytes d15) rfl ?_
        refine sipushV Xl.here hexec rfl 255 (hb hbytes d17) (by decide) ?_
        refine XS.icmpYes Xl.here hexec rfl (pc0 := 20) rfl (hb hbytes d20) rfl (ii_le_t (hp i (by omega))) (by decide) rfl ?_
        refine XS.aloadN Xl.here hexec rfl (hb hbytes d26) rfl rfl ?_
        refine XS.iloadN Xl.here hexec rfl (hb hbytes d27) rfl ?_
        refine XS.iload Xl.here hexec rfl (hb hbytes d28) rfl ?_
        refine i2b Xl.here hexec rfl (hb hbytes d30) rfl ?_
        exact Steps.refl _)
      obtain ⟨T7, X7, p7, st7⟩ := Xl.aput hexec hBk rfl hlt rfl (fits_lo8 (cv A (o + i))) (g := (mkF m 31 #[.val (.ref b), .val (.int (Int32.ofNat (o + i))), .val (.ref d), .val (.int (Int32.ofNat (q + i))), .val (.int (Int32.ofNat len)), .val (.int (Int32.ofNat i)), .val (.int (cv A (o + i)))] [.int (lo8 (cv A (o + i))), .int (Int32.ofNat (q + i)), .ref d])) rfl (rest := []) rfl (hb hbytes d31)
      have c8 : Steps p.tables e below (s₁.setTop (entryFrame m #[.ref b, .int (Int32.ofNat o), .ref d, .int (Int32.ofNat q), .int (Int32.ofNat len)] 7)) (T7.setTop (mkF m 32 #[.val (.ref b), .val (.int (Int32.ofNat (o + i))), .val (.ref d), .val (.int (Int32.ofNat (q + i))), .val (.int (Int32.ofNat len)), .val (.int (Int32.ofNat i)), .val (.int (cv A (o + i)))] [])) := c6.trans (st7 _ (Steps.refl _))
      have c9 : Steps p.tables e below (s₁.setTop (entryFrame m #[.ref b, .int (Int32.ofNat o), .ref d, .int (Int32.ofNat q), .int (Int32.ofNat len)] 7)) (T7.setTop (mkF m 3 #[.val (.ref b), .val (.int (Int32.ofNat (o + i) + 1)), .val (.ref d), .val (.int (Int32.ofNat (q + i) + 1)), .val (.int (Int32.ofNat len)), .val (.int (Int32.ofNat i + 1)), .val (.int (cv A (o + i)))] [])) := c8.trans (by
        refine iincV X7.here hexec rfl 1 (hb hbytes d32) (by decide) rfl rfl ?_
        refine iincV X7.here hexec rfl 1 (hb hbytes d35) (by decide) rfl rfl ?_
        refine iincV X7.here hexec rfl 1 (hb hbytes d38) (by decide) rfl rfl ?_
        refine XS.goto X7.here hexec rfl (pc0 := 41) rfl (hb hbytes d41) (by decide) rfl ?_
        exact Steps.refl _)
      have c10 : Steps p.tables e below (s₁.setTop (entryFrame m #[.ref b, .int (Int32.ofNat o), .ref d, .int (Int32.ofNat q), .int (Int32.ofNat len)] 7)) (T7.setTop (mkF m 3 #[.val (.ref b), .val (.int (Int32.ofNat (o + (i + 1)))), .val (.ref d), .val (.int (Int32.ofNat (q + (i + 1)))), .val (.int (Int32.ofNat len)), .val (.int (Int32.ofNat (i + 1))), .val (.int (cv A (o + i)))] [])) := by
        have := c9
        rw [succ32, succ32, succ32] at this
        exact this
      exact ih (i + 1) (by omega) _ (Or.inr ⟨_, rfl, rfl⟩) T7 _ (by rw [copyLocs_step, ← List.append_assoc]; exact X7) (pl.trans p7) (fl.step (by omega) hlt (by simp)) c10
  obtain ⟨T9, B9, z9, X9, p9, f9, g9⟩ := loop len 0 (by omega) .unset (Or.inl rfl) s₁ B (by simpa [copyLocs] using X0) ⟨hB0.1, fun _ _ => rfl, rfl⟩ (Laid.zero _ _ _) c2
  have c11 : Steps p.tables e below (s₁.setTop (entryFrame m #[.ref b, .int (Int32.ofNat o), .ref d, .int (Int32.ofNat q), .int (Int32.ofNat len)] 7)) (T9.setTop (mkF m 46 #[.val (.ref b), .val (.int (Int32.ofNat (o + len))), .val (.ref d), .val (.int (Int32.ofNat (q + len))), .val (.int (Int32.ofNat len)), .val (.int (Int32.ofNat len)), z9] [.int (Int32.ofNat len)])) := g9.trans (by
    refine XS.iload X9.here hexec rfl (hb hbytes d3) rfl ?_
    refine XS.iload X9.here hexec rfl (hb hbytes d5) rfl ?_
    refine XS.icmpYes X9.here hexec rfl (pc0 := 7) rfl (hb hbytes d7) rfl (ii_ge_t (nlt32 (by omega) (Nat.le_refl _))) (by decide) rfl ?_
    refine XS.iload X9.here hexec rfl (hb hbytes d44) rfl ?_
    exact Steps.refl _)
  exact ⟨T9, some (.int (Int32.ofNat len)), _, _, _, X9, by simp, rfl, rfl, (fun h => by cases h), ⟨rfl, B9, p9.from hh0, f9⟩, fun fs hl => c11.trans (X9.ireturnOut hexec hret rfl (Or.inl rfl) (hb hbytes d46) hl)⟩
end Cmp5
namespace Cmp3
def yN : MethodName := ⟨"java/lang/StringUTF16", "compress", "([CII)[B"⟩
abbrev yB : ByteArray := jdk_52_method_16_code
theorem d0 : decode yB 0 = .ok (.iload_n 2, 1) := by decide +kernel
theorem d1 : decode yB 1 = .ok (.newarray .byte, 2) := by decide +kernel
theorem d3 : decode yB 3 = .ok (.astore_n 3, 1) := by decide +kernel
theorem d4 : decode yB 4 = .ok (.aload_n 0, 1) := by decide +kernel
theorem d5 : decode yB 5 = .ok (.iload_n 1, 1) := by decide +kernel
theorem d6 : decode yB 6 = .ok (.aload_n 3, 1) := by decide +kernel
theorem d7 : decode yB 7 = .ok (.iconst 0, 1) := by decide +kernel
theorem d8 : decode yB 8 = .ok (.iload_n 2, 1) := by decide +kernel
theorem d9 : decode yB 9 = .ok (.invokestatic 115, 3) := by decide +kernel
theorem d12 : decode yB 12 = .ok (.istore 4, 2) := by decide +kernel
theorem d14 : decode yB 14 = .ok (.iload 4, 2) := by decide +kernel
theorem d16 : decode yB 16 = .ok (.iload_n 2, 1) := by decide +kernel
theorem d17 : decode yB 17 = .ok (.if_icmp (.eq) 40, 3) := by decide +kernel
theorem d57 : decode yB 57 = .ok (.aload_n 3, 1) := by decide +kernel
theorem d58 : decode yB 58 = .ok (.areturn, 1) := by decide +kernel
def site : List Cond := [.arrayClass .byte, Cmp5.tab] ++ staticW U16 115 Cmp5.yN
def tab : Cond := tabOf yN yB 6 (some (.array .byte)) site
def P (b : Addr) (A : Cell) (o len : Nat) (args : Array Value) (s : State) : Prop := args = #[.ref b, .int (Int32.ofNat o), .int (Int32.ofNat len)] ∧ Ch b A s ∧ o + len ≤ A.slots.size ∧ len ≤ 536870912 ∧ ∀ i, i < len → ¬ 255 < cv A (o + i)
def E (b : Addr) (A : Cell) (o len : Nat) (r : Option Value) (s u : State) : Prop := NewArr .byte "[B" len (fun j => .int (lo8 (cv A (o + j)))) r s u ∧ u.heap.size = s.heap.size + 1
/-- no char of the range above 255: a new byte[] of their low bytes -/
theorem law (l : Launch) (b : Addr) (A : Cell) (o len : Nat) : Law l yN 3 3 1 18 yB 6 (some (.array .byte)) site (P b A o len) (E b A o len) [] 1 len := by
  refine Law.of_walk (plainFor_of_name (by decide +kernel)) (by decide +kernel) (by decide +kernel) (by decide) (fun _ _ h => by rw [h.1]; rfl) (fun _ U U' hal hh h => ⟨h.1, h.2.1.mv hal hh, h.2.2⟩) (fun r U U' V V' h1 hal h2 h => ⟨NewArr.mv r U U' V V' h1 hal h2 h.1, by rw [h1, h2]; exact h.2⟩) ?_
  intro p e s m args below meth c s₁ X0 hexec hbytes hml hret hlk hnm hown hh0 W hP
  obtain ⟨rfl, hA, l1, l2, hp⟩ := hP
  have a31 := hA.1.2.2.2
  have c1 : Steps p.tables e below (s₁.setTop (entryFrame m #[.ref b, .int (Int32.ofNat o), .int (Int32.ofNat len)] 6)) (s₁.setTop (mkF m 0 #[.val (.ref b), .val (.int (Int32.ofNat o)), .val (.int (Int32.ofNat len)), .unset, .unset, .unset] [])) := entry rfl
  have c2 : Steps p.tables e below (s₁.setTop (entryFrame m #[.ref b, .int (Int32.ofNat o), .int (Int32.ofNat len)] 6)) (s₁.setTop (mkF m 1 #[.val (.ref b), .val (.int (Int32.ofNat o)), .val (.int (Int32.ofNat len)), .unset, .unset, .unset] [.int (Int32.ofNat len)])) := c1.trans (by
    refine XS.iloadN X0.here hexec rfl (hb hbytes d0) rfl ?_
    exact Steps.refl _)
  obtain ⟨T3, B3, X3, ba3, bs3, bv3, bh3, bf3, st3⟩ := X0.anew hexec (atype := .byte) (wk W (.arrayClass .byte)) rfl (by show len * 1 ≤ _; omega) (by omega) (g := (mkF m 1 #[.val (.ref b), .val (.int (Int32.ofNat o)), .val (.int (Int32.ofNat len)), .unset, .unset, .unset] [.int (Int32.ofNat len)])) rfl (hb hbytes d1) (rest := []) rfl (Nat.le_refl _) (by show 0 + len ≤ len; omega)
  rw [hh0] at ba3 st3
  have kp3 : XT.Kept s T3 := (XT.Kept.of_eq hh0).push bh3
  have hA3 := hA.keep X3.warmed.alike (kp3 _ _ hA.1.1)
  have hne : b ≠ s.heap.size := hA.1.ne
  have c4 : Steps p.tables e below (s₁.setTop (entryFrame m #[.ref b, .int (Int32.ofNat o), .int (Int32.ofNat len)] 6)) (T3.setTop (mkF m 3 #[.val (.ref b), .val (.int (Int32.ofNat o)), .val (.int (Int32.ofNat len)), .unset, .unset, .unset] [.ref s.heap.size])) := c2.trans (st3 _ (Steps.refl _))
  have c5 : Steps p.tables e below (s₁.setTop (entryFrame m #[.ref b, .int (Int32.ofNat o), .int (Int32.ofNat len)] 6)) (T3.setTop (mkF m 9 #[.val (.ref b), .val (.int (Int32.ofNat o)), .val (.int (Int32.ofNat len)), .val (.ref s.heap.size), .unset, .unset] [.int (Int32.ofNat len), .int 0, .ref s.heap.size, .int (Int32.ofNat o), .ref b])) := c4.trans (by
    refine XS.astoreN X3.here hexec rfl (hb hbytes d3) rfl rfl rfl ?_
    refine XS.aloadN X3.here hexec rfl (hb hbytes d4) rfl rfl ?_
    refine XS.iloadN X3.here hexec rfl (hb hbytes d5) rfl ?_
    refine XS.aloadN X3.here hexec rfl (hb hbytes d6) rfl rfl ?_
    refine iconstV X3.here hexec rfl 0 (hb hbytes d7) (by decide) ?_
    refine XS.iloadN X3.here hexec rfl (hb hbytes d8) rfl ?_
    exact Steps.refl _)
  obtain ⟨v6, T6, X6, E6, g6⟩ := X3.callS hexec (Cmp5.law l b A s.heap.size B3 o 0 len) hown (wks W (staticW U16 115 Cmp5.yN)) (wk W Cmp5.tab) (W := 0) (Nat.le_of_ble_eq_true rfl) (Nat.le_of_ble_eq_true rfl) (Nat.le_refl _) (by show 0 + len + 0 ≤ len; omega) (g := (mkF m 9 #[.val (.ref b), .val (.int (Int32.ofNat o)), .val (.int (Int32.ofNat len)), .val (.ref s.heap.size), .unset, .unset] [.int (Int32.ofNat len), .int (Int32.ofNat 0), .ref s.heap.size, .int (Int32.ofNat o), .ref b])) rfl (by rw [hml]; rfl) c5 (argsL := [.ref b, .int (Int32.ofNat o), .ref s.heap.size, .int (Int32.ofNat 0), .int (Int32.ofNat len)]) (rest := []) rfl rfl (by show 2 * 0 + 0 ≤ _; decide) (hb hbytes d9) (⟨rfl, hA3, ba3, hne, l1, by rw [bs3]; simp, hp⟩)
  obtain ⟨rfl, B6, p6, f6⟩ := E6
  have c7 : Steps p.tables e below (s₁.setTop (entryFrame m #[.ref b, .int (Int32.ofNat o), .int (Int32.ofNat len)] 6)) (T6.setTop (mkF m 12 #[.val (.ref b), .val (.int (Int32.ofNat o)), .val (.int (Int32.ofNat len)), .val (.ref s.heap.size), .unset, .unset] [.int (Int32.ofNat len)])) := g6
  have c8 : Steps p.tables e below (s₁.setTop (entryFrame m #[.ref b, .int (Int32.ofNat o), .int (Int32.ofNat len)] 6)) (T6.setTop (mkF m 58 #[.val (.ref b), .val (.int (Int32.ofNat o)), .val (.int (Int32.ofNat len)), .val (.ref s.heap.size), .val (.int (Int32.ofNat len)), .unset] [.ref s.heap.size])) := c7.trans (by
    refine XS.istore X6.here hexec rfl (hb hbytes d12) rfl rfl ?_
    refine XS.iload X6.here hexec rfl (hb hbytes d14) rfl ?_
    refine XS.iloadN X6.here hexec rfl (hb hbytes d16) rfl ?_
    refine XS.icmpYes X6.here hexec rfl (pc0 := 17) rfl (hb hbytes d17) rfl (ii_eq_t rfl) (by decide) rfl ?_
    refine XS.aloadN X6.here hexec rfl (hb hbytes d57) rfl rfl ?_
    exact Steps.refl _)
  have X8 := X6.wide (L' := []) (cells' := 1) (slots' := len) (fun x hx hlt => by
    simp only [List.nil_append, copyLocs, List.mem_map, List.mem_range] at hx
    obtain ⟨i, -, rfl⟩ := hx
    exact absurd hlt (Nat.lt_irrefl _)) (Nat.le_refl _) (by omega)
  exact ⟨T6, some (.ref s.heap.size), _, _, _, X8, rfl, rfl, rfl, (fun h => by cases h), ⟨⟨rfl, B6, ba3.like (X3.warmed.alike.symm.trans X6.warmed.alike) p6.1 f6.1 f6.2.1 f6.2.2.1, f6.2.1.trans bv3, by rw [X6.warmed.alike.findClass, f6.1]; exact bf3, by rw [f6.2.2.1, bs3]; simp, fun j hj => by rw [f6.2.2.2 j, if_pos (by omega)]; rfl, kp3.put p6 (Nat.le_refl _)⟩, by rw [p6.2.2, bh3, hh0]; simp⟩, fun fs hl => c8.trans (X8.areturnOut hexec rfl hret rfl (hb hbytes d58) hl)⟩
end Cmp3
namespace CodL
def yN : MethodName := ⟨"java/lang/StringUTF16", "coderFromArrayLen", "([BI)B"⟩
abbrev yB : ByteArray := jdk_52_method_15_code
theorem d0 : decode yB 0 = .ok (.iload_n 1, 1) := by decide +kernel
theorem d1 : decode yB 1 = .ok (.aload_n 0, 1) := by decide +kernel
theorem d2 : decode yB 2 = .ok (.arraylength, 1) := by decide +kernel
theorem d3 : decode yB 3 = .ok (.isub, 1) := by decide +kernel
theorem d4 : decode yB 4 = .ok (.bipush 31, 2) := by decide +kernel
theorem d6 : decode yB 6 = .ok (.iushr, 1) := by decide +kernel
theorem d7 : decode yB 7 = .ok (.i2b, 1) := by decide +kernel
theorem d8 : decode yB 8 = .ok (.ireturn, 1) := by decide +kernel
def site : List Cond := []
def tab : Cond := tabOf yN yB 2 (some .byte) site
def P (d : Addr) (B : Cell) (args : Array Value) (s : State) : Prop := args = #[.ref d, .int (Int32.ofNat B.slots.size)] ∧ Arr .byte d B s
def E (r : Option Value) (s u : State) : Prop := XT.PureE (some (.int 0)) r s u
/-- an array as long as the number of chars: LATIN1 -/
theorem law (l : Launch) (d : Addr) (B : Cell) : Law l yN 2 2 0 0 yB 2 (some .byte) site (P d B) E [] 0 0 := by
  refine Law.of_walk (plainFor_of_name (by decide +kernel)) (by decide +kernel) (by decide +kernel) (by decide) (fun _ _ h => by rw [h.1]; rfl) (fun _ U U' hal hh h => ⟨h.1, h.2.mv hal hh⟩) (fun r U U' V V' h1 hal h2 h => XT.PureE.mv r U U' V V' h1 hal h2 h) ?_
  intro p e s m args below meth c s₁ X0 hexec hbytes hml hret hlk hnm hown hh0 W hP
  obtain ⟨rfl, hB⟩ := hP
  have hB0 := hB.mv X0.warmed.alike hh0
  have c1 : Steps p.tables e below (s₁.setTop (entryFrame m #[.ref d, .int (Int32.ofNat B.slots.size)] 2)) (s₁.setTop (mkF m 0 #[.val (.ref d), .val (.int (Int32.ofNat B.slots.size))] [])) := entry rfl
  have c2 : Steps p.tables e below (s₁.setTop (entryFrame m #[.ref d, .int (Int32.ofNat B.slots.size)] 2)) (s₁.setTop (mkF m 2 #[.val (.ref d), .val (.int (Int32.ofNat B.slots.size))] [.ref d, .int (Int32.ofNat B.slots.size)])) := c1.trans (by
    refine XS.iloadN X0.here hexec rfl (hb hbytes d0) rfl ?_
    refine XS.aloadN X0.here hexec rfl (hb hbytes d1) rfl rfl ?_
    exact Steps.refl _)
  have c3 : Steps p.tables e below (s₁.setTop (entryFrame m #[.ref d, .int (Int32.ofNat B.slots.size)] 2)) (s₁.setTop (mkF m 8 #[.val (.ref d), .val (.int (Int32.ofNat B.slots.size))] [.int (lo8 (ushr (Int32.ofNat B.slots.size - Int32.ofNat B.slots.size) 31))])) := c2.trans (by
    refine X0.alen hexec hB0 rfl rfl (hb hbytes d2) ?_
    refine XS.isub X0.here hexec rfl (hb hbytes d3) rfl ?_
    refine bipushV X0.here hexec rfl 31 (hb hbytes d4) (by decide) ?_
    refine iushr X0.here hexec rfl (hb hbytes d6) rfl ?_
    refine i2b X0.here hexec rfl (hb hbytes d7) rfl ?_
    exact Steps.refl _)
  have e0 : lo8 (ushr (Int32.ofNat B.slots.size - Int32.ofNat B.slots.size) 31) = 0 := by rw [Int32.sub_self]; decide
  rw [e0] at c3
  exact ⟨s₁, some (.int 0), _, _, _, X0, rfl, rfl, rfl, (fun h => by cases h), ⟨rfl, hh0⟩, fun fs hl => c3.trans (X0.ireturnOut hexec hret rfl (Or.inr (Or.inr (Or.inl rfl))) (hb hbytes d8) hl)⟩
end CodL
/-- the String at a is Latin-1 over a new byte[] (the heap's one new cell): the low bytes of the len chars of A from o on; every cell but a is kept -/
def Got (a : Addr) (D : Cell) (fV fC : Field) (A : Cell) (o len : Nat) (r : Option Value) (s u : State) : Prop := r = none ∧ ∃ D' V : Cell, Blank "java/lang/String" a D' u ∧ Same D D' [fV.slot, fC.slot] ∧ D'.slots[fV.slot]? = some (.ref s.heap.size) ∧ D'.slots[fC.slot]? = some (.int 0) ∧ Arr .byte s.heap.size V u ∧ V.vm = .none ∧ u.vm.findClass "[B" = some V.cls ∧ V.slots.size = len ∧ (∀ j, j < len → V.slots[j]? = some (.int (lo8 (cv A (o + j))))) ∧ (∀ (y : Addr) (c : Cell), y ≠ a → s.heap[y]? = some c → u.heap[y]? = some c) ∧ u.heap.size = s.heap.size + 1
theorem Got.mv {a : Addr} {D A : Cell} {fV fC : Field} {o len : Nat} : ∀ r (U U' V V' : State), U'.heap = U.heap → V.vm.Alike V'.vm → V'.heap = V.heap → Got a D fV fC A o len r U V → Got a D fV fC A o len r U' V' :=
  fun r U U' V V' h1 hal h2 ⟨e0, D', X, a1, a2, a3, a4, a5, a6, a7, a8, a9, a10, a11⟩ => ⟨e0, D', X, a1.mv hal h2, a2, by rw [h1]; exact a3, a4, by rw [h1]; exact a5.mv hal h2, a6, by rw [hal.findClass]; exact a7, a8, a9, by rw [h1, h2]; exact a10, by rw [h1, h2]; exact a11⟩
namespace New4
def yN : MethodName := ⟨"java/lang/String", "<init>", "([CIILjava/lang/Void;)V"⟩
abbrev yB : ByteArray := jdk_42_method_149_code
theorem d0 : decode yB 0 = .ok (.aload_n 0, 1) := by decide +kernel
theorem d1 : decode yB 1 = .ok (.invokespecial 1, 3) := by decide +kernel
theorem d4 : decode yB 4 = .ok (.iload_n 3, 1) := by decide +kernel
theorem d5 : decode yB 5 = .ok (.ifCond (.ne) 22, 3) := by decide +kernel
theorem d27 : decode yB 27 = .ok (.getstatic 38, 3) := by decide +kernel
theorem d30 : decode yB 30 = .ok (.ifCond (.eq) 28, 3) := by decide +kernel
theorem d33 : decode yB 33 = .ok (.aload_n 1, 1) := by decide +kernel
theorem d34 : decode yB 34 = .ok (.iload_n 2, 1) := by decide +kernel
theorem d35 : decode yB 35 = .ok (.iload_n 3, 1) := by decide +kernel
theorem d36 : decode yB 36 = .ok (.invokestatic 177, 3) := by decide +kernel
theorem d39 : decode yB 39 = .ok (.astore 5, 2) := by decide +kernel
theorem d41 : decode yB 41 = .ok (.aload_n 0, 1) := by decide +kernel
theorem d42 : decode yB 42 = .ok (.aload 5, 2) := by decide +kernel
theorem d44 : decode yB 44 = .ok (.iload_n 3, 1) := by decide +kernel
theorem d45 : decode yB 45 = .ok (.invokestatic 47, 3) := by decide +kernel
theorem d48 : decode yB 48 = .ok (.putfield 15, 3) := by decide +kernel
theorem d51 : decode yB 51 = .ok (.aload_n 0, 1) := by decide +kernel
theorem d52 : decode yB 52 = .ok (.aload 5, 2) := by decide +kernel
theorem d54 : decode yB 54 = .ok (.putfield 9, 3) := by decide +kernel
theorem d57 : decode yB 57 = .ok (.return_, 1) := by decide +kernel
def site : List Cond := [.fieldLink "java/lang/String" 38 "java/lang/String" "COMPACT_STRINGS" "Z", Cmp3.tab, CodL.tab, .laysFinal "java/lang/String" "java/lang/String" "value" "[B", .fieldLink "java/lang/String" 9 "java/lang/String" "value" "[B", .laysFinal "java/lang/String" "java/lang/String" "coder" "B", .fieldLink "java/lang/String" 15 "java/lang/String" "coder" "B"] ++ objW "java/lang/String" 1 ++ staticW "java/lang/String" 177 Cmp3.yN ++ staticW "java/lang/String" 47 CodL.yN
def tab : Cond := tabOf yN yB 6 none site
def P (a : Addr) (D : Cell) (fV fC : Field) (b : Addr) (A : Cell) (z : Int32) (o len : Nat) (args : Array Value) (s : State) : Prop := args = #[.ref a, .ref b, .int (Int32.ofNat o), .int (Int32.ofNat len), .null] ∧ Blank "java/lang/String" a D s ∧ Found "java/lang/String" "value" "[B" fV s ∧ Found "java/lang/String" "coder" "B" fC s ∧ Ch b A s ∧ StaticIs s "java/lang/String" "COMPACT_STRINGS" "Z" (.int z) ∧ ¬ z = 0 ∧ 0 < len ∧ o + len ≤ A.slots.size ∧ len ≤ 536870912 ∧ ∀ i, i < len → ¬ 255 < cv A (o + i)
def E (a : Addr) (D : Cell) (fV fC : Field) (A : Cell) (o len : Nat) (r : Option Value) (s u : State) : Prop := Got a D fV fC A o len r s u
/-- len > 0, no char of the range above 255: a Latin-1 String of their low bytes -/
theorem law (l : Launch) (a : Addr) (D : Cell) (fV fC : Field) (b : Addr) (A : Cell) (z : Int32) (o len : Nat) : Law l yN 5 4 2 35 yB 6 none site (P a D fV fC b A z o len) (E a D fV fC A o len) [⟨a, fC.slot⟩, ⟨a, fV.slot⟩] 1 len := by
  refine Law.of_walk (plainFor_of_name (by decide +kernel)) (by decide +kernel) (by decide +kernel) (by decide) (fun _ _ h => by rw [h.1]; rfl) (fun _ U U' hal hh h => ⟨h.1, h.2.1.mv hal hh, h.2.2.1.al hal, h.2.2.2.1.al hal, h.2.2.2.2.1.mv hal hh, h.2.2.2.2.2.1.there hal hh, h.2.2.2.2.2.2⟩) (fun r U U' V V' h1 hal h2 h => Got.mv r U U' V V' h1 hal h2 h) ?_
  intro p e s m args below meth c s₁ X0 hexec hbytes hml hret hlk hnm hown hh0 W hP
  obtain ⟨rfl, hB, f1, f2, hA, s1, hz, l0, l1, l2, hp⟩ := hP
  have a31 := hA.1.2.2.2
  have c1 : Steps p.tables e below (s₁.setTop (entryFrame m #[.ref a, .ref b, .int (Int32.ofNat o), .int (Int32.ofNat len), .null] 6)) (s₁.setTop (mkF m 0 #[.val (.ref a), .val (.ref b), .val (.int (Int32.ofNat o)), .val (.int (Int32.ofNat len)), .val .null, .unset] [])) := entry rfl
  have c2 : Steps p.tables e below (s₁.setTop (entryFrame m #[.ref a, .ref b, .int (Int32.ofNat o), .int (Int32.ofNat len), .null] 6)) (s₁.setTop (mkF m 1 #[.val (.ref a), .val (.ref b), .val (.int (Int32.ofNat o)), .val (.int (Int32.ofNat len)), .val .null, .unset] [.ref a])) := c1.trans (by
    refine XS.aloadN X0.here hexec rfl (hb hbytes d0) rfl rfl ?_
    exact Steps.refl _)
  obtain ⟨T3, X3, q3, st3⟩ := X0.oinit hexec hown (wks W (objW "java/lang/String" 1)) (g := (mkF m 1 #[.val (.ref a), .val (.ref b), .val (.int (Int32.ofNat o)), .val (.int (Int32.ofNat len)), .val .null, .unset] [.ref a])) rfl (by rw [hml]; rfl) (rest := []) rfl (hb hbytes d1) (W := 0) (by show 2 * 0 + 0 ≤ _; decide) (Nat.le_of_ble_eq_true rfl) (Nat.le_of_ble_eq_true rfl)
  have hh3 := q3.trans hh0
  have c4 : Steps p.tables e below (s₁.setTop (entryFrame m #[.ref a, .ref b, .int (Int32.ofNat o), .int (Int32.ofNat len), .null] 6)) (T3.setTop (mkF m 27 #[.val (.ref a), .val (.ref b), .val (.int (Int32.ofNat o)), .val (.int (Int32.ofNat len)), .val .null, .unset] [])) := (c2.trans (st3 _ (Steps.refl _))).trans (by
    refine XS.iloadN X3.here hexec rfl (hb hbytes d4) rfl ?_
    refine XS.ifYes X3.here hexec rfl (pc0 := 5) rfl (hb hbytes d5) rfl (i0_ne_t (nz32 (by omega) l0)) (by decide) rfl ?_
    exact Steps.refl _)
  obtain ⟨T5, X5, q5, st5⟩ := X3.sget hexec hown (wk W (.fieldLink "java/lang/String" 38 "java/lang/String" "COMPACT_STRINGS" "Z")) s1 (fun _ _ h => by rw [hh3]; exact h) (g := (mkF m 27 #[.val (.ref a), .val (.ref b), .val (.int (Int32.ofNat o)), .val (.int (Int32.ofNat len)), .val .null, .unset] [])) rfl (hb hbytes d27)
  have hh5 := q5.trans hh3
  have c6 : Steps p.tables e below (s₁.setTop (entryFrame m #[.ref a, .ref b, .int (Int32.ofNat o), .int (Int32.ofNat len), .null] 6)) (T5.setTop (mkF m 30 #[.val (.ref a), .val (.ref b), .val (.int (Int32.ofNat o)), .val (.int (Int32.ofNat len)), .val .null, .unset] [.int z])) := c4.trans (st5 _ (Steps.refl _))
  have c7 : Steps p.tables e below (s₁.setTop (entryFrame m #[.ref a, .ref b, .int (Int32.ofNat o), .int (Int32.ofNat len), .null] 6)) (T5.setTop (mkF m 36 #[.val (.ref a), .val (.ref b), .val (.int (Int32.ofNat o)), .val (.int (Int32.ofNat len)), .val .null, .unset] [.int (Int32.ofNat len), .int (Int32.ofNat o), .ref b])) := c6.trans (by
    refine XS.ifNo X5.here hexec rfl (hb hbytes d30) rfl (i0_eq_f hz) ?_
    refine XS.aloadN X5.here hexec rfl (hb hbytes d33) rfl rfl ?_
    refine XS.iloadN X5.here hexec rfl (hb hbytes d34) rfl ?_
    refine XS.iloadN X5.here hexec rfl (hb hbytes d35) rfl ?_
    exact Steps.refl _)
  obtain ⟨v8, T8, X8, E8, g8⟩ := X5.callS hexec (Cmp3.law l b A o len) hown (wks W (staticW "java/lang/String" 177 Cmp3.yN)) (wk W Cmp3.tab) (W := 0) (Nat.le_of_ble_eq_true rfl) (Nat.le_of_ble_eq_true rfl) (Nat.le_refl _) (by show 0 + len ≤ len; omega) (g := (mkF m 36 #[.val (.ref a), .val (.ref b), .val (.int (Int32.ofNat o)), .val (.int (Int32.ofNat len)), .val .null, .unset] [.int (Int32.ofNat len), .int (Int32.ofNat o), .ref b])) rfl (by rw [hml]; rfl) c7 (argsL := [.ref b, .int (Int32.ofNat o), .int (Int32.ofNat len)]) (rest := []) rfl rfl (by show 2 * 0 + 0 ≤ _; decide) (hb hbytes d36) (⟨rfl, hA.mv X5.warmed.alike hh5, l1, l2, hp⟩)
  obtain ⟨e8, z8⟩ := E8
  obtain ⟨rfl, N, n1, n2, n3, n4, n5, n6⟩ := NewArr.mv _ T5 s _ _ hh5.symm (Vm.Alike.refl _) rfl e8
  rw [hh5] at z8
  have hB1 := hB.keep X8.warmed.alike (n6 _ _ hB.1)
  have hne : s.heap.size ≠ a := (Nat.ne_of_lt (Array.getElem?_eq_some_iff.mp hB.1).1).symm
  have c9 : Steps p.tables e below (s₁.setTop (entryFrame m #[.ref a, .ref b, .int (Int32.ofNat o), .int (Int32.ofNat len), .null] 6)) (T8.setTop (mkF m 39 #[.val (.ref a), .val (.ref b), .val (.int (Int32.ofNat o)), .val (.int (Int32.ofNat len)), .val .null, .unset] [.ref s.heap.size])) := g8
  have c10 : Steps p.tables e below (s₁.setTop (entryFrame m #[.ref a, .ref b, .int (Int32.ofNat o), .int (Int32.ofNat len), .null] 6)) (T8.setTop (mkF m 45 #[.val (.ref a), .val (.ref b), .val (.int (Int32.ofNat o)), .val (.int (Int32.ofNat len)), .val .null, .val (.ref s.heap.size)] [.int (Int32.ofNat N.slots.size), .ref s.heap.size, .ref a])) := by
    have hc : Steps p.tables e below (s₁.setTop (entryFrame m #[.ref a, .ref b, .int (Int32.ofNat o), .int (Int32.ofNat len), .null] 6)) (T8.setTop (mkF m 45 #[.val (.ref a), .val (.ref b), .val (.int (Int32.ofNat o)), .val (.int (Int32.ofNat len)), .val .null, .val (.ref s.heap.size)] [.int (Int32.ofNat len), .ref s.heap.size, .ref a])) := c9.trans (by
      refine XS.astore X8.here hexec rfl (hb hbytes d39) rfl rfl rfl ?_
      refine XS.aloadN X8.here hexec rfl (hb hbytes d41) rfl rfl ?_
      refine XS.aload X8.here hexec rfl (hb hbytes d42) rfl rfl ?_
      refine XS.iloadN X8.here hexec rfl (hb hbytes d44) rfl ?_
      exact Steps.refl _)
    rw [n4]; exact hc
  obtain ⟨v11, T11, X11, E11, g11⟩ := X8.callS hexec (CodL.law l s.heap.size N) hown (wks W (staticW "java/lang/String" 47 CodL.yN)) (wk W CodL.tab) (W := 1) (Nat.le_of_ble_eq_true rfl) (Nat.le_of_ble_eq_true rfl) (Nat.le_refl _) (by show 0 + len + 0 ≤ len; omega) (g := (mkF m 45 #[.val (.ref a), .val (.ref b), .val (.int (Int32.ofNat o)), .val (.int (Int32.ofNat len)), .val .null, .val (.ref s.heap.size)] [.int (Int32.ofNat N.slots.size), .ref s.heap.size, .ref a])) rfl (by rw [hml]; rfl) c10 (argsL := [.ref s.heap.size, .int (Int32.ofNat N.slots.size)]) (rest := [.ref a]) rfl rfl (by show 2 * 0 + (1 + 0) ≤ _; decide) (hb hbytes d45) (⟨rfl, n1⟩)
  obtain ⟨rfl, q11⟩ := E11
  have hB11 := hB1.mv (X8.warmed.alike.symm.trans X11.warmed.alike) q11
  have c12 : Steps p.tables e below (s₁.setTop (entryFrame m #[.ref a, .ref b, .int (Int32.ofNat o), .int (Int32.ofNat len), .null] 6)) (T11.setTop (mkF m 48 #[.val (.ref a), .val (.ref b), .val (.int (Int32.ofNat o)), .val (.int (Int32.ofNat len)), .val .null, .val (.ref s.heap.size)] [.int 0, .ref a])) := g11
  obtain ⟨T13, X13, p13, bl13, sl13, st13⟩ := X11.finit hexec hown (wk W (.fieldLink "java/lang/String" 15 "java/lang/String" "coder" "B")) (Or.inr ⟨_, (wk W (.laysFinal "java/lang/String" "java/lang/String" "coder" "B"))⟩) (Or.inl ⟨rfl, hnm⟩) f2 (Or.inl rfl) hB11 (t := .byte) (by decide +kernel) rfl (g := (mkF m 48 #[.val (.ref a), .val (.ref b), .val (.int (Int32.ofNat o)), .val (.int (Int32.ofNat len)), .val .null, .val (.ref s.heap.size)] [.int 0, .ref a])) rfl (rest := []) rfl (hb hbytes d48)
  have c14 : Steps p.tables e below (s₁.setTop (entryFrame m #[.ref a, .ref b, .int (Int32.ofNat o), .int (Int32.ofNat len), .null] 6)) (T13.setTop (mkF m 54 #[.val (.ref a), .val (.ref b), .val (.int (Int32.ofNat o)), .val (.int (Int32.ofNat len)), .val .null, .val (.ref s.heap.size)] [.ref s.heap.size, .ref a])) := (c12.trans (st13 _ (Steps.refl _))).trans (by
    refine XS.aloadN X13.here hexec rfl (hb hbytes d51) rfl rfl ?_
    refine XS.aload X13.here hexec rfl (hb hbytes d52) rfl rfl ?_
    exact Steps.refl _)
  obtain ⟨T15, X15, p15, bl15, sl15, st15⟩ := X13.finit hexec hown (wk W (.fieldLink "java/lang/String" 9 "java/lang/String" "value" "[B")) (Or.inr ⟨_, (wk W (.laysFinal "java/lang/String" "java/lang/String" "value" "[B"))⟩) (Or.inl ⟨rfl, hnm⟩) f1 (Or.inl rfl) bl13 (t := (.array .byte)) (by decide +kernel) rfl (g := (mkF m 54 #[.val (.ref a), .val (.ref b), .val (.int (Int32.ofNat o)), .val (.int (Int32.ofNat len)), .val .null, .val (.ref s.heap.size)] [.ref s.heap.size, .ref a])) rfl (rest := []) rfl (hb hbytes d54)
  have c16 : Steps p.tables e below (s₁.setTop (entryFrame m #[.ref a, .ref b, .int (Int32.ofNat o), .int (Int32.ofNat len), .null] 6)) (T15.setTop (mkF m 57 #[.val (.ref a), .val (.ref b), .val (.int (Int32.ofNat o)), .val (.int (Int32.ofNat len)), .val .null, .val (.ref s.heap.size)] [])) := c14.trans (st15 _ (Steps.refl _))
  have ap := apart (Or.inr ⟨_, (wk W (.laysFinal "java/lang/String" "java/lang/String" "value" "[B"))⟩) (Or.inr ⟨_, (wk W (.laysFinal "java/lang/String" "java/lang/String" "coder" "B"))⟩) f1 f2 (t₁ := .array .byte) (t₂ := .byte) (by decide +kernel) (by decide +kernel) (by decide)
  have al := X8.warmed.alike.symm.trans X15.warmed.alike
  have n7 : T11.heap[s.heap.size]? = some N := by rw [q11]; exact n1.1
  exact ⟨T15, none, _, _, _, X15, by simp, rfl, by omega, (fun _ => rfl), ⟨rfl, _, N, bl15, ((Same.refl D _).set _ (by simp)).set _ (by simp), sl15, (Cell.slots_setSlot_ne _ ap).trans sl13, n1.keep al (p15.other hne (p13.other hne n7)), n2, by rw [al.findClass]; exact n3, n4, n5, fun y c h1 h2 => p15.other h1 (p13.other h1 (by rw [q11]; exact n6 y c h2)), by rw [p15.2.2, p13.2.2, q11]; exact z8⟩, fun fs hl => c16.trans (X15.returnOut hexec hret (hb hbytes d57) hl)⟩
end New4
namespace New1
def yN : MethodName := ⟨"java/lang/String", "<init>", "([C)V"⟩
abbrev yB : ByteArray := jdk_42_method_3_code
theorem d0 : decode yB 0 = .ok (.aload_n 0, 1) := by decide +kernel
theorem d1 : decode yB 1 = .ok (.aload_n 1, 1) := by decide +kernel
theorem d2 : decode yB 2 = .ok (.iconst 0, 1) := by decide +kernel
theorem d3 : decode yB 3 = .ok (.aload_n 1, 1) := by decide +kernel
theorem d4 : decode yB 4 = .ok (.arraylength, 1) := by decide +kernel
theorem d5 : decode yB 5 = .ok (.aconst_null, 1) := by decide +kernel
theorem d6 : decode yB 6 = .ok (.invokespecial 27, 3) := by decide +kernel
theorem d9 : decode yB 9 = .ok (.return_, 1) := by decide +kernel
def site : List Cond := [New4.tab] ++ initW "java/lang/String" 27 New4.yN
def tab : Cond := tabOf yN yB 2 none site
def P (a : Addr) (D : Cell) (fV fC : Field) (b : Addr) (A : Cell) (z : Int32) (args : Array Value) (s : State) : Prop := args = #[.ref a, .ref b] ∧ Blank "java/lang/String" a D s ∧ Found "java/lang/String" "value" "[B" fV s ∧ Found "java/lang/String" "coder" "B" fC s ∧ Ch b A s ∧ StaticIs s "java/lang/String" "COMPACT_STRINGS" "Z" (.int z) ∧ ¬ z = 0 ∧ 0 < A.slots.size ∧ A.slots.size ≤ 536870912 ∧ ∀ i, i < A.slots.size → ¬ 255 < cv A i
def E (a : Addr) (D : Cell) (fV fC : Field) (A : Cell) (r : Option Value) (s u : State) : Prop := Got a D fV fC A 0 A.slots.size r s u
/-- new String(chars), not empty, no char above 255: a Latin-1 String of their low bytes -/
theorem law (l : Launch) (a : Addr) (D : Cell) (fV fC : Field) (b : Addr) (A : Cell) (z : Int32) : Law l yN 2 1 3 52 yB 2 none site (P a D fV fC b A z) (E a D fV fC A) [⟨a, fC.slot⟩, ⟨a, fV.slot⟩] 1 A.slots.size := by
  refine Law.of_walk (plainFor_of_name (by decide +kernel)) (by decide +kernel) (by decide +kernel) (by decide) (fun _ _ h => by rw [h.1]; rfl) (fun _ U U' hal hh h => ⟨h.1, h.2.1.mv hal hh, h.2.2.1.al hal, h.2.2.2.1.al hal, h.2.2.2.2.1.mv hal hh, h.2.2.2.2.2.1.there hal hh, h.2.2.2.2.2.2⟩) (fun r U U' V V' h1 hal h2 h => Got.mv r U U' V V' h1 hal h2 h) ?_
  intro p e s m args below meth c s₁ X0 hexec hbytes hml hret hlk hnm hown hh0 W hP
  obtain ⟨rfl, hB, f1, f2, hA, s1, hz, l0, l2, hp⟩ := hP
  have c1 : Steps p.tables e below (s₁.setTop (entryFrame m #[.ref a, .ref b] 2)) (s₁.setTop (mkF m 0 #[.val (.ref a), .val (.ref b)] [])) := entry rfl
  have c2 : Steps p.tables e below (s₁.setTop (entryFrame m #[.ref a, .ref b] 2)) (s₁.setTop (mkF m 6 #[.val (.ref a), .val (.ref b)] [.null, .int (Int32.ofNat A.slots.size), .int 0, .ref b, .ref a])) := c1.trans (by
    refine XS.aloadN X0.here hexec rfl (hb hbytes d0) rfl rfl ?_
    refine XS.aloadN X0.here hexec rfl (hb hbytes d1) rfl rfl ?_
    refine iconstV X0.here hexec rfl 0 (hb hbytes d2) (by decide) ?_
    refine XS.aloadN X0.here hexec rfl (hb hbytes d3) rfl rfl ?_
    refine X0.alen hexec (hA.1.mv X0.warmed.alike hh0) rfl rfl (hb hbytes d4) ?_
    refine XS.aconstNull X0.here hexec rfl (hb hbytes d5) ?_
    exact Steps.refl _)
  obtain ⟨v3, T3, X3, E3, g3⟩ := X0.callN hexec (New4.law l a D fV fC b A z 0 A.slots.size) rfl hown (wks W (initW "java/lang/String" 27 New4.yN)) (W New4.tab (by simp only [site, List.mem_cons, List.mem_append, true_or, or_true])) (W := 0) (Nat.le_of_ble_eq_true rfl) (Nat.le_of_ble_eq_true rfl) (Nat.le_refl _) (by show 0 + A.slots.size ≤ A.slots.size; omega) (g := (mkF m 6 #[.val (.ref a), .val (.ref b)] [.null, .int (Int32.ofNat A.slots.size), .int (Int32.ofNat 0), .ref b, .ref a])) rfl (by rw [hml]; rfl) c2 (argsL := [.ref b, .int (Int32.ofNat 0), .int (Int32.ofNat A.slots.size), .null]) (rest := []) rfl rfl (by show 2 * 0 + 0 ≤ _; decide) (hb hbytes d6) (⟨rfl, hB.mv X0.warmed.alike hh0, f1.al X0.warmed.alike, f2.al X0.warmed.alike, hA.mv X0.warmed.alike hh0, s1.there X0.warmed.alike hh0, hz, l0, by omega, l2, fun i hi => by rw [Nat.zero_add]; exact hp i hi⟩)
  have e0 := Got.mv _ s₁ s _ _ hh0.symm (Vm.Alike.refl _) rfl E3
  obtain rfl := e0.1
  have c4 : Steps p.tables e below (s₁.setTop (entryFrame m #[.ref a, .ref b] 2)) (T3.setTop (mkF m 9 #[.val (.ref a), .val (.ref b)] [])) := g3
  exact ⟨T3, none, _, _, _, X3, by simp, rfl, by omega, (fun _ => rfl), e0, fun fs hl => c4.trans (X3.returnOut hexec hret (hb hbytes d9) hl)⟩
theorem pays {l : Launch} {R : Room} {p : Program} {e : Env} {below : List Frame} {s : State} {sargs : Array Value} {len W : Nat} (a : Addr) (D : Cell) (fV fC : Field) (b : Addr) (A : Cell) (z : Int32) (htab : tab.before sargs s = true) (hfr : 4 ≤ R.frames) (hlo : W + 65 ≤ R.locals) :
    Back l R p e below s sargs yN len W (fun A₁ a₁ => A₁.cells + 1 ≤ R.cells ∧ A₁.slots + A.slots.size ≤ R.slots ∧ P a D fV fC b A z a₁ A₁.U) (fun A₁ _ v₁ B₁ => E a D fV fC A v₁ A₁.U B₁.U ∧ B₁.locs = A₁.locs ++ [⟨a, fC.slot⟩, ⟨a, fV.slot⟩] ∧ B₁.cells = A₁.cells + 1 ∧ B₁.slots = A₁.slots + A.slots.size) :=
  (law l a D fV fC b A z).pays htab hfr (by omega)
end New1
/-- the byte, read back as charAt reads it, is the char -/
theorem lo8_mask {x : Int32} (h0 : ¬ x < 0) (h1 : ¬ 255 < x) : lo8 x &&& 255 = x := by
  have t : ∀ k : Fin 256, lo8 (Int32.ofNat k.val) &&& 255 = Int32.ofNat k.val := by decide +kernel
  rw [Int32.lt_iff_toInt_lt] at h0 h1
  have e0 : (0 : Int32).toInt = 0 := rfl
  have e1 : (255 : Int32).toInt = 255 := rfl
  obtain ⟨k, hk⟩ : ∃ k : Nat, x.toInt = k := ⟨x.toInt.toNat, by omega⟩
  have hx : x = Int32.ofNat k := Int32.toInt_inj.mp (by rw [hk, Int32.toInt_ofNat_small (by omega)])
  rw [hx]
  exact t ⟨k, by omega⟩
end StrChars
namespace StrChars.Road
open Jvm Sem ClassFile Op Lib Jvm.Stand Jvm.Free Jvm.Free.XT
open Jvm.Lib.Cold (StaticIs)
abbrev ST : String := "java/lang/String"
/-- every table word that New1's law asks, flat -/
abbrev words : List Jvm.Cond := [.code New1.yN New1.yB 2 none, .initialized ST, .methodLink ST 27 New4.yN, .instanceMethod New4.yN,
  .code New4.yN New4.yB 6 none, .fieldLink ST 38 ST "COMPACT_STRINGS" "Z", .laysFinal ST ST "value" "[B", .fieldLink ST 9 ST "value" "[B", .laysFinal ST ST "coder" "B", .fieldLink ST 15 ST "coder" "B",
  .methodLink ST 1 Lib.objectInit, .instanceMethod Lib.objectInit, .code Lib.objectInit ⟨#[0xb1]⟩ 1 none, .methodLink ST 177 Cmp3.yN, .static Cmp3.yN, .methodLink ST 47 CodL.yN, .static CodL.yN,
  .code Cmp3.yN Cmp3.yB 6 (some (.array .byte)), .initialized U16, .arrayClass .byte, .methodLink U16 115 Cmp5.yN, .static Cmp5.yN, .code Cmp5.yN Cmp5.yB 7 (some .int), .code CodL.yN CodL.yB 2 (some .byte)]
theorem tab_of {a : Array Value} {s : State} (h : ∀ w ∈ words, w.before a s = true) : New1.tab.before a s = true := by
  have h5 : Cmp5.tab.before a s = true := unparts (wk h (.code Cmp5.yN Cmp5.yB 7 (some .int))) (wks h (.initialized Cmp5.yN.cls :: Cmp5.site))
  have hc : CodL.tab.before a s = true := unparts (wk h (.code CodL.yN CodL.yB 2 (some .byte))) (wks h (.initialized CodL.yN.cls :: CodL.site))
  have q5 : ∀ w ∈ Cmp5.tab :: words, w.before a s = true := fun w hw => (List.mem_cons.mp hw).elim (fun e => e ▸ h5) (h w)
  have h3 : Cmp3.tab.before a s = true := unparts (wk q5 (.code Cmp3.yN Cmp3.yB 6 (some (.array .byte)))) (wks q5 (.initialized Cmp3.yN.cls :: Cmp3.site))
  have q3 : ∀ w ∈ Cmp3.tab :: CodL.tab :: words, w.before a s = true := fun w hw => (List.mem_cons.mp hw).elim (fun e => e ▸ h3) fun hw => (List.mem_cons.mp hw).elim (fun e => e ▸ hc) (h w)
  have h4 : New4.tab.before a s = true := unparts (wk q3 (.code New4.yN New4.yB 6 none)) (wks q3 (.initialized New4.yN.cls :: New4.site))
  have q4 : ∀ w ∈ New4.tab :: words, w.before a s = true := fun w hw => (List.mem_cons.mp hw).elim (fun e => e ▸ h4) (h w)
  exact unparts (wk q4 (.code New1.yN New1.yB 2 none)) (wks q4 (.initialized New1.yN.cls :: New1.site))
/-- the words ride from the start Z to the walk's own state -/
theorem moved {Z s : State} {a0 args : Array Value} (hZ : Z.Warmed39 s.vm) (hw : ∀ d ∈ words, d.before a0 Z = true) : ∀ d ∈ words, d.before args s = true := fun d hd => by
  have q := hw d hd
  have t : ∀ d ∈ words, d = .arrayClass .byte ∨ (d.onTables && d.keepsFace) = true := by decide +kernel
  rcases t d hd with rfl | t
  · exact RoadKit.mvA hZ q
  · exact RoadKit.mv hZ q t
/-- WHAT COMES BACK, over the tables of the start Z: h the heap at the call, h' behind it -/
def Q (Z : State) (x : Addr) (A : Cell) (h : Heap) (v : Option Value) (h' : Heap) (L : List Loc) : Prop := v = none ∧ (∀ y ∈ L, y.base = x) ∧ RoadKit.Keep h h' [x] ∧ h'.size = h.size + 1 ∧ RoadKit.Exa Z h' x ST ∧ RoadKit.Fld Z h' x ST "value" "[B" (.ref h.size) ∧ RoadKit.Fld Z h' x ST "coder" "B" (.int 0) ∧
  (∃ V : Cell, RoadKit.Arr Z h' h.size V .byte ∧ V.vm = .none ∧ Z.vm.findClass "[B" = some V.cls ∧ V.slots.size = A.slots.size ∧ ∀ j, j < A.slots.size → V.slots[j]? = some (.int (lo8 (cv A j)))) ∧
  ∀ (O n d : String) (w : Value), RoadKit.Fld Z h x O n d w → RoadKit.slotOf Z O n d ≠ RoadKit.slotOf Z ST "value" "[B" → RoadKit.slotOf Z O n d ≠ RoadKit.slotOf Z ST "coder" "B" → RoadKit.Fld Z h' x O n d w
/-- **new String(chars) AT A CALL, IN THE ROAD'S FORM**: for specialBack behind newO: x the fresh String, b the char[] with the cell A -/
theorem back {p : Program} {l : Launch} {e : Env} {R : Room} {s : State} {args : Array Value} {below : List Frame} {len W : Nat} {Z : State} {a0 : Array Value} {h : Heap} (hZ : Z.Warmed39 s.vm) (hw : ∀ d ∈ words, d.before a0 Z = true) {kI : Nat} (wi : (Jvm.Cond.instantiable ST kI).before a0 Z = true)
    {x b : Addr} {A : Cell} {z : Int32} {v0 c0 : Value} (E : RoadKit.Exa Z h x ST) (V : RoadKit.Fld Z h x ST "value" "[B" v0) (C : RoadKit.Fld Z h x ST "coder" "B" c0) (K : RoadKit.Arr Z h b A .char) (hty : Typed .char A) (S : RoadKit.Sta Z h ST "COMPACT_STRINGS" "Z" (.int z)) (hz : ¬ z = 0)
    (l0 : 0 < A.slots.size) (l2 : A.slots.size ≤ 536870912) (hp : ∀ i, i < A.slots.size → ¬ 255 < cv A i) (hfr : 4 ≤ R.frames) (hlo : W + 65 ≤ R.locals) :
    Back l R p e below s args New1.yN len W (fun P a => a = #[.ref x, .ref b] ∧ P.U.heap = h ∧ P.cells + 1 ≤ R.cells ∧ P.slots + A.slots.size ≤ R.slots)
      (fun P _ v B => ∃ L, Q Z x A h v B.U.heap L ∧ B.locs = P.locs ++ L ∧ B.cells = P.cells + 1 ∧ B.slots = P.slots + A.slots.size) := by
  intro m meth c P g ig mk a X hg hsize hdg hW hn hp'
  obtain ⟨rfl, rfl, r1, r2⟩ := hp'
  have al : Z.vm.Alike P.U.vm := hZ.alike.trans X.warmed.alike
  obtain ⟨D, cfV, kV, iV, fV, hD, gV, stV, knV, obV, asV, slV⟩ := id V
  obtain ⟨D', cfC, kC, iC, fC, hD', gC, stC, -, -, asC, slC⟩ := id C
  cases hD.symm.trans hD'
  obtain ⟨D2, kD, e1, e2, e3, e4, e5⟩ := id E
  cases hD.symm.trans e1
  obtain ⟨c2, k2, i1, i2, i3, -⟩ := Cond.instantiable_spec wi
  cases e2.symm.trans i1
  cases e3.symm.trans i2
  obtain ⟨kU, u1, u2⟩ := al.2.2 _ _ e3
  have hB : Blank ST x D P.U := ⟨hD, ⟨knV, fun q hq => by rw [hq] at obV; cases obV⟩, by rw [al.findClass]; exact e2, kU, u1, by rw [u2]; exact i3, by rw [u2]; exact e5 i3⟩
  have F1 : Found ST "value" "[B" fV P.U := ⟨SBG.found_only al ⟨cfV, kV, iV, gV⟩, stV⟩
  have F2 : Found ST "coder" "B" fC P.U := ⟨SBG.found_only al ⟨cfC, kC, iC, gC⟩, stC⟩
  have hA : Ch b A P.U := ⟨⟨K.1, State.isArrayOf_alike al K.2.1, K.2.2, by omega⟩, hty⟩
  have hS : StaticIs P.U ST "COMPACT_STRINGS" "Z" (.int z) := by
    obtain ⟨cfS, iS, kS, fS, st, cS, t1, t2, t3, t4, t5, t6, t7⟩ := S
    exact StaticIs.there (s := { Z with heap := P.U.heap }) ⟨cfS, iS, kS, fS, st, cS, t1, t2, t3, t4, t5, (fun q => by rw [q] at t6; cases t6), t7⟩ al rfl
  obtain ⟨v, B, X', ⟨⟨hv, E', V', q1, q2, q3, q4, q5, q6, q7, q8, q9, q10, q11⟩, hl, hc, hs⟩, st⟩ := New1.pays x D fV fC b A z (tab_of (moved hZ hw)) hfr hlo m meth c P g ig mk _ X hg hsize hdg hW hn ⟨r1, r2, rfl, hB, F1, F2, hA, hS, hz, l0, l2, hp⟩
  have al' : Z.vm.Alike B.U.vm := hZ.alike.trans X'.warmed.alike
  have hsz : E'.slots.size = D.slots.size := by
    obtain ⟨-, -, -, kB, w1, w2, w3⟩ := q1
    obtain ⟨kB', y1, y2⟩ := al'.2.2 _ _ e3
    rw [q2.2.1] at w1
    cases w1.symm.trans y1
    rw [w3, e5 i3, y2]
  refine ⟨v, B, X', ⟨_, ⟨hv, ?_, ⟨by omega, fun y cy hy hn' => q10 y cy (by simpa using hn') hy, fun y cy hy => ?_⟩, q11, ⟨E', _, q1.1, by rw [q2.2.1]; exact e2, by rw [q2.2.1]; exact e3, by rw [q2.1]; exact obV, fun _ => by rw [hsz]; exact e5 i3⟩,
    ⟨E', cfV, kV, iV, fV, q1.1, gV, stV, by rw [q2.1]; exact knV, by rw [q2.1]; exact obV, by rw [q2.2.1]; exact asV, q3⟩, ⟨E', cfC, kC, iC, fC, q1.1, gC, stC, by rw [q2.1]; exact knV, by rw [q2.1]; exact obV, by rw [q2.2.1]; exact asC, q4⟩,
    ⟨V', ⟨q5.1, State.isArrayOf_alike al'.symm q5.2.1, q5.2.2.1⟩, q6, by rw [← al'.findClass]; exact q7, q8, fun j hj => by have := q9 j hj; rwa [Nat.zero_add] at this⟩, fun O n d w F n1 n2 => ?_⟩, hl, hc, hs⟩, st⟩
  · intro y hy
    simp only [List.mem_cons, List.not_mem_nil, or_false] at hy
    rcases hy with rfl | rfl <;> rfl
  · by_cases q : y = x
    · subst q
      cases hD.symm.trans hy
      exact ⟨E', q1.1, q2.2.1, q2.1, hsz⟩
    · exact ⟨cy, q10 y cy q hy, rfl, rfl, rfl⟩
  · obtain ⟨D3, cf, k, i, f, g1, g2, g3, g4, g5, g6, g7⟩ := F
    cases hD.symm.trans g1
    simp only [RoadKit.slotOf, g2, gV, gC, Option.map_some, Option.getD_some] at n1 n2
    exact ⟨E', cf, k, i, f, q1.1, g2, g3, by rw [q2.1]; exact g4, by rw [q2.1]; exact g5, by rw [q2.2.1]; exact g6, by rw [q2.2.2 f.slot (by simp [n1, n2])]; exact g7⟩
end StrChars.Road
namespace StrChars.Road
open Jvm Sem ClassFile Op Lib Jvm.Stand Jvm.Free Jvm.Free.XT
/-- WHAT COMES BACK, the byte[] as a list of values -/
def QA (Z : State) (x : Addr) (zn : Int32) (cs : List Int32) (h : Heap) (v : Option Value) (h' : Heap) (L : List Loc) : Prop := v = none ∧ (∀ y ∈ L, y.base = x) ∧ RoadKit.Keep h h' [x] ∧ h'.size = h.size + 1 ∧ RoadKit.Exa Z h' x ST ∧ RoadKit.Fld Z h' x ST "value" "[B" (.ref h.size) ∧ RoadKit.Fld Z h' x ST "coder" "B" (.int 0) ∧
  (∃ kb, Z.vm.findClass "[B" = some kb ∧ RoadKit.Arv Z h' h.size kb .byte zn (cs.map fun c => .int (lo8 c)) (.int 0)) ∧
  ∀ (O n d : String) (w : Value), RoadKit.Fld Z h x O n d w → RoadKit.slotOf Z O n d ≠ RoadKit.slotOf Z ST "value" "[B" → RoadKit.slotOf Z O n d ≠ RoadKit.slotOf Z ST "coder" "B" → RoadKit.Fld Z h' x O n d w
/-- **new String(chars) AT A CALL, THE ARRAYS AS LISTS**: the char[] at b holds cs, not empty, no char above 255 -/
theorem backArv {p : Program} {l : Launch} {e : Env} {R : Room} {s : State} {args : Array Value} {below : List Frame} {len W : Nat} {Z : State} {a0 : Array Value} {h : Heap} (hZ : Z.Warmed39 s.vm) (hw : ∀ d ∈ words, d.before a0 Z = true) {kI : Nat} (wi : (Jvm.Cond.instantiable ST kI).before a0 Z = true)
    {x b : Addr} {k : ClassId} {zn z : Int32} {cs : List Int32} {dv v0 c0 : Value} (E : RoadKit.Exa Z h x ST) (V : RoadKit.Fld Z h x ST "value" "[B" v0) (C : RoadKit.Fld Z h x ST "coder" "B" c0) (K : RoadKit.Arv Z h b k .char zn (cs.map Value.int) dv) (S : RoadKit.Sta Z h ST "COMPACT_STRINGS" "Z" (.int z)) (hz : ¬ z = 0)
    (hlen : zn.toNatClampNeg = cs.length) (h0 : 0 < cs.length) (hbig : cs.length ≤ 536870912) (hall : ∀ c ∈ cs, ¬ 255 < c) (hfr : 4 ≤ R.frames) (hlo : W + 65 ≤ R.locals) :
    Back l R p e below s args New1.yN len W (fun P a => a = #[.ref x, .ref b] ∧ P.U.heap = h ∧ P.cells + 1 ≤ R.cells ∧ P.slots + cs.length ≤ R.slots)
      (fun P _ v B => ∃ L, QA Z x zn cs h v B.U.heap L ∧ B.locs = P.locs ++ L ∧ B.cells = P.cells + 1 ∧ B.slots = P.slots + cs.length) := by
  obtain ⟨A, K1, K2, K3, K4, K5, K6⟩ := K
  have e : A.slots.size = cs.length := K3.trans hlen
  have hat : ∀ (i : Nat) (hi : i < cs.length), A.slots[i]? = some (.int cs[i]) := fun i hi => by rw [K5 i (by omega)]; simp [List.getD_eq_getElem?_getD, hi]
  have hcv : ∀ (i : Nat) (hi : i < cs.length), cv A i = cs[i] := fun i hi => by unfold cv; rw [hat i hi]
  have hty : Typed .char A := fun i v hv => by
    have hi : i < A.slots.size := (Array.getElem?_eq_some_iff.mp hv).1
    have q := K5 i hi
    rw [hv] at q
    rw [Option.some.inj q]
    exact K6 i hi
  refine Back.mono (back hZ hw wi E V C K1 hty S hz (by omega) (by omega) (fun i hi => by rw [hcv i (by omega)]; exact hall _ (List.getElem_mem _)) hfr hlo) (fun P a hp => ⟨hp.1, hp.2.1, hp.2.2.1, by rw [e]; exact hp.2.2.2⟩) (fun P a v B hp hq => ?_)
  obtain ⟨L, ⟨q1, q2, q3, q4, q5, q6, q7, ⟨V', v1, v2, v3, v4, v5⟩, q9⟩, hl, hc, hs⟩ := hq
  refine ⟨L, ⟨q1, q2, q3, q4, q5, q6, q7, ⟨V'.cls, v3, V', v1, rfl, by rw [v4, e, hlen], K4, fun i hi => ?_, fun i hi => ?_⟩, q9⟩, hl, hc, by rw [hs, e]⟩
  · have hi' : i < cs.length := by omega
    rw [v5 i (by omega), hcv i hi']; simp [List.getD_eq_getElem?_getD, hi']
  · have hi' : i < cs.length := by omega
    simp only [List.getD_eq_getElem?_getD, List.getElem?_map, List.getElem?_eq_getElem hi', Option.map_some, Option.getD_some]
    exact fits_lo8 _
end StrChars.Road
namespace StrChars.Road
open Jvm Sem ClassFile Op Lib Jvm.Stand Jvm.Free Jvm.Free.XT
/-- WHAT COMES BACK, in the writer's own shape -/
def QV (Z : State) (x : Addr) (N : Int32) (bs : List Int32) (h : Heap) (n0 : Nat) (v : Option Value) (h' : Heap) (L : List Loc) : Prop := v = none ∧ RoadKit.Fr n0 L ∧ RoadKit.Keep h h' [x] ∧ RoadKit.Exa Z h' x ST ∧ RoadKit.Fld Z h' x ST "coder" "B" (.int 0) ∧
  ∃ (t : Addr) (kb : ClassId), n0 ≤ t ∧ h.size ≤ t ∧ ¬ t = x ∧ RoadKit.Fld Z h' x ST "value" "[B" (.ref t) ∧ RoadKit.Arv Z h' t kb .byte N (bs.map Value.int) (.int 0)
/-- **new String(chars) AT A CALL, FOR THE WRITER**: a char[] of n known ints, each 0 to 255 -/
theorem backV {p : Program} {l : Launch} {e : Env} {R : Room} {s : State} {args : Array Value} {below : List Frame} {len W : Nat} {Z : State} {a0 : Array Value} {h : Heap} (hZ : Z.Warmed39 s.vm) (hw : ∀ d ∈ words, d.before a0 Z = true) {kI : Nat} (wi : (Jvm.Cond.instantiable ST kI).before a0 Z = true)
    {x b : Addr} {kC : ClassId} {cs bs : List Int32} {d v0 c0 : Value} {z N : Int32} {n n0 : Nat} (hx0 : n0 ≤ x) (hh0 : n0 ≤ h.size) (E : RoadKit.Exa Z h x ST) (V : RoadKit.Fld Z h x ST "value" "[B" v0) (C : RoadKit.Fld Z h x ST "coder" "B" c0) (K : RoadKit.Arv Z h b kC .char N (cs.map Value.int) d) (S : RoadKit.Sta Z h ST "COMPACT_STRINGS" "Z" (.int z)) (hz : ¬ z = 0)
    (hn : cs.length = n) (hN : N = Int32.ofNat n) (l0 : 0 < n) (l2 : n ≤ 4000) (hp : ∀ c ∈ cs, ¬ c < 0 ∧ ¬ (255 : Int32) < c) (hb : bs = cs.map (fun c => c.toInt8.toInt32)) (hfr : 4 ≤ R.frames) (hlo : W + 65 ≤ R.locals) :
    Back l R p e below s args (⟨"java/lang/String", "<init>", "([C)V"⟩ : MethodName) len W (fun P a => a = #[.ref x, .ref b] ∧ P.U.heap = h ∧ P.cells + 1 ≤ R.cells ∧ P.slots + n ≤ R.slots)
      (fun P _ v B => ∃ L, QV Z x N bs h n0 v B.U.heap L ∧ B.locs = P.locs ++ L ∧ B.cells = P.cells + 1 ∧ B.slots = P.slots + n) := by
  subst hn hN hb
  refine Back.mono (backArv hZ hw wi E V C K S hz (n32 (by omega)) l0 (by omega) (fun c hc => (hp c hc).2) hfr hlo) (fun P a hp => hp) (fun P a v B hp hq => ?_)
  obtain ⟨L, ⟨q1, q2, q3, q4, q5, q6, q7, ⟨kb, v1, v2⟩, q9⟩, hl, hc, hs⟩ := hq
  exact ⟨L, ⟨q1, fun y hy => by rw [q2 y hy]; exact hx0, q3, q5, q7, h.size, kb, hh0, Nat.le_refl _, Nat.ne_of_gt E.lt, q6, by rw [List.map_map]; exact v2⟩, hl, hc, hs⟩
end StrChars.Road
namespace StrChars
open Jvm Sem ClassFile Op Lib Jvm.Stand Jvm.Free.XT Jvm.Free.ALB Jvm.Free.JM Jvm.Free
open Jvm.Lib.Cold (StaticIs)
def hi8 (x : Int32) : Int32 := lo8 (x >>> ((8 : Int32) &&& 31))
/-- what StringUTF16.getChar makes of two bytes -/
def pairCh (u v : Int32) : Int32 := (((u &&& 255) <<< ((0 : Int32) &&& 31)) ||| ((v &&& 255) <<< ((8 : Int32) &&& 31))).toUInt32.toUInt16.toUInt32.toInt32
theorem shr0 (c : Int32) : c >>> ((0 : Int32) &&& 31) = c := by
  have e : ((0 : Int32) &&& 31) = 0 := by decide
  rw [e]
  apply Int32.toBitVec_inj.mp
  rw [Int32.toBitVec_shiftRight]
  have e1 : ((0 : Int32).toBitVec.smod 32) = 0#32 := by decide
  rw [e1, BitVec.sshiftRight_eq']
  exact BitVec.sshiftRight_zero
theorem lo8_and (x : Int32) : (lo8 x &&& 255).toBitVec.toNat = x.toBitVec.toNat % 256 := by
  have h : (lo8 x).toBitVec = (x.toBitVec.signExtend 8).signExtend 32 := by rw [lo8, Int8.toBitVec_toInt32, Int32.toBitVec_toInt8]
  rw [Int32.toBitVec_and, BitVec.toNat_and, h]
  have e : ((x.toBitVec.signExtend 8).signExtend 32).toNat % 256 = x.toBitVec.toNat % 256 := by
    rw [BitVec.toNat_signExtend]
    have hlt := x.toBitVec.isLt
    simp only [BitVec.toNat_setWidth, BitVec.toNat_signExtend]
    split <;> split <;> omega
  rw [← e]
  exact Nat.and_two_pow_sub_one_eq_mod _ 8
theorem pair_says {c : Int32} (h0 : ¬ c < 0) (h1 : ¬ 65535 < c) : pairCh (lo8 c) (hi8 c) = c := by
  rw [Int32.lt_iff_toInt_lt] at h0 h1
  have e0 : (0 : Int32).toInt = 0 := rfl
  have e1 : (65535 : Int32).toInt = 65535 := rfl
  have hc : c.toInt = c.toBitVec.toNat := by
    have := c.toBitVec.isLt
    have e : c.toInt = c.toBitVec.toInt := rfl
    rw [e] at h0 h1
    rw [e]
    rw [BitVec.toInt_eq_toNat_cond] at h0 h1 ⊢
    split at h0 <;> split <;> omega
  have hn : c.toBitVec.toNat < 65536 := by omega
  have a1 := lo8_and c
  have a2 : (hi8 c &&& 255).toBitVec.toNat = c.toBitVec.toNat / 256 := by
    rw [hi8, lo8_and]
    have e : ((8 : Int32) &&& 31) = 8 := by decide
    rw [e, Int32.toBitVec_shiftRight]
    have e2 : ((8 : Int32).toBitVec.smod 32) = 8#32 := by decide
    rw [e2, BitVec.sshiftRight_eq', BitVec.toNat_sshiftRight_of_msb_false (by rw [BitVec.msb_eq_false_iff_two_mul_lt]; omega)]
    show c.toBitVec.toNat >>> 8 % 256 = _
    rw [Nat.shiftRight_eq_div_pow]
    omega
  unfold pairCh
  apply Int32.toBitVec_inj.mp
  apply BitVec.eq_of_toNat_eq
  have f0 : ((0 : Int32) &&& 31) = 0 := by decide
  have f8 : ((8 : Int32) &&& 31) = 8 := by decide
  rw [f0, f8]
  have g : (((lo8 c &&& 255) <<< (0 : Int32)) ||| ((hi8 c &&& 255) <<< (8 : Int32))).toBitVec.toNat = c.toBitVec.toNat := by
    rw [Int32.toBitVec_or, Int32.toBitVec_shiftLeft, Int32.toBitVec_shiftLeft]
    have s0 : ((0 : Int32).toBitVec.smod 32) = 0#32 := by decide
    have s8 : ((8 : Int32).toBitVec.smod 32) = 8#32 := by decide
    rw [s0, s8, BitVec.toNat_or]
    simp only [BitVec.shiftLeft_eq', BitVec.toNat_shiftLeft, a1, a2]
    show (c.toBitVec.toNat % 256) <<< 0 % 2 ^ 32 ||| (c.toBitVec.toNat / 256) <<< 8 % 2 ^ 32 = _
    rw [Nat.shiftLeft_zero, Nat.mod_eq_of_lt (show c.toBitVec.toNat % 256 < 2 ^ 32 by omega), Nat.mod_eq_of_lt (show (c.toBitVec.toNat / 256) <<< 8 < 2 ^ 32 by rw [Nat.shiftLeft_eq]; omega), Nat.or_comm, ← Nat.shiftLeft_add_eq_or_of_lt (by omega), Nat.shiftLeft_eq]
    omega
  show BitVec.toNat (((((lo8 c &&& 255) <<< (0 : Int32)) ||| ((hi8 c &&& 255) <<< (8 : Int32))).toBitVec.setWidth 16).setWidth 32) = _
  rw [BitVec.toNat_setWidth, BitVec.toNat_setWidth, g]
  omega
end StrChars
namespace StrChars
open Jvm Sem ClassFile Op Lib Jvm.Stand Jvm.Free.XT Jvm.Free.ALB Jvm.Free.JM Jvm.Free
open Jvm.Lib.Cold (StaticIs)
theorem shr1 {n : Nat} (h : 2 * n < 2 ^ 31) : Int32.ofNat (2 * n) >>> ((1 : Int32) &&& 31) = Int32.ofNat n := by
  have e : ((1 : Int32) &&& 31) = 1 := by decide
  rw [e]
  apply Int32.toBitVec_inj.mp
  rw [Int32.toBitVec_shiftRight]
  have e1 : ((1 : Int32).toBitVec.smod 32) = 1#32 := by decide
  have hm : (BitVec.ofNat 32 (2 * n)).toNat = 2 * n := by rw [BitVec.toNat_ofNat, Nat.mod_eq_of_lt (by omega)]
  rw [e1, BitVec.sshiftRight_eq']
  apply BitVec.eq_of_toNat_eq
  show ((BitVec.ofNat 32 (2 * n)).sshiftRight 1).toNat = (BitVec.ofNat 32 n).toNat
  rw [BitVec.toNat_sshiftRight_of_msb_false (by rw [BitVec.msb_eq_false_iff_two_mul_lt, hm]; omega), hm, BitVec.toNat_ofNat, Nat.shiftRight_eq_div_pow]
  omega
/-- charAt's cast of a byte read back -/
def chr8 (u : Int32) : Int32 := (u &&& 255).toUInt32.toUInt16.toUInt32.toInt32
theorem chr8_lo8 {c : Int32} (h0 : ¬ c < 0) (h1 : ¬ 255 < c) : chr8 (lo8 c) = c := by
  have t : ∀ k : Fin 256, (Int32.ofNat k.val).toUInt32.toUInt16.toUInt32.toInt32 = Int32.ofNat k.val := by decide +kernel
  unfold chr8
  rw [lo8_mask h0 h1]
  rw [Int32.lt_iff_toInt_lt] at h0 h1
  have e0 : (0 : Int32).toInt = 0 := rfl
  have e1 : (255 : Int32).toInt = 255 := rfl
  obtain ⟨k, hk⟩ : ∃ k : Nat, c.toInt = k := ⟨c.toInt.toNat, by omega⟩
  have hx : c = Int32.ofNat k := Int32.toInt_inj.mp (by rw [hk, Int32.toInt_ofNat_small (by omega)])
  rw [hx]
  exact t ⟨k, by omega⟩
theorem narrow_ch {c : Int32} (h0 : ¬ c < 0) (h1 : ¬ 65535 < c) : narrow .char (.int c) = .int c := by
  have q : narrow .char (.int (pairCh (lo8 c) (hi8 c))) = .int (pairCh (lo8 c) (hi8 c)) := narrow_c _
  rwa [pair_says h0 h1] at q
/-- the array's cell V codes the n chars f 0 .. f (n - 1) by the coder cd, as the JDK does: coder 1 just where some char is above 255 -/
def Cod (cd : Int32) (n : Nat) (f : Nat → Int32) (V : Cell) : Prop := (cd = 0 ∧ V.slots.size = n ∧ ∀ j, j < n → V.slots[j]? = some (.int (lo8 (f j))) ∧ ¬ 255 < f j) ∨ (cd = 1 ∧ V.slots.size = 2 * n ∧ (∀ j, j < n → V.slots[2 * j]? = some (.int (lo8 (f j))) ∧ V.slots[2 * j + 1]? = some (.int (hi8 (f j)))) ∧ ∃ j, j < n ∧ 255 < f j)
theorem Cod.cd {cd : Int32} {n : Nat} {f : Nat → Int32} {V : Cell} (h : Cod cd n f V) : cd = 0 ∨ cd = 1 := h.imp (fun q => q.1) fun q => q.1
theorem Cod.len {cd : Int32} {n : Nat} {f : Nat → Int32} {V : Cell} (h : Cod cd n f V) (hs : V.slots.size < 2 ^ 31) : Int32.ofNat V.slots.size >>> (cd &&& 31) = Int32.ofNat n := by
  rcases h with ⟨rfl, h, -⟩ | ⟨rfl, h, -⟩
  · rw [shr0, h]
  · rw [h, shr1 (by omega)]
/-- **x is a String of the n chars f 0 .. f (n - 1)**, Latin-1 or UTF-16; its array at t has the cell V -/
def Txt (x t : Addr) (V : Cell) (cd : Int32) (n : Nat) (f : Nat → Int32) (U : State) : Prop := Exact "java/lang/String" x U ∧ Has x "java/lang/String" "value" "[B" (.ref t) U ∧ Has x "java/lang/String" "coder" "B" (.int cd) U ∧ XT.Arr .byte t V U ∧ Cod cd n f V ∧ ∀ j, j < n → ¬ f j < 0 ∧ ¬ 65535 < f j
theorem Txt.mv {x t : Addr} {V : Cell} {cd : Int32} {n : Nat} {f : Nat → Int32} {U U' : State} (h : Txt x t V cd n f U) (hal : U.vm.Alike U'.vm) (hh : U'.heap = U.heap) : Txt x t V cd n f U' := ⟨h.1.mv hal hh, h.2.1.mv hal hh, h.2.2.1.mv hal hh, h.2.2.2.1.mv hal hh, h.2.2.2.2⟩
namespace Cdr
def yN : MethodName := ⟨"java/lang/String", "coder", "()B"⟩
abbrev yB : ByteArray := jdk_42_method_152_code
theorem d0 : decode yB 0 = .ok (.getstatic 38, 3) := by decide +kernel
theorem d3 : decode yB 3 = .ok (.ifCond (.eq) 10, 3) := by decide +kernel
theorem d6 : decode yB 6 = .ok (.aload_n 0, 1) := by decide +kernel
theorem d7 : decode yB 7 = .ok (.getfield 15, 3) := by decide +kernel
theorem d10 : decode yB 10 = .ok (.goto 4, 3) := by decide +kernel
theorem d14 : decode yB 14 = .ok (.ireturn, 1) := by decide +kernel
def site : List Cond := [.fieldLink "java/lang/String" 38 "java/lang/String" "COMPACT_STRINGS" "Z", .fieldLink "java/lang/String" 15 "java/lang/String" "coder" "B"]
def tab : Cond := tabOf yN yB 1 (some .byte) site
def P (x : Addr) (cd z : Int32) (args : Array Value) (s : State) : Prop := args = #[.ref x] ∧ Has x "java/lang/String" "coder" "B" (.int cd) s ∧ (cd = 0 ∨ cd = 1) ∧ StaticIs s "java/lang/String" "COMPACT_STRINGS" "Z" (.int z) ∧ ¬ z = 0
def E (cd : Int32) (r : Option Value) (s u : State) : Prop := XT.PureE (some (.int cd)) r s u
theorem law (l : Launch) (x : Addr) (cd z : Int32) : Law l yN 1 0 0 0 yB 1 (some .byte) site (P x cd z) (E cd) [] 0 0 := by
  refine Law.of_walk (plainFor_of_name (by decide +kernel)) (by decide +kernel) (by decide +kernel) (by decide) (fun _ _ h => by rw [h.1]; rfl) (fun _ U U' hal hh h => ⟨h.1, h.2.1.mv hal hh, h.2.2.1, h.2.2.2.1.there hal hh, h.2.2.2.2⟩) (fun r U U' V V' h1 hal h2 h => XT.PureE.mv r U U' V V' h1 hal h2 h) ?_
  intro p e s m args below meth c s₁ X0 hexec hbytes hml hret hlk hnm hown hh0 W hP
  obtain ⟨rfl, hx, hc, s1, hz⟩ := hP
  have c1 : Steps p.tables e below (s₁.setTop (entryFrame m #[.ref x] 1)) (s₁.setTop (mkF m 0 #[.val (.ref x)] [])) := entry rfl
  obtain ⟨T2, X2, q2, st2⟩ := X0.sget hexec hown (wk W (.fieldLink "java/lang/String" 38 "java/lang/String" "COMPACT_STRINGS" "Z")) s1 (fun _ _ h => by rw [hh0]; exact h) (g := (mkF m 0 #[.val (.ref x)] [])) rfl (hb hbytes d0)
  have hh2 := q2.trans hh0
  have c3 : Steps p.tables e below (s₁.setTop (entryFrame m #[.ref x] 1)) (T2.setTop (mkF m 7 #[.val (.ref x)] [.ref x])) := (c1.trans (st2 _ (Steps.refl _))).trans (by
    refine XS.ifNo X2.here hexec rfl (hb hbytes d3) rfl (i0_eq_f hz) ?_
    refine XS.aloadN X2.here hexec rfl (hb hbytes d6) rfl rfl ?_
    exact Steps.refl _)
  obtain ⟨T4, X4, q4, st4⟩ := X2.hget hexec hown (wk W (.fieldLink "java/lang/String" 15 "java/lang/String" "coder" "B")) (hx.mv X2.warmed.alike hh2) (g := (mkF m 7 #[.val (.ref x)] [.ref x])) rfl (rest := []) rfl (hb hbytes d7)
  have c5 : Steps p.tables e below (s₁.setTop (entryFrame m #[.ref x] 1)) (T4.setTop (mkF m 14 #[.val (.ref x)] [.int cd])) := (c3.trans (st4 _ (Steps.refl _))).trans (by
    refine XS.goto X4.here hexec rfl (pc0 := 10) rfl (hb hbytes d10) (by decide) rfl ?_
    exact Steps.refl _)
  exact ⟨T4, some (.int cd), _, _, _, X4, rfl, rfl, rfl, (fun h => by cases h), ⟨rfl, q4.trans hh2⟩, fun fs hl => c5.trans (X4.ireturnOut hexec hret (by rcases hc with rfl | rfl <;> rfl) (Or.inr (Or.inr (Or.inl rfl))) (hb hbytes d14) hl)⟩
end Cdr
namespace Len
def yN : MethodName := ⟨"java/lang/String", "length", "()I"⟩
abbrev yB : ByteArray := jdk_42_method_54_code
theorem d0 : decode yB 0 = .ok (.aload_n 0, 1) := by decide +kernel
theorem d1 : decode yB 1 = .ok (.getfield 9, 3) := by decide +kernel
theorem d4 : decode yB 4 = .ok (.arraylength, 1) := by decide +kernel
theorem d5 : decode yB 5 = .ok (.aload_n 0, 1) := by decide +kernel
theorem d6 : decode yB 6 = .ok (.invokevirtual 335, 3) := by decide +kernel
theorem d9 : decode yB 9 = .ok (.ishr, 1) := by decide +kernel
theorem d10 : decode yB 10 = .ok (.ireturn, 1) := by decide +kernel
def site : List Cond := [.fieldLink "java/lang/String" 9 "java/lang/String" "value" "[B", Cdr.tab] ++ virtW "java/lang/String" 335 "java/lang/String" Cdr.yN Cdr.yN
def tab : Cond := tabOf yN yB 1 (some .int) site
def P (x t : Addr) (V : Cell) (cd : Int32) (n : Nat) (f : Nat → Int32) (z : Int32) (args : Array Value) (s : State) : Prop := args = #[.ref x] ∧ Txt x t V cd n f s ∧ StaticIs s "java/lang/String" "COMPACT_STRINGS" "Z" (.int z) ∧ ¬ z = 0
def E (n : Nat) (r : Option Value) (s u : State) : Prop := XT.PureE (some (.int (Int32.ofNat n))) r s u
/-- length() of a String of n chars, in either coding -/
theorem law (l : Launch) (x t : Addr) (V : Cell) (cd : Int32) (n : Nat) (f : Nat → Int32) (z : Int32) : Law l yN 1 0 1 13 yB 1 (some .int) site (P x t V cd n f z) (E n) [] 0 0 := by
  refine Law.of_walk (plainFor_of_name (by decide +kernel)) (by decide +kernel) (by decide +kernel) (by decide) (fun _ _ h => by rw [h.1]; rfl) (fun _ U U' hal hh h => ⟨h.1, h.2.1.mv hal hh, h.2.2.1.there hal hh, h.2.2.2⟩) (fun r U U' V V' h1 hal h2 h => XT.PureE.mv r U U' V V' h1 hal h2 h) ?_
  intro p e s m args below meth c s₁ X0 hexec hbytes hml hret hlk hnm hown hh0 W hP
  obtain ⟨rfl, hx, s1, hz⟩ := hP
  have v31 := hx.2.2.2.1.2.2.2
  have c1 : Steps p.tables e below (s₁.setTop (entryFrame m #[.ref x] 1)) (s₁.setTop (mkF m 1 #[.val (.ref x)] [.ref x])) := Steps.trans (entry rfl) (by
    show Steps p.tables e below (s₁.setTop (mkF m 0 #[.val (.ref x)] [])) _
    refine XS.aloadN X0.here hexec rfl (hb hbytes d0) rfl rfl ?_
    exact Steps.refl _)
  obtain ⟨T2, X2, q2, st2⟩ := X0.hget hexec hown (wk W (.fieldLink "java/lang/String" 9 "java/lang/String" "value" "[B")) (hx.mv X0.warmed.alike hh0).2.1 (g := (mkF m 1 #[.val (.ref x)] [.ref x])) rfl (rest := []) rfl (hb hbytes d1)
  have hh2 := q2.trans hh0
  have hx2 := hx.mv X2.warmed.alike hh2
  have c3 : Steps p.tables e below (s₁.setTop (entryFrame m #[.ref x] 1)) (T2.setTop (mkF m 6 #[.val (.ref x)] [.ref x, .int (Int32.ofNat V.slots.size)])) := (c1.trans (st2 _ (Steps.refl _))).trans (by
    refine X2.alen hexec hx2.2.2.2.1 rfl rfl (hb hbytes d4) ?_
    refine XS.aloadN X2.here hexec rfl (hb hbytes d5) rfl rfl ?_
    exact Steps.refl _)
  obtain ⟨v4, T4, X4, E4, g4⟩ := X2.callV hexec (Cdr.law l x cd z) hown (wks W (virtW "java/lang/String" 335 "java/lang/String" Cdr.yN Cdr.yN)) rfl (by decide) (wk W Cdr.tab) (W := 1) (Nat.le_of_ble_eq_true rfl) (Nat.le_of_ble_eq_true rfl) (Nat.le_refl _) (Nat.le_refl _) (hx2.1.fc X2.warmed.alike) hx2.1.is (g := (mkF m 6 #[.val (.ref x)] [.ref x, .int (Int32.ofNat V.slots.size)])) rfl (by rw [hml]; rfl) c3 (argsL := []) (rest := [.int (Int32.ofNat V.slots.size)]) rfl rfl (by show 2 * 0 + (1 + 0) ≤ _; decide) (hb hbytes d6) (⟨rfl, hx2.2.2.1, hx.2.2.2.2.1.cd, s1.there X2.warmed.alike hh2, hz⟩)
  obtain ⟨rfl, q4⟩ := E4
  have c5 : Steps p.tables e below (s₁.setTop (entryFrame m #[.ref x] 1)) (T4.setTop (mkF m 10 #[.val (.ref x)] [.int (Int32.ofNat V.slots.size >>> (cd &&& 31))])) := Steps.trans g4 (by
    refine ishr X4.here hexec rfl (hb hbytes d9) rfl ?_
    exact Steps.refl _)
  rw [hx.2.2.2.2.1.len v31] at c5
  exact ⟨T4, some (.int (Int32.ofNat n)), _, _, _, X4, rfl, rfl, rfl, (fun h => by cases h), ⟨rfl, q4.trans hh2⟩, fun fs hl => c5.trans (X4.ireturnOut hexec hret rfl (Or.inl rfl) (hb hbytes d10) hl)⟩
theorem pays {l : Launch} {R : Room} {p : Program} {e : Env} {below : List Frame} {s : State} {sargs : Array Value} {len W : Nat} (x t : Addr) (V : Cell) (cd : Int32) (n : Nat) (f : Nat → Int32) (z : Int32) (htab : tab.before sargs s = true) (hfr : 2 ≤ R.frames) (hlo : W + 25 ≤ R.locals) :
    Back l R p e below s sargs yN len W (fun A₁ a₁ => A₁.cells + 0 ≤ R.cells ∧ A₁.slots + 0 ≤ R.slots ∧ P x t V cd n f z a₁ A₁.U) (fun A₁ _ v₁ B₁ => E n v₁ A₁.U B₁.U ∧ B₁.locs = A₁.locs ++ [] ∧ B₁.cells = A₁.cells + 0 ∧ B₁.slots = A₁.slots + 0) :=
  (law l x t V cd n f z).pays htab hfr (by omega)
end Len
namespace IsL
def yN : MethodName := ⟨"java/lang/String", "isLatin1", "()Z"⟩
abbrev yB : ByteArray := jdk_42_method_154_code
theorem d0 : decode yB 0 = .ok (.getstatic 38, 3) := by decide +kernel
theorem d3 : decode yB 3 = .ok (.ifCond (.eq) 14, 3) := by decide +kernel
theorem d6 : decode yB 6 = .ok (.aload_n 0, 1) := by decide +kernel
theorem d7 : decode yB 7 = .ok (.getfield 15, 3) := by decide +kernel
theorem d10 : decode yB 10 = .ok (.ifCond (.ne) 7, 3) := by decide +kernel
theorem d13 : decode yB 13 = .ok (.iconst 1, 1) := by decide +kernel
theorem d14 : decode yB 14 = .ok (.goto 4, 3) := by decide +kernel
theorem d17 : decode yB 17 = .ok (.iconst 0, 1) := by decide +kernel
theorem d18 : decode yB 18 = .ok (.ireturn, 1) := by decide +kernel
def site : List Cond := [.fieldLink "java/lang/String" 38 "java/lang/String" "COMPACT_STRINGS" "Z", .fieldLink "java/lang/String" 15 "java/lang/String" "coder" "B"]
def tab : Cond := tabOf yN yB 1 (some .boolean) site
def P (x : Addr) (cd z : Int32) (args : Array Value) (s : State) : Prop := args = #[.ref x] ∧ Has x "java/lang/String" "coder" "B" (.int cd) s ∧ (cd = 0 ∨ cd = 1) ∧ StaticIs s "java/lang/String" "COMPACT_STRINGS" "Z" (.int z) ∧ ¬ z = 0
def E (cd : Int32) (r : Option Value) (s u : State) : Prop := XT.PureE (some (.int (1 - cd))) r s u
theorem law (l : Launch) (x : Addr) (cd z : Int32) : Law l yN 1 0 0 0 yB 1 (some .boolean) site (P x cd z) (E cd) [] 0 0 := by
  refine Law.of_walk (plainFor_of_name (by decide +kernel)) (by decide +kernel) (by decide +kernel) (by decide) (fun _ _ h => by rw [h.1]; rfl) (fun _ U U' hal hh h => ⟨h.1, h.2.1.mv hal hh, h.2.2.1, h.2.2.2.1.there hal hh, h.2.2.2.2⟩) (fun r U U' V V' h1 hal h2 h => XT.PureE.mv r U U' V V' h1 hal h2 h) ?_
  intro p e s m args below meth c s₁ X0 hexec hbytes hml hret hlk hnm hown hh0 W hP
  obtain ⟨rfl, hx, hc, s1, hz⟩ := hP
  have c1 : Steps p.tables e below (s₁.setTop (entryFrame m #[.ref x] 1)) (s₁.setTop (mkF m 0 #[.val (.ref x)] [])) := entry rfl
  obtain ⟨T2, X2, q2, st2⟩ := X0.sget hexec hown (wk W (.fieldLink "java/lang/String" 38 "java/lang/String" "COMPACT_STRINGS" "Z")) s1 (fun _ _ h => by rw [hh0]; exact h) (g := (mkF m 0 #[.val (.ref x)] [])) rfl (hb hbytes d0)
  have hh2 := q2.trans hh0
  have c3 : Steps p.tables e below (s₁.setTop (entryFrame m #[.ref x] 1)) (T2.setTop (mkF m 7 #[.val (.ref x)] [.ref x])) := (c1.trans (st2 _ (Steps.refl _))).trans (by
    refine XS.ifNo X2.here hexec rfl (hb hbytes d3) rfl (i0_eq_f hz) ?_
    refine XS.aloadN X2.here hexec rfl (hb hbytes d6) rfl rfl ?_
    exact Steps.refl _)
  obtain ⟨T4, X4, q4, st4⟩ := X2.hget hexec hown (wk W (.fieldLink "java/lang/String" 15 "java/lang/String" "coder" "B")) (hx.mv X2.warmed.alike hh2) (g := (mkF m 7 #[.val (.ref x)] [.ref x])) rfl (rest := []) rfl (hb hbytes d7)
  have c5 : Steps p.tables e below (s₁.setTop (entryFrame m #[.ref x] 1)) (T4.setTop (mkF m 10 #[.val (.ref x)] [.int cd])) := c3.trans (st4 _ (Steps.refl _))
  have c6 : Steps p.tables e below (s₁.setTop (entryFrame m #[.ref x] 1)) (T4.setTop (mkF m 18 #[.val (.ref x)] [.int (1 - cd)])) := by
    rcases hc with rfl | rfl
    · exact c5.trans (by
        refine XS.ifNo X4.here hexec rfl (hb hbytes d10) rfl (i0_ne_f rfl) ?_
        refine iconstV X4.here hexec rfl 1 (hb hbytes d13) (by decide) ?_
        refine XS.goto X4.here hexec rfl (pc0 := 14) rfl (hb hbytes d14) (by decide) rfl ?_
        exact Steps.refl _)
    · exact c5.trans (by
        refine XS.ifYes X4.here hexec rfl (pc0 := 10) rfl (hb hbytes d10) rfl (i0_ne_t (by decide)) (by decide) rfl ?_
        refine iconstV X4.here hexec rfl 0 (hb hbytes d17) (by decide) ?_
        exact Steps.refl _)
  exact ⟨T4, some (.int (1 - cd)), _, _, _, X4, rfl, rfl, rfl, (fun h => by cases h), ⟨rfl, q4.trans hh2⟩, fun fs hl => c6.trans (X4.ireturnOut hexec hret (by rcases hc with rfl | rfl <;> rfl) (Or.inr (Or.inl rfl)) (hb hbytes d18) hl)⟩
end IsL
namespace LChA
def yN : MethodName := ⟨"java/lang/StringLatin1", "charAt", "([BI)C"⟩
abbrev yB : ByteArray := jdk_43_method_2_code
theorem d0 : decode yB 0 = .ok (.iload_n 1, 1) := by decide +kernel
theorem d1 : decode yB 1 = .ok (.aload_n 0, 1) := by decide +kernel
theorem d2 : decode yB 2 = .ok (.arraylength, 1) := by decide +kernel
theorem d3 : decode yB 3 = .ok (.invokestatic 9, 3) := by decide +kernel
theorem d6 : decode yB 6 = .ok (.aload_n 0, 1) := by decide +kernel
theorem d7 : decode yB 7 = .ok (.iload_n 1, 1) := by decide +kernel
theorem d8 : decode yB 8 = .ok (.baload, 1) := by decide +kernel
theorem d9 : decode yB 9 = .ok (.sipush 255, 3) := by decide +kernel
theorem d12 : decode yB 12 = .ok (.iand, 1) := by decide +kernel
theorem d13 : decode yB 13 = .ok (.i2c, 1) := by decide +kernel
theorem d14 : decode yB 14 = .ok (.ireturn, 1) := by decide +kernel
def site : List Cond := [JO.Str_checkIndex.tab] ++ staticW "java/lang/StringLatin1" 9 JO.Str_checkIndex.yN
def tab : Cond := tabOf yN yB 2 (some .char) site
def P (t : Addr) (V : Cell) (i : Nat) (u : Int32) (fm : Value) (args : Array Value) (s : State) : Prop := args = #[.ref t, .int (Int32.ofNat i)] ∧ XT.Arr .byte t V s ∧ V.slots[i]? = some (.int u) ∧ (StaticIs s "jdk/internal/util/Preconditions" "SIOOBE_FORMATTER" "Ljava/util/function/BiFunction;" fm ∧ fm.isRef = true)
def E (u : Int32) (r : Option Value) (s w : State) : Prop := XT.PureE (some (.int (chr8 u))) r s w
theorem law (l : Launch) (t : Addr) (V : Cell) (i : Nat) (u : Int32) (fm : Value) : Law l yN 2 2 2 27 yB 2 (some .char) site (P t V i u fm) (E u) [] 0 0 := by
  refine Law.of_walk (plainFor_of_name (by decide +kernel)) (by decide +kernel) (by decide +kernel) (by decide) (fun _ _ h => by rw [h.1]; rfl) (fun _ U U' hal hh h => ⟨h.1, h.2.1.mv hal hh, h.2.2.1, h.2.2.2.1.there hal hh, h.2.2.2.2⟩) (fun r U U' V V' h1 hal h2 h => XT.PureE.mv r U U' V V' h1 hal h2 h) ?_
  intro p e s m args below meth c s₁ X0 hexec hbytes hml hret hlk hnm hown hh0 W hP
  obtain ⟨rfl, hV, hu, s1, rf⟩ := hP
  have v31 := hV.2.2.2
  have hi : i < V.slots.size := (Array.getElem?_eq_some_iff.mp hu).1
  have c1 : Steps p.tables e below (s₁.setTop (entryFrame m #[.ref t, .int (Int32.ofNat i)] 2)) (s₁.setTop (mkF m 0 #[.val (.ref t), .val (.int (Int32.ofNat i))] [])) := entry rfl
  have c2 : Steps p.tables e below (s₁.setTop (entryFrame m #[.ref t, .int (Int32.ofNat i)] 2)) (s₁.setTop (mkF m 3 #[.val (.ref t), .val (.int (Int32.ofNat i))] [.int (Int32.ofNat V.slots.size), .int (Int32.ofNat i)])) := c1.trans (by
    refine XS.iloadN X0.here hexec rfl (hb hbytes d0) rfl ?_
    refine XS.aloadN X0.here hexec rfl (hb hbytes d1) rfl rfl ?_
    refine X0.alen hexec (hV.mv X0.warmed.alike hh0) rfl rfl (hb hbytes d2) ?_
    exact Steps.refl _)
  obtain ⟨v3, T3, X3, E3, g3⟩ := X0.callS hexec (JO.Str_checkIndex.law l (Int32.ofNat i) (Int32.ofNat V.slots.size) fm) hown (wks W (staticW "java/lang/StringLatin1" 9 JO.Str_checkIndex.yN)) (wk W JO.Str_checkIndex.tab) (W := 0) (Nat.le_of_ble_eq_true rfl) (Nat.le_of_ble_eq_true rfl) (Nat.le_refl _) (Nat.le_refl _) (g := (mkF m 3 #[.val (.ref t), .val (.int (Int32.ofNat i))] [.int (Int32.ofNat V.slots.size), .int (Int32.ofNat i)])) rfl (by rw [hml]; rfl) c2 (argsL := [.int (Int32.ofNat i), .int (Int32.ofNat V.slots.size)]) (rest := []) rfl rfl (by show 2 * 0 + 0 ≤ _; decide) (hb hbytes d3) (⟨rfl, rf, s1.there X0.warmed.alike hh0, Int32.ofNat_not_neg (by omega), lt32 v31 hi⟩)
  obtain ⟨rfl, q3⟩ := E3
  have hh3 := q3.trans hh0
  have c4 : Steps p.tables e below (s₁.setTop (entryFrame m #[.ref t, .int (Int32.ofNat i)] 2)) (T3.setTop (mkF m 14 #[.val (.ref t), .val (.int (Int32.ofNat i))] [.int (chr8 u)])) := Steps.trans g3 (by
    refine XS.aloadN X3.here hexec rfl (hb hbytes d6) rfl rfl ?_
    refine XS.iloadN X3.here hexec rfl (hb hbytes d7) rfl ?_
    refine X3.aget hexec (hV.mv X3.warmed.alike hh3) rfl hu rfl rfl (hb hbytes d8) ?_
    refine sipushV X3.here hexec rfl 255 (hb hbytes d9) (by decide) ?_
    refine XS.iand X3.here hexec rfl (hb hbytes d12) rfl ?_
    refine i2c X3.here hexec rfl (hb hbytes d13) rfl ?_
    exact Steps.refl _)
  exact ⟨T3, some (.int (chr8 u)), _, _, _, X3, rfl, rfl, rfl, (fun h => by cases h), ⟨rfl, hh3⟩, fun fs hl => c4.trans (X3.ireturnOut hexec hret (narrow_c _) (Or.inr (Or.inr (Or.inr (Or.inl rfl)))) (hb hbytes d14) hl)⟩
end LChA
end StrChars
namespace StrChars.Road
open Jvm Sem ClassFile Op Lib Jvm.Stand Jvm.Free Jvm.Free.XT
open Jvm.Lib.Cold (StaticIs)
theorem consq {a : Array Value} {s : State} {c : Jvm.Cond} {L : List Jvm.Cond} (h0 : c.before a s = true) (h : ∀ w ∈ L, w.before a s = true) : ∀ w ∈ c :: L, w.before a s = true := fun w hw => (List.mem_cons.mp hw).elim (fun e => e ▸ h0) (h w)
/-- the words of String.length(), either coding -/
abbrev wordsLen : List Jvm.Cond := [.code Len.yN Len.yB 1 (some .int), .initialized ST, .fieldLink ST 9 ST "value" "[B", .fieldLink ST 38 ST "COMPACT_STRINGS" "Z", .fieldLink ST 15 ST "coder" "B", .code Cdr.yN Cdr.yB 1 (some .byte), .methodLink ST 335 Cdr.yN, .declares Cdr.yN, .selects ST Cdr.yN Cdr.yN, .instanceMethod Cdr.yN]
theorem tabLen_of {a : Array Value} {s : State} (h : ∀ w ∈ wordsLen, w.before a s = true) : Len.tab.before a s = true := by
  have hc : Cdr.tab.before a s = true := unparts (wk h (.code Cdr.yN Cdr.yB 1 (some .byte))) (wks h (.initialized Cdr.yN.cls :: Cdr.site))
  have q := consq hc h
  exact unparts (wk q (.code Len.yN Len.yB 1 (some .int))) (wks q (.initialized Len.yN.cls :: Len.site))
theorem movedLen {Z s : State} {a0 args : Array Value} (hZ : Z.Warmed39 s.vm) (hw : ∀ d ∈ wordsLen, d.before a0 Z = true) : ∀ d ∈ wordsLen, d.before args s = true := fun d hd => by
  have q := hw d hd
  have t : ∀ d ∈ wordsLen, d = .arrayClass .byte ∨ (d.onTables && d.keepsFace) = true := by decide +kernel
  rcases t d hd with rfl | t
  · exact RoadKit.mvA hZ q
  · exact RoadKit.mv hZ q t
/-- the bytes of the chars cs, low before high -/
def wideBytes : List Int32 → List Value
  | [] => []
  | c :: cs => .int (lo8 c) :: .int (hi8 c) :: wideBytes cs
theorem wide_lo (d : Value) : ∀ (cs : List Int32) (j : Nat), j < cs.length → (wideBytes cs).getD (2 * j) d = .int (lo8 (cs.getD j 0))
  | [], j, h => absurd h (Nat.not_lt_zero j)
  | c :: cs, 0, _ => rfl
  | c :: cs, j + 1, h => by
    have q := wide_lo d cs j (by simpa using h)
    rw [show 2 * (j + 1) = 2 * j + 1 + 1 from by omega]
    simpa [wideBytes] using q
theorem wide_hi (d : Value) : ∀ (cs : List Int32) (j : Nat), j < cs.length → (wideBytes cs).getD (2 * j + 1) d = .int (hi8 (cs.getD j 0))
  | [], j, h => absurd h (Nat.not_lt_zero j)
  | c :: cs, 0, _ => rfl
  | c :: cs, j + 1, h => by
    have q := wide_hi d cs j (by simpa using h)
    rw [show 2 * (j + 1) + 1 = 2 * j + 1 + 1 + 1 from by omega]
    simpa [wideBytes] using q
theorem low_at (d : Value) (cs : List Int32) (j : Nat) (h : j < cs.length) : (cs.map fun c => Value.int (lo8 c)).getD j d = .int (lo8 (cs.getD j 0)) := by
  simp [List.getD_eq_getElem?_getD, h]
/-- an array of N2 bytes vs codes the chars cs by the coder cd -/
def CodA (cs : List Int32) (cd N2 : Int32) (vs : List Value) : Prop := (cd = 0 ∧ N2 = Int32.ofNat cs.length ∧ vs = (cs.map fun c => Value.int (lo8 c)) ∧ ∀ c ∈ cs, ¬ 255 < c) ∨ (cd = 1 ∧ N2 = Int32.ofNat (2 * cs.length) ∧ vs = wideBytes cs ∧ ∃ c ∈ cs, 255 < c)
theorem CodA.cod {cs : List Int32} {cd N2 : Int32} {vs : List Value} {V : Cell} (h : CodA cs cd N2 vs) (hn : 2 * cs.length < 2 ^ 31) (hs : V.slots.size = N2.toNatClampNeg) (hv : RoadKit.Has V vs (.int 0)) : Cod cd cs.length (fun j => cs.getD j 0) V := by
  rcases h with ⟨rfl, rfl, rfl, h⟩ | ⟨rfl, rfl, rfl, c, hc, hw⟩
  · rw [n32 (by omega)] at hs
    exact Or.inl ⟨rfl, hs, fun j hj => ⟨by rw [hv j (by omega), low_at _ _ _ hj], by
      have e : cs.getD j 0 = cs[j] := by simp [List.getD_eq_getElem?_getD, hj]
      show ¬ 255 < cs.getD j 0
      rw [e]; exact h _ (List.getElem_mem _)⟩⟩
  · rw [n32 (by omega)] at hs
    obtain ⟨j, hj, rfl⟩ := List.getElem_of_mem hc
    exact Or.inr ⟨rfl, hs, fun j hj => ⟨by rw [hv _ (by omega), wide_lo _ _ _ hj], by rw [hv _ (by omega), wide_hi _ _ _ hj]⟩, j, hj, by
      have e : cs.getD j 0 = cs[j] := by simp [List.getD_eq_getElem?_getD, hj]
      show 255 < cs.getD j 0
      rw [e]; exact hw⟩
/-- an object of exactly java/lang/String, its two fields found: as the laws ask it -/
theorem strObj {Z U : State} {a0 : Array Value} {kI : Nat} (wi : (Jvm.Cond.instantiable ST kI).before a0 Z = true) (al : Z.vm.Alike U.vm) {x : Addr} {v0 c0 : Value} (E : RoadKit.Exa Z U.heap x ST) (V : RoadKit.Fld Z U.heap x ST "value" "[B" v0) (C : RoadKit.Fld Z U.heap x ST "coder" "B" c0) :
    ∃ (D : Cell) (fV fC : Field), Blank ST x D U ∧ Found ST "value" "[B" fV U ∧ Found ST "coder" "B" fC U ∧ D.slots[fV.slot]? = some v0 ∧ D.slots[fC.slot]? = some c0 ∧ RoadKit.slotOf Z ST "value" "[B" = fV.slot ∧ RoadKit.slotOf Z ST "coder" "B" = fC.slot := by
  obtain ⟨D, cfV, kV, iV, fV, hD, gV, stV, knV, obV, asV, slV⟩ := V
  obtain ⟨D', cfC, kC, iC, fC, hD', gC, stC, -, -, asC, slC⟩ := C
  cases hD.symm.trans hD'
  obtain ⟨D2, kD, e1, e2, e3, e4, e5⟩ := E
  cases hD.symm.trans e1
  obtain ⟨c2, k2, i1, i2, i3, -⟩ := Cond.instantiable_spec wi
  cases e2.symm.trans i1
  cases e3.symm.trans i2
  obtain ⟨kU, u1, u2⟩ := al.2.2 _ _ e3
  exact ⟨D, fV, fC, ⟨hD, ⟨knV, fun q hq => by rw [hq] at obV; cases obV⟩, by rw [al.findClass]; exact e2, kU, u1, by rw [u2]; exact i3, by rw [u2]; exact e5 i3⟩, ⟨SBG.found_only al ⟨cfV, kV, iV, gV⟩, stV⟩, ⟨SBG.found_only al ⟨cfC, kC, iC, gC⟩, stC⟩, slV, slC, by simp [RoadKit.slotOf, gV], by simp [RoadKit.slotOf, gC]⟩
theorem sta_is {Z U : State} (al : Z.vm.Alike U.vm) {C n d : String} {v : Value} (S : RoadKit.Sta Z U.heap C n d v) : StaticIs U C n d v := by
  obtain ⟨cfS, iS, kS, fS, st, cS, t1, t2, t3, t4, t5, t6, t7⟩ := S
  exact StaticIs.there (s := { Z with heap := U.heap }) ⟨cfS, iS, kS, fS, st, cS, t1, t2, t3, t4, t5, (fun q => by rw [q] at t6; cases t6), t7⟩ al rfl
/-- **length() OF SUCH A STRING** -/
theorem lenW {p : Program} {l : Launch} {e : Env} {R : Room} {s : State} {args : Array Value} {below : List Frame} {len W : Nat} {Z : State} {a0 : Array Value} {h : Heap} (hZ : Z.Warmed39 s.vm) (hw : ∀ d ∈ wordsLen, d.before a0 Z = true) {kI : Nat} (wi : (Jvm.Cond.instantiable ST kI).before a0 Z = true)
    {x t : Addr} {kb : ClassId} {cs : List Int32} {cd N2 z : Int32} {vs : List Value} (E : RoadKit.Exa Z h x ST) (V : RoadKit.Fld Z h x ST "value" "[B" (.ref t)) (C : RoadKit.Fld Z h x ST "coder" "B" (.int cd)) (K : RoadKit.Arv Z h t kb .byte N2 vs (.int 0)) (hc : CodA cs cd N2 vs) (hb : ∀ c ∈ cs, ¬ c < 0 ∧ ¬ (65535 : Int32) < c)
    (S : RoadKit.Sta Z h ST "COMPACT_STRINGS" "Z" (.int z)) (hz : ¬ z = 0) (l2 : cs.length ≤ 4000) (hfr : 2 ≤ R.frames) (hlo : W + 25 ≤ R.locals) :
    Back l R p e below s args (⟨"java/lang/String", "length", "()I"⟩ : MethodName) len W (fun P a => a = #[.ref x] ∧ P.U.heap = h ∧ P.cells + 0 ≤ R.cells ∧ P.slots + 0 ≤ R.slots)
      (fun P _ v B => ∃ L, (v = some (.int (Int32.ofNat cs.length)) ∧ L = [] ∧ B.U.heap = h) ∧ B.locs = P.locs ++ L ∧ B.cells = P.cells + 0 ∧ B.slots = P.slots + 0) := by
  obtain ⟨A, K1, K2, K3, K4, K5, K6⟩ := K
  have hcod := hc.cod (by omega) K3 K5
  intro m meth c P g ig mk a X hg hsize hdg hW hn hp'
  obtain ⟨rfl, rfl, r1, r2⟩ := hp'
  have al : Z.vm.Alike P.U.vm := hZ.alike.trans X.warmed.alike
  obtain ⟨D, fV, fC, hB, F1, F2, g1, g2, -, -⟩ := strObj wi al E V C
  have hx : Txt x t A cd cs.length (fun j => cs.getD j 0) P.U := ⟨⟨_, hB.2.2.1, D, hB.1, rfl, by cases q : D.vm <;> first | rfl | exact absurd q (hB.2.1.2 _)⟩, Has.of hB F1 g1, Has.of hB F2 g2, ⟨K1.1, State.isArrayOf_alike al K1.2.1, K1.2.2, by rcases hcod with ⟨-, q, -⟩ | ⟨-, q, -⟩ <;> omega⟩, hcod, fun j hj => by
    have e : cs.getD j 0 = cs[j] := by simp [List.getD_eq_getElem?_getD, hj]
    show ¬ cs.getD j 0 < 0 ∧ ¬ 65535 < cs.getD j 0
    rw [e]; exact hb _ (List.getElem_mem _)⟩
  obtain ⟨v, B, X', ⟨⟨hv, hh⟩, hl, hk, hs⟩, st⟩ := Len.pays x t A cd cs.length (fun j => cs.getD j 0) z (tabLen_of (movedLen hZ hw)) hfr hlo m meth c P g ig mk _ X hg hsize hdg hW hn ⟨r1, r2, rfl, hx, sta_is al S, hz⟩
  exact ⟨v, B, X', ⟨[], ⟨hv, rfl, hh⟩, hl, hk, hs⟩, st⟩
end StrChars.Road
namespace StrChars
open Jvm Sem ClassFile Op Lib Jvm.Stand Jvm.Free.XT Jvm.Free.ALB Jvm.Free.JM Jvm.Free
open Jvm.Lib.Cold (StaticIs)
/-- what place i of a byte[]'s cell holds -/
def yv (A : Cell) (i : Nat) : Int32 := match A.slots[i]? with | some (.int x) => x | _ => 0
theorem yv_get {a : Addr} {A : Cell} {U : State} (h : XT.Arr .byte a A U) (ht : Typed .byte A) {i : Nat} (hi : i < A.slots.size) : A.slots[i]? = some (.int (yv A i)) := by
  have e := Array.getElem?_eq_getElem hi
  have f := ht i _ e
  unfold yv; rw [e]
  generalize A.slots[i] = v at f
  cases v <;> simp [fits] at f ⊢
/-- the two arrays are equal, place for place -/
def EqC (A B : Cell) : Prop := A.slots.size = B.slots.size ∧ ∀ i, i < A.slots.size → yv A i = yv B i
/-- a boolean that says whether p -/
def Says01 (q : Prop) (r : Option Value) (s u : State) : Prop := ∃ v : Int32, r = some (.int v) ∧ u.heap = s.heap ∧ ((v = 1 ∧ q) ∨ (v = 0 ∧ ¬ q))
theorem Says01.mv {q : Prop} : ∀ r (U U' V V' : State), U'.heap = U.heap → V.vm.Alike V'.vm → V'.heap = V.heap → Says01 q r U V → Says01 q r U' V' :=
  fun r U U' V V' h1 _ h2 ⟨v, a, b, c⟩ => ⟨v, a, by rw [h1, h2]; exact b, c⟩
namespace LEq
def yN : MethodName := ⟨"java/lang/StringLatin1", "equals", "([B[B)Z"⟩
abbrev yB : ByteArray := jdk_43_method_13_code
theorem d0 : decode yB 0 = .ok (.aload_n 0, 1) := by decide +kernel
theorem d1 : decode yB 1 = .ok (.arraylength, 1) := by decide +kernel
theorem d2 : decode yB 2 = .ok (.aload_n 1, 1) := by decide +kernel
theorem d3 : decode yB 3 = .ok (.arraylength, 1) := by decide +kernel
theorem d4 : decode yB 4 = .ok (.if_icmp (.ne) 30, 3) := by decide +kernel
theorem d7 : decode yB 7 = .ok (.iconst 0, 1) := by decide +kernel
theorem d8 : decode yB 8 = .ok (.istore_n 2, 1) := by decide +kernel
theorem d9 : decode yB 9 = .ok (.iload_n 2, 1) := by decide +kernel
theorem d10 : decode yB 10 = .ok (.aload_n 0, 1) := by decide +kernel
theorem d11 : decode yB 11 = .ok (.arraylength, 1) := by decide +kernel
theorem d12 : decode yB 12 = .ok (.if_icmp (.ge) 20, 3) := by decide +kernel
theorem d15 : decode yB 15 = .ok (.aload_n 0, 1) := by decide +kernel
theorem d16 : decode yB 16 = .ok (.iload_n 2, 1) := by decide +kernel
theorem d17 : decode yB 17 = .ok (.baload, 1) := by decide +kernel
theorem d18 : decode yB 18 = .ok (.aload_n 1, 1) := by decide +kernel
theorem d19 : decode yB 19 = .ok (.iload_n 2, 1) := by decide +kernel
theorem d20 : decode yB 20 = .ok (.baload, 1) := by decide +kernel
theorem d21 : decode yB 21 = .ok (.if_icmp (.eq) 5, 3) := by decide +kernel
theorem d24 : decode yB 24 = .ok (.iconst 0, 1) := by decide +kernel
theorem d25 : decode yB 25 = .ok (.ireturn, 1) := by decide +kernel
theorem d26 : decode yB 26 = .ok (.iinc 2 1, 3) := by decide +kernel
theorem d29 : decode yB 29 = .ok (.goto (-20), 3) := by decide +kernel
theorem d32 : decode yB 32 = .ok (.iconst 1, 1) := by decide +kernel
theorem d33 : decode yB 33 = .ok (.ireturn, 1) := by decide +kernel
theorem d34 : decode yB 34 = .ok (.iconst 0, 1) := by decide +kernel
theorem d35 : decode yB 35 = .ok (.ireturn, 1) := by decide +kernel
def site : List Cond := []
def tab : Cond := tabOf yN yB 3 (some .boolean) site
def P (a : Addr) (A : Cell) (b : Addr) (B : Cell) (args : Array Value) (s : State) : Prop := args = #[.ref a, .ref b] ∧ XT.Arr .byte a A s ∧ Typed .byte A ∧ XT.Arr .byte b B s ∧ Typed .byte B
/-- whether two byte[] are equal, place for place -/
theorem law (l : Launch) (a : Addr) (A : Cell) (b : Addr) (B : Cell) : Law l yN 2 2 0 0 yB 3 (some .boolean) site (P a A b B) (Says01 (EqC A B)) [] 0 0 := by
  refine Law.of_walk (plainFor_of_name (by decide +kernel)) (by decide +kernel) (by decide +kernel) (by decide) (fun _ _ h => by rw [h.1]; rfl) (fun _ U U' hal hh h => ⟨h.1, h.2.1.mv hal hh, h.2.2.1, h.2.2.2.1.mv hal hh, h.2.2.2.2⟩) (fun r U U' V V' h1 hal h2 h => Says01.mv r U U' V V' h1 hal h2 h) ?_
  intro p e s m args below meth c s₁ X0 hexec hbytes hml hret hlk hnm hown hh0 W hP
  obtain ⟨rfl, hA, tA, hB, tB⟩ := hP
  have a31 := hA.2.2.2
  have b31 := hB.2.2.2
  have hA0 := hA.mv X0.warmed.alike hh0
  have hB0 := hB.mv X0.warmed.alike hh0
  have c1 : Steps p.tables e below (s₁.setTop (entryFrame m #[.ref a, .ref b] 3)) (s₁.setTop (mkF m 0 #[.val (.ref a), .val (.ref b), .unset] [])) := entry rfl
  have c2 : Steps p.tables e below (s₁.setTop (entryFrame m #[.ref a, .ref b] 3)) (s₁.setTop (mkF m 4 #[.val (.ref a), .val (.ref b), .unset] [.int (Int32.ofNat B.slots.size), .int (Int32.ofNat A.slots.size)])) := c1.trans (by
    refine XS.aloadN X0.here hexec rfl (hb hbytes d0) rfl rfl ?_
    refine X0.alen hexec hA0 rfl rfl (hb hbytes d1) ?_
    refine XS.aloadN X0.here hexec rfl (hb hbytes d2) rfl rfl ?_
    refine X0.alen hexec hB0 rfl rfl (hb hbytes d3) ?_
    exact Steps.refl _)
  by_cases hs : A.slots.size = B.slots.size
  · have c3 : Steps p.tables e below (s₁.setTop (entryFrame m #[.ref a, .ref b] 3)) (s₁.setTop (mkF m 9 #[.val (.ref a), .val (.ref b), .val (.int 0)] [])) := c2.trans (by
      refine XS.icmpNo X0.here hexec rfl (hb hbytes d4) rfl (ii_ne_f (by rw [hs])) ?_
      refine iconstV X0.here hexec rfl 0 (hb hbytes d7) (by decide) ?_
      refine XS.istoreN X0.here hexec rfl (hb hbytes d8) rfl rfl ?_
      exact Steps.refl _)
    have loop : ∀ (r i : Nat), i + r = A.slots.size → (∀ j, j < i → yv A j = yv B j) → Steps p.tables e below (s₁.setTop (entryFrame m #[.ref a, .ref b] 3)) (s₁.setTop (mkF m 9 #[.val (.ref a), .val (.ref b), .val (.int (Int32.ofNat i))] [])) → ∃ (pc : Nat) (Ls : Array Slot) (v : Int32), (pc = 25 ∨ pc = 33) ∧ ((v = 1 ∧ EqC A B) ∨ (v = 0 ∧ ¬ EqC A B)) ∧ Steps p.tables e below (s₁.setTop (entryFrame m #[.ref a, .ref b] 3)) (s₁.setTop (mkF m pc Ls [.int v])) := by
      intro r
      induction r with
      | zero =>
        intro i hi he cl
        exact ⟨33, _, 1, Or.inr rfl, Or.inl ⟨rfl, hs, fun j hj => he j (by omega)⟩, cl.trans (by
          refine XS.iloadN X0.here hexec rfl (hb hbytes d9) rfl ?_
          refine XS.aloadN X0.here hexec rfl (hb hbytes d10) rfl rfl ?_
          refine X0.alen hexec hA0 rfl rfl (hb hbytes d11) ?_
          refine XS.icmpYes X0.here hexec rfl (pc0 := 12) rfl (hb hbytes d12) rfl (ii_ge_t (nlt32 (by omega) (by omega))) (by decide) rfl ?_
          refine iconstV X0.here hexec rfl 1 (hb hbytes d32) (by decide) ?_
          exact Steps.refl _)⟩
      | succ r ih =>
        intro i hi he cl
        have c4 : Steps p.tables e below (s₁.setTop (entryFrame m #[.ref a, .ref b] 3)) (s₁.setTop (mkF m 21 #[.val (.ref a), .val (.ref b), .val (.int (Int32.ofNat i))] [.int (yv B i), .int (yv A i)])) := cl.trans (by
          refine XS.iloadN X0.here hexec rfl (hb hbytes d9) rfl ?_
          refine XS.aloadN X0.here hexec rfl (hb hbytes d10) rfl rfl ?_
          refine X0.alen hexec hA0 rfl rfl (hb hbytes d11) ?_
          refine XS.icmpNo X0.here hexec rfl (hb hbytes d12) rfl (ii_ge_f (lt32 (by omega) (by omega))) ?_
          refine XS.aloadN X0.here hexec rfl (hb hbytes d15) rfl rfl ?_
          refine XS.iloadN X0.here hexec rfl (hb hbytes d16) rfl ?_
          refine X0.aget hexec hA0 rfl (yv_get hA tA (i := i) (by omega)) rfl rfl (hb hbytes d17) ?_
          refine XS.aloadN X0.here hexec rfl (hb hbytes d18) rfl rfl ?_
          refine XS.iloadN X0.here hexec rfl (hb hbytes d19) rfl ?_
          refine X0.aget hexec hB0 rfl (yv_get hB tB (i := i) (by omega)) rfl rfl (hb hbytes d20) ?_
          exact Steps.refl _)
        by_cases hv : yv A i = yv B i
        · have c5 : Steps p.tables e below (s₁.setTop (entryFrame m #[.ref a, .ref b] 3)) (s₁.setTop (mkF m 9 #[.val (.ref a), .val (.ref b), .val (.int (Int32.ofNat i + 1))] [])) := c4.trans (by
            refine XS.icmpYes X0.here hexec rfl (pc0 := 21) rfl (hb hbytes d21) rfl (ii_eq_t hv) (by decide) rfl ?_
            refine iincV X0.here hexec rfl 1 (hb hbytes d26) (by decide) rfl rfl ?_
            refine XS.goto X0.here hexec rfl (pc0 := 29) rfl (hb hbytes d29) (by decide) rfl ?_
            exact Steps.refl _)
          rw [succ32] at c5
          exact ih (i + 1) (by omega) (fun j hj => by
            by_cases e : j = i
            · rw [e]; exact hv
            · exact he j (by omega)) c5
        · exact ⟨25, _, 0, Or.inl rfl, Or.inr ⟨rfl, fun q => hv (q.2 i (by omega))⟩, c4.trans (by
            refine XS.icmpNo X0.here hexec rfl (hb hbytes d21) rfl (ii_eq_f hv) ?_
            refine iconstV X0.here hexec rfl 0 (hb hbytes d24) (by decide) ?_
            exact Steps.refl _)⟩
    obtain ⟨pc, Ls, v, hpc, hv, cz⟩ := loop A.slots.size 0 (by omega) (fun j hj => absurd hj (Nat.not_lt_zero j)) c3
    have nv : narrow .boolean (.int v) = .int v := by rcases hv with ⟨rfl, -⟩ | ⟨rfl, -⟩ <;> rfl
    rcases hpc with rfl | rfl
    · exact ⟨s₁, some (.int v), _, _, _, X0, rfl, rfl, rfl, (fun h => by cases h), ⟨v, rfl, hh0, hv⟩, fun fs hl => cz.trans (X0.ireturnOut hexec hret nv (Or.inr (Or.inl rfl)) (hb hbytes d25) hl)⟩
    · exact ⟨s₁, some (.int v), _, _, _, X0, rfl, rfl, rfl, (fun h => by cases h), ⟨v, rfl, hh0, hv⟩, fun fs hl => cz.trans (X0.ireturnOut hexec hret nv (Or.inr (Or.inl rfl)) (hb hbytes d33) hl)⟩
  · have c3 : Steps p.tables e below (s₁.setTop (entryFrame m #[.ref a, .ref b] 3)) (s₁.setTop (mkF m 35 #[.val (.ref a), .val (.ref b), .unset] [.int 0])) := c2.trans (by
      refine XS.icmpYes X0.here hexec rfl (pc0 := 4) rfl (hb hbytes d4) rfl (ii_ne_t (ne32 a31 b31 hs)) (by decide) rfl ?_
      refine iconstV X0.here hexec rfl 0 (hb hbytes d34) (by decide) ?_
      exact Steps.refl _)
    exact ⟨s₁, some (.int 0), _, _, _, X0, rfl, rfl, rfl, (fun h => by cases h), ⟨0, rfl, hh0, Or.inr ⟨rfl, fun q => hs q.1⟩⟩, fun fs hl => c3.trans (X0.ireturnOut hexec hret rfl (Or.inr (Or.inl rfl)) (hb hbytes d35) hl)⟩
end LEq
theorem Cod.ty {cd : Int32} {n : Nat} {f : Nat → Int32} {V : Cell} (h : Cod cd n f V) : Typed .byte V := fun i v hv => by
  have hi : i < V.slots.size := (Array.getElem?_eq_some_iff.mp hv).1
  rcases h with ⟨-, k1, k2⟩ | ⟨-, k1, k2, -⟩
  · rw [(k2 i (by omega)).1] at hv; cases hv; exact fits_lo8 _
  · rcases Nat.mod_two_eq_zero_or_one i with e | e
    · obtain ⟨j, rfl⟩ : ∃ j, i = 2 * j := ⟨i / 2, by omega⟩
      rw [(k2 j (by omega)).1] at hv; cases hv; exact fits_lo8 _
    · obtain ⟨j, rfl⟩ : ∃ j, i = 2 * j + 1 := ⟨i / 2, by omega⟩
      rw [(k2 j (by omega)).2] at hv; cases hv; exact fits_lo8 _
/-- the same text -/
def SameT (n : Nat) (f : Nat → Int32) (k : Nat) (g : Nat → Int32) : Prop := n = k ∧ ∀ j, j < n → f j = g j
theorem lo8_inj {x y : Int32} (h0 : ¬ x < 0) (h1 : ¬ 255 < x) (k0 : ¬ y < 0) (k1 : ¬ 255 < y) (h : lo8 x = lo8 y) : x = y := by
  rw [← lo8_mask h0 h1, ← lo8_mask k0 k1, h]
/-- arrays coded by one coder are equal just where the texts are -/
theorem Cod.eqv {cd : Int32} {n k : Nat} {f g : Nat → Int32} {V V' : Cell} (h : Cod cd n f V) (h' : Cod cd k g V') (hf : ∀ j, j < n → ¬ f j < 0 ∧ ¬ 65535 < f j) (hg : ∀ j, j < k → ¬ g j < 0 ∧ ¬ 65535 < g j) : EqC V V' ↔ SameT n f k g := by
  have yvv : ∀ {W : Cell} {i : Nat} {x : Int32}, W.slots[i]? = some (.int x) → yv W i = x := fun q => by unfold yv; rw [q]
  rcases h with ⟨rfl, k1, k2⟩ | ⟨rfl, k1, k2, -⟩
  · rcases h' with ⟨-, m1, m2⟩ | ⟨e, -⟩
    · constructor
      · rintro ⟨e1, e2⟩
        refine ⟨by omega, fun j hj => ?_⟩
        have q := e2 j (by omega)
        rw [yvv (k2 j hj).1, yvv (m2 j (by omega)).1] at q
        exact lo8_inj (hf j hj).1 (k2 j hj).2 (hg j (by omega)).1 (m2 j (by omega)).2 q
      · rintro ⟨rfl, e2⟩
        refine ⟨by omega, fun j hj => ?_⟩
        rw [yvv (k2 j (by omega)).1, yvv (m2 j (by omega)).1, e2 j (by omega)]
    · exact absurd e (by decide)
  · rcases h' with ⟨e, -⟩ | ⟨-, m1, m2, -⟩
    · exact absurd e (by decide)
    · constructor
      · rintro ⟨e1, e2⟩
        refine ⟨by omega, fun j hj => ?_⟩
        have q1 := e2 (2 * j) (by omega)
        have q2 := e2 (2 * j + 1) (by omega)
        rw [yvv (k2 j hj).1, yvv (m2 j (by omega)).1] at q1
        rw [yvv (k2 j hj).2, yvv (m2 j (by omega)).2] at q2
        rw [← pair_says (hf j hj).1 (hf j hj).2, ← pair_says (hg j (by omega)).1 (hg j (by omega)).2, q1, q2]
      · rintro ⟨rfl, e2⟩
        refine ⟨by omega, fun i hi => ?_⟩
        rcases Nat.mod_two_eq_zero_or_one i with e | e
        · obtain ⟨j, rfl⟩ : ∃ j, i = 2 * j := ⟨i / 2, by omega⟩
          rw [yvv (k2 j (by omega)).1, yvv (m2 j (by omega)).1, e2 j (by omega)]
        · obtain ⟨j, rfl⟩ : ∃ j, i = 2 * j + 1 := ⟨i / 2, by omega⟩
          rw [yvv (k2 j (by omega)).2, yvv (m2 j (by omega)).2, e2 j (by omega)]
/-- two codings differ: so do the texts -/
theorem Cod.dif {cd cd' : Int32} {n k : Nat} {f g : Nat → Int32} {V V' : Cell} (h : Cod cd n f V) (h' : Cod cd' k g V') (hne : ¬ cd = cd') : ¬ SameT n f k g := by
  rintro ⟨rfl, e⟩
  rcases h with ⟨rfl, -, k2⟩ | ⟨rfl, -, -, j, hj, hw⟩
  · rcases h' with ⟨rfl, -⟩ | ⟨-, -, -, j, hj, hw⟩
    · exact hne rfl
    · exact (k2 j hj).2 (by rw [e j hj]; exact hw)
  · rcases h' with ⟨-, -, m2⟩ | ⟨rfl, -⟩
    · exact (m2 j hj).2 (by rw [← e j hj]; exact hw)
    · exact hne rfl
/-- an object of exactly C is an instance of C -/
theorem cinst {p : Program} {l : Launch} {e : Env} {R : Room} {s : State} {m : MethodId} {args : Array Value} {below : List Frame} {meth : Method} {c : Code} {T : State} {locs : List Loc} {cells slots : Nat} (X : Stand p l e R s m args below meth c T locs cells slots) (hexec : p.tables.exec = Jvm.exec) {own C : String} {index : Nat} (hown : s.vm.findClass own = some m.cls) (hlink : (Cond.classLink own index C).before args s = true) {a : Addr} (hE : Exact C a T)
    {g : JFrame} (hg : g.method = m) {rest : List Value} (hstack : g.stack = .ref a :: rest) (hdg : decode c.code g.pc = .ok (.instanceof index, 3)) :
    ∃ T', Stand p l e R s m args below meth c T' locs cells slots ∧ T'.heap = T.heap ∧ ∀ target, Steps p.tables e below (T'.setTop { g with pc := g.pc + 3, stack := .int 1 :: rest }) target → Steps p.tables e below (T.setTop g) target := by
  obtain ⟨cB, h1, D, h2, h3, h4⟩ := hE
  have h1' : s.vm.findClass C = some cB := by rw [← X.warmed.alike.findClass]; exact h1
  obtain ⟨vm', X', st⟩ := X.instanceofYes hexec hown hlink h2 h4 h1' (by rw [h3]; exact Jvm.Free.SB.assignable_self _ _) hg hstack hdg
  exact ⟨_, X', rfl, st⟩
theorem cself {p : Program} {l : Launch} {e : Env} {R : Room} {s : State} {m : MethodId} {args : Array Value} {below : List Frame} {meth : Method} {c : Code} {T : State} {locs : List Loc} {cells slots : Nat} (X : Stand p l e R s m args below meth c T locs cells slots) (hexec : p.tables.exec = Jvm.exec) {own C : String} {index : Nat} (hown : s.vm.findClass own = some m.cls) (hlink : (Cond.classLink own index C).before args s = true) {a : Addr} (hE : Exact C a T)
    {g : JFrame} (hg : g.method = m) {rest : List Value} (hstack : g.stack = .ref a :: rest) (hdg : decode c.code g.pc = .ok (.checkcast index, 3)) :
    ∃ T', Stand p l e R s m args below meth c T' locs cells slots ∧ T'.heap = T.heap ∧ ∀ target, Steps p.tables e below (T'.setTop { g with pc := g.pc + 3, stack := .ref a :: rest }) target → Steps p.tables e below (T.setTop g) target := by
  obtain ⟨cB, h1, D, h2, h3, h4⟩ := hE
  have h1' : s.vm.findClass C = some cB := by rw [← X.warmed.alike.findClass]; exact h1
  obtain ⟨vm', X', st⟩ := X.checkcastYes hexec hown hlink h2 h4 h1' (by rw [h3]; exact Jvm.Free.SB.assignable_self _ _) hg hstack hdg
  exact ⟨_, X', rfl, fun t h => st t (by rw [← hstack] at h; exact h)⟩
namespace SEq
def yN : MethodName := ⟨"java/lang/String", "equals", "(Ljava/lang/Object;)Z"⟩
abbrev yB : ByteArray := jdk_42_method_66_code
theorem d0 : decode yB 0 = .ok (.aload_n 0, 1) := by decide +kernel
theorem d1 : decode yB 1 = .ok (.aload_n 1, 1) := by decide +kernel
theorem d2 : decode yB 2 = .ok (.if_acmp (.ne) 5, 3) := by decide +kernel
theorem d5 : decode yB 5 = .ok (.iconst 1, 1) := by decide +kernel
theorem d6 : decode yB 6 = .ok (.ireturn, 1) := by decide +kernel
theorem d7 : decode yB 7 = .ok (.aload_n 1, 1) := by decide +kernel
theorem d8 : decode yB 8 = .ok (.instanceof 10, 3) := by decide +kernel
theorem d11 : decode yB 11 = .ok (.ifCond (.eq) 43, 3) := by decide +kernel
theorem d14 : decode yB 14 = .ok (.aload_n 1, 1) := by decide +kernel
theorem d15 : decode yB 15 = .ok (.checkcast 10, 3) := by decide +kernel
theorem d18 : decode yB 18 = .ok (.astore_n 2, 1) := by decide +kernel
theorem d19 : decode yB 19 = .ok (.getstatic 38, 3) := by decide +kernel
theorem d22 : decode yB 22 = .ok (.ifCond (.eq) 14, 3) := by decide +kernel
theorem d25 : decode yB 25 = .ok (.aload_n 0, 1) := by decide +kernel
theorem d26 : decode yB 26 = .ok (.getfield 15, 3) := by decide +kernel
theorem d29 : decode yB 29 = .ok (.aload_n 2, 1) := by decide +kernel
theorem d30 : decode yB 30 = .ok (.getfield 15, 3) := by decide +kernel
theorem d33 : decode yB 33 = .ok (.if_icmp (.ne) 21, 3) := by decide +kernel
theorem d36 : decode yB 36 = .ok (.aload_n 0, 1) := by decide +kernel
theorem d37 : decode yB 37 = .ok (.getfield 9, 3) := by decide +kernel
theorem d40 : decode yB 40 = .ok (.aload_n 2, 1) := by decide +kernel
theorem d41 : decode yB 41 = .ok (.getfield 9, 3) := by decide +kernel
theorem d44 : decode yB 44 = .ok (.invokestatic 541, 3) := by decide +kernel
theorem d47 : decode yB 47 = .ok (.ifCond (.eq) 7, 3) := by decide +kernel
theorem d50 : decode yB 50 = .ok (.iconst 1, 1) := by decide +kernel
theorem d51 : decode yB 51 = .ok (.goto 4, 3) := by decide +kernel
theorem d54 : decode yB 54 = .ok (.iconst 0, 1) := by decide +kernel
theorem d55 : decode yB 55 = .ok (.ireturn, 1) := by decide +kernel
def site : List Cond := [.classLink "java/lang/String" 10 "java/lang/String", .fieldLink "java/lang/String" 38 "java/lang/String" "COMPACT_STRINGS" "Z", .fieldLink "java/lang/String" 15 "java/lang/String" "coder" "B", .fieldLink "java/lang/String" 9 "java/lang/String" "value" "[B", LEq.tab] ++ staticW "java/lang/String" 541 LEq.yN
def tab : Cond := tabOf yN yB 3 (some .boolean) site
def P (x t : Addr) (V : Cell) (cd : Int32) (n : Nat) (f : Nat → Int32) (y t' : Addr) (V' : Cell) (cd' : Int32) (k : Nat) (g : Nat → Int32) (z : Int32) (args : Array Value) (s : State) : Prop := args = #[.ref x, .ref y] ∧ Txt x t V cd n f s ∧ Txt y t' V' cd' k g s ∧ StaticIs s "java/lang/String" "COMPACT_STRINGS" "Z" (.int z) ∧ ¬ z = 0
/-- equals(Object) of two Strings: whether the texts are the same -/
theorem law (l : Launch) (x t : Addr) (V : Cell) (cd : Int32) (n : Nat) (f : Nat → Int32) (y t' : Addr) (V' : Cell) (cd' : Int32) (k : Nat) (g : Nat → Int32) (z : Int32) : Law l yN 2 1 1 14 yB 3 (some .boolean) site (P x t V cd n f y t' V' cd' k g z) (Says01 (SameT n f k g)) [] 0 0 := by
  refine Law.of_walk (plainFor_of_name (by decide +kernel)) (by decide +kernel) (by decide +kernel) (by decide) (fun _ _ h => by rw [h.1]; rfl) (fun _ U U' hal hh h => ⟨h.1, h.2.1.mv hal hh, h.2.2.1.mv hal hh, h.2.2.2.1.there hal hh, h.2.2.2.2⟩) (fun r U U' V V' h1 hal h2 h => Says01.mv r U U' V V' h1 hal h2 h) ?_
  intro p e s m args below meth c s₁ X0 hexec hbytes hml hret hlk hnm hown hh0 W hP
  obtain ⟨rfl, hx, hy, s1, hz⟩ := hP
  have c1 : Steps p.tables e below (s₁.setTop (entryFrame m #[.ref x, .ref y] 3)) (s₁.setTop (mkF m 2 #[.val (.ref x), .val (.ref y), .unset] [.ref y, .ref x])) := Steps.trans (entry rfl) (by
    show Steps p.tables e below (s₁.setTop (mkF m 0 #[.val (.ref x), .val (.ref y), .unset] [])) _
    refine XS.aloadN X0.here hexec rfl (hb hbytes d0) rfl rfl ?_
    refine XS.aloadN X0.here hexec rfl (hb hbytes d1) rfl rfl ?_
    exact Steps.refl _)
  by_cases hxy : x = y
  · have c2 : Steps p.tables e below (s₁.setTop (entryFrame m #[.ref x, .ref y] 3)) (s₁.setTop (mkF m 6 #[.val (.ref x), .val (.ref y), .unset] [.int 1])) := c1.trans (by
      refine acmpNo X0.here hexec rfl (hb hbytes d2) rfl rfl rfl (by simp [acmp, hxy]) ?_
      refine iconstV X0.here hexec rfl 1 (hb hbytes d5) (by decide) ?_
      exact Steps.refl _)
    subst hxy
    have ec : cd = cd' := by
      obtain ⟨D, fd, a1, a2, a3⟩ := hx.2.2.1
      obtain ⟨D', fd', b1, b2, b3⟩ := hy.2.2.1
      cases a1.symm.trans b1
      obtain ⟨q1, q2, q3, q4⟩ := a2.1
      obtain ⟨r1, r2, r3, r4⟩ := b2.1
      cases q4.symm.trans r4
      cases a3.symm.trans b3; rfl
    have et : t = t' := by
      obtain ⟨D, fd, a1, a2, a3⟩ := hx.2.1
      obtain ⟨D', fd', b1, b2, b3⟩ := hy.2.1
      cases a1.symm.trans b1
      obtain ⟨q1, q2, q3, q4⟩ := a2.1
      obtain ⟨r1, r2, r3, r4⟩ := b2.1
      cases q4.symm.trans r4
      cases a3.symm.trans b3; rfl
    subst ec et
    have ev : V = V' := by cases hx.2.2.2.1.1.symm.trans hy.2.2.2.1.1; rfl
    subst ev
    have hs : SameT n f k g := (Cod.eqv hx.2.2.2.2.1 hy.2.2.2.2.1 hx.2.2.2.2.2 hy.2.2.2.2.2).mp ⟨rfl, fun _ _ => rfl⟩
    exact ⟨s₁, some (.int 1), _, _, _, X0, rfl, rfl, rfl, (fun h => by cases h), ⟨1, rfl, hh0, Or.inl ⟨rfl, hs⟩⟩, fun fs hl => c2.trans (X0.ireturnOut hexec hret rfl (Or.inr (Or.inl rfl)) (hb hbytes d6) hl)⟩
  · have c2 : Steps p.tables e below (s₁.setTop (entryFrame m #[.ref x, .ref y] 3)) (s₁.setTop (mkF m 8 #[.val (.ref x), .val (.ref y), .unset] [.ref y])) := c1.trans (by
      refine acmpYes X0.here hexec rfl (pc0 := 2) rfl (hb hbytes d2) rfl rfl rfl (by simp [acmp, hxy]) (by decide) rfl ?_
      refine XS.aloadN X0.here hexec rfl (hb hbytes d7) rfl rfl ?_
      exact Steps.refl _)
    obtain ⟨T3, X3, q3, st3⟩ := cinst X0 hexec hown (wk W (.classLink "java/lang/String" 10 "java/lang/String")) (hy.mv X0.warmed.alike hh0).1 (g := (mkF m 8 #[.val (.ref x), .val (.ref y), .unset] [.ref y])) rfl (rest := []) rfl (hb hbytes d8)
    have hh3 := q3.trans hh0
    have c4 : Steps p.tables e below (s₁.setTop (entryFrame m #[.ref x, .ref y] 3)) (T3.setTop (mkF m 15 #[.val (.ref x), .val (.ref y), .unset] [.ref y])) := (c2.trans (st3 _ (Steps.refl _))).trans (by
      refine XS.ifNo X3.here hexec rfl (hb hbytes d11) rfl (i0_eq_f (by decide)) ?_
      refine XS.aloadN X3.here hexec rfl (hb hbytes d14) rfl rfl ?_
      exact Steps.refl _)
    obtain ⟨T5, X5, q5, st5⟩ := cself X3 hexec hown (wk W (.classLink "java/lang/String" 10 "java/lang/String")) (hy.mv X3.warmed.alike hh3).1 (g := (mkF m 15 #[.val (.ref x), .val (.ref y), .unset] [.ref y])) rfl (rest := []) rfl (hb hbytes d15)
    have hh5 := q5.trans hh3
    have c6 : Steps p.tables e below (s₁.setTop (entryFrame m #[.ref x, .ref y] 3)) (T5.setTop (mkF m 19 #[.val (.ref x), .val (.ref y), .val (.ref y)] [])) := (c4.trans (st5 _ (Steps.refl _))).trans (by
      refine XS.astoreN X5.here hexec rfl (hb hbytes d18) rfl rfl rfl ?_
      exact Steps.refl _)
    obtain ⟨T7, X7, q7, st7⟩ := X5.sget hexec hown (wk W (.fieldLink "java/lang/String" 38 "java/lang/String" "COMPACT_STRINGS" "Z")) s1 (fun _ _ h => by rw [hh5]; exact h) (g := (mkF m 19 #[.val (.ref x), .val (.ref y), .val (.ref y)] [])) rfl (hb hbytes d19)
    have hh7 := q7.trans hh5
    have c8 : Steps p.tables e below (s₁.setTop (entryFrame m #[.ref x, .ref y] 3)) (T7.setTop (mkF m 26 #[.val (.ref x), .val (.ref y), .val (.ref y)] [.ref x])) := (c6.trans (st7 _ (Steps.refl _))).trans (by
      refine XS.ifNo X7.here hexec rfl (hb hbytes d22) rfl (i0_eq_f hz) ?_
      refine XS.aloadN X7.here hexec rfl (hb hbytes d25) rfl rfl ?_
      exact Steps.refl _)
    obtain ⟨T9, X9, q9, st9⟩ := X7.hget hexec hown (wk W (.fieldLink "java/lang/String" 15 "java/lang/String" "coder" "B")) (hx.mv X7.warmed.alike hh7).2.2.1 (g := (mkF m 26 #[.val (.ref x), .val (.ref y), .val (.ref y)] [.ref x])) rfl (rest := []) rfl (hb hbytes d26)
    have hh9 := q9.trans hh7
    have c10 : Steps p.tables e below (s₁.setTop (entryFrame m #[.ref x, .ref y] 3)) (T9.setTop (mkF m 30 #[.val (.ref x), .val (.ref y), .val (.ref y)] [.ref y, .int cd])) := (c8.trans (st9 _ (Steps.refl _))).trans (by
      refine XS.aloadN X9.here hexec rfl (hb hbytes d29) rfl rfl ?_
      exact Steps.refl _)
    obtain ⟨T11, X11, q11, st11⟩ := X9.hget hexec hown (wk W (.fieldLink "java/lang/String" 15 "java/lang/String" "coder" "B")) (hy.mv X9.warmed.alike hh9).2.2.1 (g := (mkF m 30 #[.val (.ref x), .val (.ref y), .val (.ref y)] [.ref y, .int cd])) rfl (rest := [.int cd]) rfl (hb hbytes d30)
    have hh11 := q11.trans hh9
    have c12 : Steps p.tables e below (s₁.setTop (entryFrame m #[.ref x, .ref y] 3)) (T11.setTop (mkF m 33 #[.val (.ref x), .val (.ref y), .val (.ref y)] [.int cd', .int cd])) := c10.trans (st11 _ (Steps.refl _))
    by_cases hcd : cd = cd'
    · subst hcd
      have c13 : Steps p.tables e below (s₁.setTop (entryFrame m #[.ref x, .ref y] 3)) (T11.setTop (mkF m 37 #[.val (.ref x), .val (.ref y), .val (.ref y)] [.ref x])) := c12.trans (by
        refine XS.icmpNo X11.here hexec rfl (hb hbytes d33) rfl (ii_ne_f rfl) ?_
        refine XS.aloadN X11.here hexec rfl (hb hbytes d36) rfl rfl ?_
        exact Steps.refl _)
      obtain ⟨T14, X14, q14, st14⟩ := X11.hget hexec hown (wk W (.fieldLink "java/lang/String" 9 "java/lang/String" "value" "[B")) (hx.mv X11.warmed.alike hh11).2.1 (g := (mkF m 37 #[.val (.ref x), .val (.ref y), .val (.ref y)] [.ref x])) rfl (rest := []) rfl (hb hbytes d37)
      have hh14 := q14.trans hh11
      have c15 : Steps p.tables e below (s₁.setTop (entryFrame m #[.ref x, .ref y] 3)) (T14.setTop (mkF m 41 #[.val (.ref x), .val (.ref y), .val (.ref y)] [.ref y, .ref t])) := (c13.trans (st14 _ (Steps.refl _))).trans (by
        refine XS.aloadN X14.here hexec rfl (hb hbytes d40) rfl rfl ?_
        exact Steps.refl _)
      obtain ⟨T16, X16, q16, st16⟩ := X14.hget hexec hown (wk W (.fieldLink "java/lang/String" 9 "java/lang/String" "value" "[B")) (hy.mv X14.warmed.alike hh14).2.1 (g := (mkF m 41 #[.val (.ref x), .val (.ref y), .val (.ref y)] [.ref y, .ref t])) rfl (rest := [.ref t]) rfl (hb hbytes d41)
      have hh16 := q16.trans hh14
      have c17 : Steps p.tables e below (s₁.setTop (entryFrame m #[.ref x, .ref y] 3)) (T16.setTop (mkF m 44 #[.val (.ref x), .val (.ref y), .val (.ref y)] [.ref t', .ref t])) := c15.trans (st16 _ (Steps.refl _))
      obtain ⟨v18, T18, X18, E18, g18⟩ := X16.callS hexec (LEq.law l t V t' V') hown (wks W (staticW "java/lang/String" 541 LEq.yN)) (wk W LEq.tab) (W := 0) (Nat.le_of_ble_eq_true rfl) (Nat.le_of_ble_eq_true rfl) (Nat.le_refl _) (Nat.le_refl _) (g := (mkF m 44 #[.val (.ref x), .val (.ref y), .val (.ref y)] [.ref t', .ref t])) rfl (by rw [hml]; rfl) c17 (argsL := [.ref t, .ref t']) (rest := []) rfl rfl (by show 2 * 0 + 0 ≤ _; decide) (hb hbytes d44) (⟨rfl, hx.2.2.2.1.mv X16.warmed.alike hh16, hx.2.2.2.2.1.ty, hy.2.2.2.1.mv X16.warmed.alike hh16, hy.2.2.2.2.1.ty⟩)
      obtain ⟨v, rfl, q18, hv⟩ := E18
      have iff := Cod.eqv hx.2.2.2.2.1 hy.2.2.2.2.1 hx.2.2.2.2.2 hy.2.2.2.2.2
      rcases hv with ⟨rfl, he⟩ | ⟨rfl, he⟩
      · have c19 : Steps p.tables e below (s₁.setTop (entryFrame m #[.ref x, .ref y] 3)) (T18.setTop (mkF m 55 #[.val (.ref x), .val (.ref y), .val (.ref y)] [.int 1])) := Steps.trans g18 (by
          refine XS.ifNo X18.here hexec rfl (hb hbytes d47) rfl (i0_eq_f (by decide)) ?_
          refine iconstV X18.here hexec rfl 1 (hb hbytes d50) (by decide) ?_
          refine XS.goto X18.here hexec rfl (pc0 := 51) rfl (hb hbytes d51) (by decide) rfl ?_
          exact Steps.refl _)
        exact ⟨T18, some (.int 1), _, _, _, X18, rfl, rfl, rfl, (fun h => by cases h), ⟨1, rfl, q18.trans hh16, Or.inl ⟨rfl, iff.mp he⟩⟩, fun fs hl => c19.trans (X18.ireturnOut hexec hret rfl (Or.inr (Or.inl rfl)) (hb hbytes d55) hl)⟩
      · have c19 : Steps p.tables e below (s₁.setTop (entryFrame m #[.ref x, .ref y] 3)) (T18.setTop (mkF m 55 #[.val (.ref x), .val (.ref y), .val (.ref y)] [.int 0])) := Steps.trans g18 (by
          refine XS.ifYes X18.here hexec rfl (pc0 := 47) rfl (hb hbytes d47) rfl (i0_eq_t rfl) (by decide) rfl ?_
          refine iconstV X18.here hexec rfl 0 (hb hbytes d54) (by decide) ?_
          exact Steps.refl _)
        exact ⟨T18, some (.int 0), _, _, _, X18, rfl, rfl, rfl, (fun h => by cases h), ⟨0, rfl, q18.trans hh16, Or.inr ⟨rfl, fun q => he (iff.mpr q)⟩⟩, fun fs hl => c19.trans (X18.ireturnOut hexec hret rfl (Or.inr (Or.inl rfl)) (hb hbytes d55) hl)⟩
    · have c13 : Steps p.tables e below (s₁.setTop (entryFrame m #[.ref x, .ref y] 3)) (T11.setTop (mkF m 55 #[.val (.ref x), .val (.ref y), .val (.ref y)] [.int 0])) := c12.trans (by
        refine XS.icmpYes X11.here hexec rfl (pc0 := 33) rfl (hb hbytes d33) rfl (ii_ne_t hcd) (by decide) rfl ?_
        refine iconstV X11.here hexec rfl 0 (hb hbytes d54) (by decide) ?_
        exact Steps.refl _)
      exact ⟨T11, some (.int 0), _, _, _, X11, rfl, rfl, rfl, (fun h => by cases h), ⟨0, rfl, hh11, Or.inr ⟨rfl, Cod.dif hx.2.2.2.2.1 hy.2.2.2.2.1 hcd⟩⟩, fun fs hl => c13.trans (X11.ireturnOut hexec hret rfl (Or.inr (Or.inl rfl)) (hb hbytes d55) hl)⟩
theorem pays {l : Launch} {R : Room} {p : Program} {e : Env} {below : List Frame} {s : State} {sargs : Array Value} {len W : Nat} (x t : Addr) (V : Cell) (cd : Int32) (n : Nat) (f : Nat → Int32) (y t' : Addr) (V' : Cell) (cd' : Int32) (k : Nat) (g : Nat → Int32) (z : Int32) (htab : tab.before sargs s = true) (hfr : 2 ≤ R.frames) (hlo : W + 28 ≤ R.locals) :
    Back l R p e below s sargs yN len W (fun A₁ a₁ => A₁.cells + 0 ≤ R.cells ∧ A₁.slots + 0 ≤ R.slots ∧ P x t V cd n f y t' V' cd' k g z a₁ A₁.U) (fun A₁ _ v₁ B₁ => Says01 (SameT n f k g) v₁ A₁.U B₁.U ∧ B₁.locs = A₁.locs ++ [] ∧ B₁.cells = A₁.cells + 0 ∧ B₁.slots = A₁.slots + 0) :=
  (law l x t V cd n f y t' V' cd' k g z).pays htab hfr (by omega)
end SEq
end StrChars
namespace StrChars.Road
open Jvm Sem ClassFile Op Lib Jvm.Stand Jvm.Free Jvm.Free.XT
open Jvm.Lib.Cold (StaticIs)
/-- the words of String.equals(Object) -/
abbrev wordsEq : List Jvm.Cond := [.code SEq.yN SEq.yB 3 (some .boolean), .initialized ST, .classLink ST 10 ST, .fieldLink ST 38 ST "COMPACT_STRINGS" "Z", .fieldLink ST 15 ST "coder" "B", .fieldLink ST 9 ST "value" "[B", .methodLink ST 541 LEq.yN, .static LEq.yN, .code LEq.yN LEq.yB 3 (some .boolean), .initialized "java/lang/StringLatin1"]
theorem tabEq_of {a : Array Value} {s : State} (h : ∀ w ∈ wordsEq, w.before a s = true) : SEq.tab.before a s = true := by
  have hl : LEq.tab.before a s = true := unparts (wk h (.code LEq.yN LEq.yB 3 (some .boolean))) (wks h (.initialized LEq.yN.cls :: LEq.site))
  have q := consq hl h
  exact unparts (wk q (.code SEq.yN SEq.yB 3 (some .boolean))) (wks q (.initialized SEq.yN.cls :: SEq.site))
theorem movedEq {Z s : State} {a0 args : Array Value} (hZ : Z.Warmed39 s.vm) (hw : ∀ d ∈ wordsEq, d.before a0 Z = true) : ∀ d ∈ wordsEq, d.before args s = true := fun d hd => by
  have t : ∀ d ∈ wordsEq, (d.onTables && d.keepsFace) = true := by decide +kernel
  exact RoadKit.mv hZ (hw d hd) (t d hd)
/-- the road's facts of a String, as the laws ask it -/
theorem txt_of {Z U : State} {a0 : Array Value} {kI : Nat} (wi : (Jvm.Cond.instantiable ST kI).before a0 Z = true) (al : Z.vm.Alike U.vm) {x t : Addr} {kb : ClassId} {cs : List Int32} {cd N2 : Int32} {vs : List Value} (E : RoadKit.Exa Z U.heap x ST) (V : RoadKit.Fld Z U.heap x ST "value" "[B" (.ref t)) (C : RoadKit.Fld Z U.heap x ST "coder" "B" (.int cd)) (K : RoadKit.Arv Z U.heap t kb .byte N2 vs (.int 0)) (hc : CodA cs cd N2 vs) (hb : ∀ c ∈ cs, ¬ c < 0 ∧ ¬ (65535 : Int32) < c) (l2 : cs.length ≤ 4000) :
    ∃ A, Txt x t A cd cs.length (fun j => cs.getD j 0) U := by
  obtain ⟨A, K1, K2, K3, K4, K5, K6⟩ := K
  have hcod := hc.cod (by omega) K3 K5
  obtain ⟨D, fV, fC, hB, F1, F2, g1, g2, -, -⟩ := strObj wi al E V C
  exact ⟨A, ⟨_, hB.2.2.1, D, hB.1, rfl, by cases q : D.vm <;> first | rfl | exact absurd q (hB.2.1.2 _)⟩, Has.of hB F1 g1, Has.of hB F2 g2, ⟨K1.1, State.isArrayOf_alike al K1.2.1, K1.2.2, by rcases hcod with ⟨-, q, -⟩ | ⟨-, q, -⟩ <;> omega⟩, hcod, fun j hj => by
    have e : cs.getD j 0 = cs[j] := by simp [List.getD_eq_getElem?_getD, hj]
    show ¬ cs.getD j 0 < 0 ∧ ¬ 65535 < cs.getD j 0
    rw [e]; exact hb _ (List.getElem_mem _)⟩
theorem same_list (cs ds : List Int32) : SameT cs.length (fun j => cs.getD j 0) ds.length (fun j => ds.getD j 0) ↔ cs = ds := by
  constructor
  · rintro ⟨e, q⟩
    refine List.ext_getElem e fun j h1 h2 => ?_
    have := q j h1
    simpa [List.getD_eq_getElem?_getD, h1, h2] using this
  · rintro rfl
    exact ⟨rfl, fun _ _ => rfl⟩
/-- **equals(Object) OF TWO SUCH STRINGS**: 1 just where the chars are the same -/
theorem eqW {p : Program} {l : Launch} {e : Env} {R : Room} {s : State} {args : Array Value} {below : List Frame} {len W : Nat} {Z : State} {a0 : Array Value} {h : Heap} (hZ : Z.Warmed39 s.vm) (hw : ∀ d ∈ wordsEq, d.before a0 Z = true) {kI : Nat} (wi : (Jvm.Cond.instantiable ST kI).before a0 Z = true)
    {x t : Addr} {kb : ClassId} {cs : List Int32} {cd N2 : Int32} {vs : List Value} (E : RoadKit.Exa Z h x ST) (V : RoadKit.Fld Z h x ST "value" "[B" (.ref t)) (C : RoadKit.Fld Z h x ST "coder" "B" (.int cd)) (K : RoadKit.Arv Z h t kb .byte N2 vs (.int 0)) (hc : CodA cs cd N2 vs) (hb : ∀ c ∈ cs, ¬ c < 0 ∧ ¬ (65535 : Int32) < c) (l2 : cs.length ≤ 4000)
    {y t' : Addr} {kb' : ClassId} {ds : List Int32} {cd' N2' : Int32} {vs' : List Value} (E' : RoadKit.Exa Z h y ST) (V' : RoadKit.Fld Z h y ST "value" "[B" (.ref t')) (C' : RoadKit.Fld Z h y ST "coder" "B" (.int cd')) (K' : RoadKit.Arv Z h t' kb' .byte N2' vs' (.int 0)) (hc' : CodA ds cd' N2' vs') (hb' : ∀ c ∈ ds, ¬ c < 0 ∧ ¬ (65535 : Int32) < c) (l2' : ds.length ≤ 4000)
    {z : Int32} (S : RoadKit.Sta Z h ST "COMPACT_STRINGS" "Z" (.int z)) (hz : ¬ z = 0) (hfr : 2 ≤ R.frames) (hlo : W + 28 ≤ R.locals) :
    Back l R p e below s args (⟨"java/lang/String", "equals", "(Ljava/lang/Object;)Z"⟩ : MethodName) len W (fun P a => a = #[.ref x, .ref y] ∧ P.U.heap = h ∧ P.cells + 0 ≤ R.cells ∧ P.slots + 0 ≤ R.slots)
      (fun P _ v B => ∃ L, (((v = some (.int 1) ∧ cs = ds) ∨ (v = some (.int 0) ∧ ¬ cs = ds)) ∧ L = [] ∧ B.U.heap = h) ∧ B.locs = P.locs ++ L ∧ B.cells = P.cells + 0 ∧ B.slots = P.slots + 0) := by
  intro m meth c P g ig mk a X hg hsize hdg hW hn hp'
  obtain ⟨rfl, rfl, r1, r2⟩ := hp'
  have al : Z.vm.Alike P.U.vm := hZ.alike.trans X.warmed.alike
  obtain ⟨A, hx⟩ := txt_of wi al E V C K hc hb l2
  obtain ⟨A', hy⟩ := txt_of wi al E' V' C' K' hc' hb' l2'
  obtain ⟨v, B, X', ⟨⟨w, hv, hh, hq⟩, hl, hk, hs⟩, st⟩ := SEq.pays x t A cd cs.length (fun j => cs.getD j 0) y t' A' cd' ds.length (fun j => ds.getD j 0) z (tabEq_of (movedEq hZ hw)) hfr hlo m meth c P g ig mk _ X hg hsize hdg hW hn ⟨r1, r2, rfl, hx, hy, sta_is al S, hz⟩
  refine ⟨v, B, X', ⟨[], ⟨?_, rfl, hh⟩, hl, hk, hs⟩, st⟩
  rcases hq with ⟨rfl, q⟩ | ⟨rfl, q⟩
  · exact Or.inl ⟨hv, (same_list cs ds).mp q⟩
  · exact Or.inr ⟨hv, fun e => q ((same_list cs ds).mpr e)⟩
end StrChars.Road
namespace StrChars
open Jvm Sem ClassFile Op Lib Jvm.Stand Jvm.Free.XT Jvm.Free.ALB Jvm.Free.JM Jvm.Free
open Jvm.Lib.Cold (StaticIs)
namespace ChN
def yN : MethodName := ⟨"java/lang/String", "charAt", "(I)C"⟩
abbrev yB : ByteArray := jdk_42_method_56_code
theorem d0 : decode yB 0 = .ok (.aload_n 0, 1) := by decide +kernel
theorem d1 : decode yB 1 = .ok (.invokevirtual 492, 3) := by decide +kernel
theorem d4 : decode yB 4 = .ok (.ifCond (.eq) 12, 3) := by decide +kernel
theorem d7 : decode yB 7 = .ok (.aload_n 0, 1) := by decide +kernel
theorem d8 : decode yB 8 = .ok (.getfield 9, 3) := by decide +kernel
theorem d11 : decode yB 11 = .ok (.iload_n 1, 1) := by decide +kernel
theorem d12 : decode yB 12 = .ok (.invokestatic 495, 3) := by decide +kernel
theorem d15 : decode yB 15 = .ok (.ireturn, 1) := by decide +kernel
def site : List Cond := [.fieldLink "java/lang/String" 9 "java/lang/String" "value" "[B", IsL.tab, LChA.tab] ++ virtW "java/lang/String" 492 "java/lang/String" IsL.yN IsL.yN ++ staticW "java/lang/String" 495 LChA.yN
def tab : Cond := tabOf yN yB 2 (some .char) site
def P (x t : Addr) (V : Cell) (n : Nat) (f : Nat → Int32) (z : Int32) (fm : Value) (i : Nat) (args : Array Value) (s : State) : Prop := args = #[.ref x, .int (Int32.ofNat i)] ∧ Txt x t V 0 n f s ∧ i < n ∧ StaticIs s "java/lang/String" "COMPACT_STRINGS" "Z" (.int z) ∧ ¬ z = 0 ∧ StaticIs s "jdk/internal/util/Preconditions" "SIOOBE_FORMATTER" "Ljava/util/function/BiFunction;" fm ∧ fm.isRef = true
def E (f : Nat → Int32) (i : Nat) (r : Option Value) (s u : State) : Prop := XT.PureE (some (.int (f i))) r s u
/-- charAt(i) of a Latin-1 String of n chars, i < n: f i -/
theorem law (l : Launch) (x t : Addr) (V : Cell) (n : Nat) (f : Nat → Int32) (z : Int32) (fm : Value) (i : Nat) : Law l yN 2 1 3 40 yB 2 (some .char) site (P x t V n f z fm i) (E f i) [] 0 0 := by
  refine Law.of_walk (plainFor_of_name (by decide +kernel)) (by decide +kernel) (by decide +kernel) (by decide) (fun _ _ h => by rw [h.1]; rfl) (fun _ U U' hal hh h => ⟨h.1, h.2.1.mv hal hh, h.2.2.1, h.2.2.2.1.there hal hh, h.2.2.2.2.1, h.2.2.2.2.2.1.there hal hh, h.2.2.2.2.2.2⟩) (fun r U U' V V' h1 hal h2 h => XT.PureE.mv r U U' V V' h1 hal h2 h) ?_
  intro p e s m args below meth c s₁ X0 hexec hbytes hml hret hlk hnm hown hh0 W hP
  obtain ⟨rfl, hx, hi, s1, hz, s3, rf⟩ := hP
  have v31 := hx.2.2.2.1.2.2.2
  have hr := hx.2.2.2.2.2 i hi
  have hx0 := hx.mv X0.warmed.alike hh0
  have c1 : Steps p.tables e below (s₁.setTop (entryFrame m #[.ref x, .int (Int32.ofNat i)] 2)) (s₁.setTop (mkF m 1 #[.val (.ref x), .val (.int (Int32.ofNat i))] [.ref x])) := Steps.trans (entry rfl) (by
    show Steps p.tables e below (s₁.setTop (mkF m 0 #[.val (.ref x), .val (.int (Int32.ofNat i))] [])) _
    refine XS.aloadN X0.here hexec rfl (hb hbytes d0) rfl rfl ?_
    exact Steps.refl _)
  obtain ⟨v2, T2, X2, E2, g2⟩ := X0.callV hexec (IsL.law l x 0 z) hown (wks W (virtW "java/lang/String" 492 "java/lang/String" IsL.yN IsL.yN)) rfl (by decide) (wk W IsL.tab) (W := 0) (Nat.le_of_ble_eq_true rfl) (Nat.le_of_ble_eq_true rfl) (Nat.le_refl _) (Nat.le_refl _) (hx0.1.fc X0.warmed.alike) hx0.1.is (g := (mkF m 1 #[.val (.ref x), .val (.int (Int32.ofNat i))] [.ref x])) rfl (by rw [hml]; rfl) c1 (argsL := []) (rest := []) rfl rfl (by show 2 * 0 + 0 ≤ _; decide) (hb hbytes d1) (⟨rfl, hx0.2.2.1, hx.2.2.2.2.1.cd, s1.there X0.warmed.alike hh0, hz⟩)
  obtain ⟨rfl, q2⟩ := E2
  have hh2 := q2.trans hh0
  have hx2 := hx.mv X2.warmed.alike hh2
  obtain ⟨-, k1, k2⟩ | ⟨k0, -⟩ := hx.2.2.2.2.1
  · have c3 : Steps p.tables e below (s₁.setTop (entryFrame m #[.ref x, .int (Int32.ofNat i)] 2)) (T2.setTop (mkF m 8 #[.val (.ref x), .val (.int (Int32.ofNat i))] [.ref x])) := Steps.trans g2 (by
      refine XS.ifNo X2.here hexec rfl (hb hbytes d4) rfl (i0_eq_f (by decide)) ?_
      refine XS.aloadN X2.here hexec rfl (hb hbytes d7) rfl rfl ?_
      exact Steps.refl _)
    obtain ⟨T4, X4, q4, st4⟩ := X2.hget hexec hown (wk W (.fieldLink "java/lang/String" 9 "java/lang/String" "value" "[B")) hx2.2.1 (g := (mkF m 8 #[.val (.ref x), .val (.int (Int32.ofNat i))] [.ref x])) rfl (rest := []) rfl (hb hbytes d8)
    have hh4 := q4.trans hh2
    have c5 : Steps p.tables e below (s₁.setTop (entryFrame m #[.ref x, .int (Int32.ofNat i)] 2)) (T4.setTop (mkF m 12 #[.val (.ref x), .val (.int (Int32.ofNat i))] [.int (Int32.ofNat i), .ref t])) := (c3.trans (st4 _ (Steps.refl _))).trans (by
      refine XS.iloadN X4.here hexec rfl (hb hbytes d11) rfl ?_
      exact Steps.refl _)
    obtain ⟨v6, T6, X6, E6, g6⟩ := X4.callS hexec (LChA.law l t V i (lo8 (f i)) fm) hown (wks W (staticW "java/lang/String" 495 LChA.yN)) (wk W LChA.tab) (W := 0) (Nat.le_of_ble_eq_true rfl) (Nat.le_of_ble_eq_true rfl) (Nat.le_refl _) (Nat.le_refl _) (g := (mkF m 12 #[.val (.ref x), .val (.int (Int32.ofNat i))] [.int (Int32.ofNat i), .ref t])) rfl (by rw [hml]; rfl) c5 (argsL := [.ref t, .int (Int32.ofNat i)]) (rest := []) rfl rfl (by show 2 * 0 + 0 ≤ _; decide) (hb hbytes d12) (⟨rfl, hx.2.2.2.1.mv X4.warmed.alike hh4, (k2 i hi).1, s3.there X4.warmed.alike hh4, rf⟩)
    obtain ⟨rfl, q6⟩ := E6
    rw [chr8_lo8 hr.1 (k2 i hi).2] at g6
    exact ⟨T6, some (.int (f i)), _, _, _, X6, rfl, rfl, rfl, (fun h => by cases h), ⟨rfl, q6.trans hh4⟩, fun fs hl => Steps.trans g6 (X6.ireturnOut hexec hret (narrow_ch hr.1 hr.2) (Or.inr (Or.inr (Or.inr (Or.inl rfl)))) (hb hbytes d15) hl)⟩
  · exact absurd k0 (by decide)
theorem pays {l : Launch} {R : Room} {p : Program} {e : Env} {below : List Frame} {s : State} {sargs : Array Value} {len W : Nat} (x t : Addr) (V : Cell) (n : Nat) (f : Nat → Int32) (z : Int32) (fm : Value) (i : Nat) (htab : tab.before sargs s = true) (hfr : 4 ≤ R.frames) (hlo : W + 53 ≤ R.locals) :
    Back l R p e below s sargs yN len W (fun A₁ a₁ => A₁.cells + 0 ≤ R.cells ∧ A₁.slots + 0 ≤ R.slots ∧ P x t V n f z fm i a₁ A₁.U) (fun A₁ _ v₁ B₁ => E f i v₁ A₁.U B₁.U ∧ B₁.locs = A₁.locs ++ [] ∧ B₁.cells = A₁.cells + 0 ∧ B₁.slots = A₁.slots + 0) :=
  (law l x t V n f z fm i).pays htab hfr (by omega)
end ChN
end StrChars
namespace StrChars.Road
open Jvm Sem ClassFile Op Lib Jvm.Stand Jvm.Free Jvm.Free.XT
open Jvm.Lib.Cold (StaticIs)
/-- the words of String.charAt(int), the Latin-1 road alone -/
abbrev wordsChN : List Jvm.Cond := [.code ChN.yN ChN.yB 2 (some .char), .initialized ST, .fieldLink ST 9 ST "value" "[B", .fieldLink ST 38 ST "COMPACT_STRINGS" "Z", .fieldLink ST 15 ST "coder" "B", .code IsL.yN IsL.yB 1 (some .boolean), .methodLink ST 492 IsL.yN, .declares IsL.yN, .selects ST IsL.yN IsL.yN, .instanceMethod IsL.yN,
  .methodLink ST 495 LChA.yN, .static LChA.yN, .code LChA.yN LChA.yB 2 (some .char), .initialized "java/lang/StringLatin1", .methodLink "java/lang/StringLatin1" 9 JO.Str_checkIndex.yN, .static JO.Str_checkIndex.yN, .code JO.Str_checkIndex.yN JO.Str_checkIndex.yB 2 none,
  .fieldLink ST 1053 "jdk/internal/util/Preconditions" "SIOOBE_FORMATTER" "Ljava/util/function/BiFunction;", .methodLink ST 1059 JC.PreCheck.yN, .static JC.PreCheck.yN, .code JC.PreCheck.yN JC.PreCheck.yB 3 (some .int), .initialized "jdk/internal/util/Preconditions"]
theorem tabChN_of {a : Array Value} {s : State} (h : ∀ w ∈ wordsChN, w.before a s = true) : ChN.tab.before a s = true := by
  have hp : JC.PreCheck.tab.before a s = true := unparts (wk h (.code JC.PreCheck.yN JC.PreCheck.yB 3 (some .int))) (wks h (.initialized JC.PreCheck.yN.cls :: JC.PreCheck.site))
  have qk := consq hp h
  have hk : JO.Str_checkIndex.tab.before a s = true := unparts (wk qk (.code JO.Str_checkIndex.yN JO.Str_checkIndex.yB 2 none)) (wks qk (.initialized JO.Str_checkIndex.yN.cls :: JO.Str_checkIndex.site))
  have ql := consq hk h
  have hl : LChA.tab.before a s = true := unparts (wk ql (.code LChA.yN LChA.yB 2 (some .char))) (wks ql (.initialized LChA.yN.cls :: LChA.site))
  have hi : IsL.tab.before a s = true := unparts (wk h (.code IsL.yN IsL.yB 1 (some .boolean))) (wks h (.initialized IsL.yN.cls :: IsL.site))
  have q := consq hi (consq hl h)
  exact unparts (wk q (.code ChN.yN ChN.yB 2 (some .char))) (wks q (.initialized ChN.yN.cls :: ChN.site))
theorem movedChN {Z s : State} {a0 args : Array Value} (hZ : Z.Warmed39 s.vm) (hw : ∀ d ∈ wordsChN, d.before a0 Z = true) : ∀ d ∈ wordsChN, d.before args s = true := fun d hd => by
  have t : ∀ d ∈ wordsChN, (d.onTables && d.keepsFace) = true := by decide +kernel
  exact RoadKit.mv hZ (hw d hd) (t d hd)
/-- **charAt(i) OF A LATIN-1 STRING**, i < n: the char -/
theorem chN {p : Program} {l : Launch} {e : Env} {R : Room} {s : State} {args : Array Value} {below : List Frame} {len W : Nat} {Z : State} {a0 : Array Value} {h : Heap} (hZ : Z.Warmed39 s.vm) (hw : ∀ d ∈ wordsChN, d.before a0 Z = true) {kI : Nat} (wi : (Jvm.Cond.instantiable ST kI).before a0 Z = true)
    {x t : Addr} {kb : ClassId} {cs : List Int32} {N2 z : Int32} {vs : List Value} {fm : Value} {i : Nat} {j : Int32} (E : RoadKit.Exa Z h x ST) (V : RoadKit.Fld Z h x ST "value" "[B" (.ref t)) (C : RoadKit.Fld Z h x ST "coder" "B" (.int 0)) (K : RoadKit.Arv Z h t kb .byte N2 vs (.int 0)) (hc : CodA cs 0 N2 vs) (hb : ∀ c ∈ cs, ¬ c < 0 ∧ ¬ (65535 : Int32) < c)
    (S : RoadKit.Sta Z h ST "COMPACT_STRINGS" "Z" (.int z)) (hz : ¬ z = 0) (F : RoadKit.Sta Z h "jdk/internal/util/Preconditions" "SIOOBE_FORMATTER" "Ljava/util/function/BiFunction;" fm) (rf : fm.isRef = true) (l2 : cs.length ≤ 4000) (hi : i < cs.length) (hj : j = Int32.ofNat i) (hfr : 4 ≤ R.frames) (hlo : W + 53 ≤ R.locals) :
    Back l R p e below s args (⟨"java/lang/String", "charAt", "(I)C"⟩ : MethodName) len W (fun P a => a = #[.ref x, .int j] ∧ P.U.heap = h ∧ P.cells + 0 ≤ R.cells ∧ P.slots + 0 ≤ R.slots)
      (fun P _ v B => ∃ L, (v = some (.int (cs.getD i 0)) ∧ L = [] ∧ B.U.heap = h) ∧ B.locs = P.locs ++ L ∧ B.cells = P.cells + 0 ∧ B.slots = P.slots + 0) := by
  subst hj
  intro m meth c P g ig mk a X hg hsize hdg hW hn hp'
  obtain ⟨rfl, rfl, r1, r2⟩ := hp'
  have al : Z.vm.Alike P.U.vm := hZ.alike.trans X.warmed.alike
  obtain ⟨A, hx⟩ := txt_of wi al E V C K hc hb l2
  obtain ⟨v, B, X', ⟨⟨hv, hh⟩, hl, hk, hs⟩, st⟩ := ChN.pays x t A cs.length (fun j => cs.getD j 0) z fm i (tabChN_of (movedChN hZ hw)) hfr hlo m meth c P g ig mk _ X hg hsize hdg hW hn ⟨r1, r2, rfl, hx, hi, sta_is al S, hz, sta_is al F, rf⟩
  exact ⟨v, B, X', ⟨[], ⟨hv, rfl, hh⟩, hl, hk, hs⟩, st⟩
/-- what backV says of its String, as the contracts of this text ask it: cs's low bytes, coder 0 -/
theorem codOf {cs : List Int32} {n : Nat} (hn : cs.length = n) (hb : ∀ c ∈ cs, ¬ 255 < c) : CodA cs 0 (Int32.ofNat n) ((cs.map lo8).map Value.int) := Or.inl ⟨rfl, by rw [hn], by simp [List.map_map, Function.comp_def], hb⟩
end StrChars.Road
end Jvm.Pilot.@@N@@

namespace Jvm.Pilot.@@N@@
open Jvm Jvm.ClassFile Sem Op Lib Jvm.Free Jvm.Stand Jvm.LawKit Jvm.RoadKit Bundle Jvm.Pilot.@@N@@.Jvm.D
def own_Go (p : Program) (e : Env) (below : List Frame) (Qf : Outcome → State → Prop) (A : State) : Prop := ∃ s₂ o, Steps p.tables e below A s₂ ∧ s₂.status = .running ∧ Ended s₂ below o ∧ Qf o s₂
theorem own_go {p : Program} {e : Env} {below : List Frame} {Qf : Outcome → State → Prop} {A B : State} (st : ∀ t, Steps p.tables e below B t → Steps p.tables e below A t) (h : own_Go p e below Qf B) : own_Go p e below Qf A := by
  obtain ⟨t, o, h1, h2⟩ := h
  exact ⟨t, o, st t h1, h2⟩
theorem own_fits {v : Value} {t : FieldType} (h : v.isRef = true) (ht : t.isReference = true) : fits t v = true := by
  cases t <;> first | (cases ht; done) | (cases v <;> simp_all [fits, Value.isRef])
theorem own_eqr {Z : State} {args : Array Value} {X F : Term} {idx : List Nat} {y : Addr} (hF : F.eval args Z none idx Z = some (.ref y)) (h : (Jvm.Cond.eq X F).value args Z none Z idx = some true) : X.eval args Z none idx Z = some (.ref y) := by
  obtain ⟨x, y', e1, e2, k1, k2⟩ := cmp_v (Or.inl h)
  cases hF.symm.trans e2
  have hx : x.isRef = true := k2.2
  exact e1.trans (congrArg some (gotT (eq_R e1 hF hx rfl) h))
theorem own_len {Z : State} {args : Array Value} {t : Term} {a : Addr} {c : Cell} {ty : FieldType} {n : Int32} (ev : t.eval args Z none [] Z = some (.ref a)) (A : Arr Z Z.heap a c ty) (h : (Jvm.Cond.eq (Term.length t) (Term.int n)).value args Z none Z [] = some true) : c.slots.size < 2 ^ 31 ∧ c.slots.size.toInt32 = n := by
  have l := eqv_i (y := n) rfl h
  have q := Jvm.Free.SBG.length_lt ev (A.fin (Vm.Alike.refl _)) l
  have e := len_f ev (A.fin (Vm.Alike.refl _)) q
  rw [e] at l
  exact ⟨q, Value.int.inj (Option.some.inj l)⟩
theorem own_el {Z : State} {args : Array Value} {t : Term} {a : Addr} {c : Cell} {ty : FieldType} {j : Int32} {v : Value} (ev : t.eval args Z none [] Z = some (.ref a)) (A : Arr Z Z.heap a c ty) (h : (Term.elem t (Term.int j)).eval args Z none [] Z = some v) : c.slots[j.toNatClampNeg]? = some v := (elem_in h ev rfl A.1).2
def own_Str (Z : State) (h : Heap) (x : Addr) (cs : List Int32) : Prop := ∃ (t : Addr) (kb : ClassId) (N : Int32) (vs : List Value), Exa Z h x "java/lang/String" ∧ Fld Z h x "java/lang/String" "value" "[B" (.ref t) ∧ Fld Z h x "java/lang/String" "coder" "B" (.int 0) ∧ Arv Z h t kb .byte N vs (.int 0) ∧ StrChars.Road.CodA cs 0 N vs ∧ (∀ c ∈ cs, ¬ c < 0 ∧ ¬ (255 : Int32) < c) ∧ cs.length ≤ 4000
theorem own_Str_ext {Z : State} {h h' : Heap} {x : Addr} {cs : List Int32} (E : Ext h h') (F : own_Str Z h x cs) : own_Str Z h' x cs := by
  obtain ⟨t, kb, N, vs, a1, a2, a3, a4, r⟩ := F
  exact ⟨t, kb, N, vs, a1.ext E, a2.ext E, a3.ext E, a4.ext E, r⟩
theorem own_Str_exa {Z : State} {h : Heap} {x : Addr} {cs : List Int32} (F : own_Str Z h x cs) : Exa Z h x "java/lang/String" := by
  obtain ⟨t, kb, N, vs, a1, -⟩ := F; exact a1
def own_Oth (Z : State) (h : Heap) (w : Addr) : Prop := ∃ (C : String) (n : Nat) (a0 : Array Value), Exa Z h w C ∧ C ≠ "java/lang/String" ∧ (Jvm.Cond.instantiable C n).before a0 Z = true
theorem own_Str_keep {Z : State} {h h' : Heap} {x : Addr} {cs : List Int32} {ws : List Addr} (K : Keep h h' ws) (W : ∀ w ∈ ws, own_Oth Z h w) (F : own_Str Z h x cs) : own_Str Z h' x cs := by
  obtain ⟨t, kb, N, vs, a1, a2, a3, a4, r⟩ := F
  have n1 : x ∉ ws := fun q => by
    obtain ⟨C, n, a0, e1, e2, e3⟩ := W x q
    exact (Exa.ne e1 a1 e2) rfl
  have n2 : t ∉ ws := fun q => by
    obtain ⟨C, n, a0, e1, e2, e3⟩ := W t q
    exact (Exa.neArv e1 a4 e3) rfl
  exact ⟨t, kb, N, vs, a1.keep K, a2.keep K n1, a3.keep K n1, a4.keep K n2, r⟩
/-- as own_Str_keep, where the places that were written are new Strings made since, or others, each unlike the String and its bytes -/
theorem own_Str_keepN {Z : State} {h h' : Heap} {x : Addr} {cs : List Int32} {ws : List Addr} {k : Nat} (K : Keep h h' ws) (F : own_Str Z h x cs) (N : ∀ w ∈ ws, h.size ≤ w) : own_Str Z h' x cs := by
  obtain ⟨t, kb, N', vs, a1, a2, a3, a4, r⟩ := F
  have n1 : x ∉ ws := fun q => absurd a1.lt (Nat.not_lt.mpr (N x q))
  have n2 : t ∉ ws := fun q => absurd a4.lt (Nat.not_lt.mpr (N t q))
  exact ⟨t, kb, N', vs, a1.keep K, a2.keep K n1, a3.keep K n1, a4.keep K n2, r⟩
def own_eqs (cs ds : List Int32) : Int32 := if cs = ds then 1 else 0
theorem own_wide {cs : List Int32} (h : ∀ c ∈ cs, ¬ c < 0 ∧ ¬ (255 : Int32) < c) : ∀ c ∈ cs, ¬ c < 0 ∧ ¬ (65535 : Int32) < c := fun c q => ⟨(h c q).1, fun z => (h c q).2 (by
  rw [Int32.lt_iff_toInt_lt] at z ⊢
  have o1 : (65535 : Int32).toInt = 65535 := by decide
  have o2 : (255 : Int32).toInt = 255 := by decide
  omega)⟩
theorem own_nar {c : Int32} (h : ¬ c < 0 ∧ ¬ (255 : Int32) < c) : nar .char c = c := by
  have q := c_i2c c
  have e : nar .char c = c.toUInt32.toUInt16.toUInt32.toInt32 := rfl
  rw [e]
  simp only [Int32.lt_iff_toInt_lt] at h
  have o0 : (0 : Int32).toInt = 0 := by decide
  have o2 : (255 : Int32).toInt = 255 := by decide
  exact Int32.toInt_inj.mp (by omega)
theorem own_i2c (x : Int32) : (x &&& (255 : Int32)).toUInt32.toUInt16.toUInt32.toInt32 = x &&& (255 : Int32) := i2c_mask x
theorem own_m255 (x : Int32) : ¬ (x &&& (255 : Int32)) < 0 ∧ ¬ (255 : Int32) < (x &&& (255 : Int32)) := by
  have a := c_mask x 255 8 (by decide) (by decide)
  have o0 : (0 : Int32).toInt = 0 := by decide
  have o2 : (255 : Int32).toInt = 255 := by decide
  simp only [Int32.lt_iff_toInt_lt]
  omega
theorem own_eqW {p : Program} {l : Launch} {e : Env} {R : Room} {s : State} {args : Array Value} {below : List Frame} {len W : Nat} {Z : State} {a0 : Array Value} {h : Heap} (hZ : Z.Warmed39 s.vm) (hw : ∀ d ∈ tables_1, d.before a0 Z = true) {x y : Addr} {cs ds : List Int32} (n0 : Nat)
    (F : own_Str Z h x cs) (F' : own_Str Z h y ds) {z : Int32} (S : Sta Z h "java/lang/String" "COMPACT_STRINGS" "Z" (.int z)) (hz : ¬ z = 0) (hfr : 2 ≤ R.frames) (hlo : W + 28 ≤ R.locals) :
    Back l R p e below s args (⟨"java/lang/String", "equals", "(Ljava/lang/Object;)Z"⟩ : MethodName) len W (fun P a => a = #[.ref x, .ref y] ∧ P.U.heap = h ∧ P.cells + 0 ≤ R.cells ∧ P.slots + 0 ≤ R.slots)
      (fun P _ v B => ∃ L, (v = some (.int (own_eqs cs ds)) ∧ Fr n0 L ∧ B.U.heap = h) ∧ B.locs = P.locs ++ L ∧ B.cells = P.cells + 0 ∧ B.slots = P.slots + 0) := by
  obtain ⟨t, kb, N, vs, a1, a2, a3, a4, a5, a6, a7⟩ := F
  obtain ⟨t', kb', N', vs', b1, b2, b3, b4, b5, b6, b7⟩ := F'
  refine Back.mono (StrChars.Road.eqW hZ (fun d hd => hw d ((by decide +kernel : ∀ d ∈ StrChars.Road.wordsEq, d ∈ tables_1) d hd)) (kI := 4) (hw _ (List.mem_of_getElem? (i := 3) rfl)) a1 a2 a3 a4 a5 (own_wide a6) a7 b1 b2 b3 b4 b5 (own_wide b6) b7 S hz hfr hlo) (fun _ _ q => q) (fun P a v B _ q => ?_)
  obtain ⟨L, ⟨q1, rfl, q3⟩, r⟩ := q
  refine ⟨[], ⟨?_, Fr.nil n0, q3⟩, r⟩
  rcases q1 with ⟨rfl, e⟩ | ⟨rfl, e⟩ <;> simp [own_eqs, e]
theorem own_newS {p : Program} {l : Launch} {e : Env} {R : Room} {s : State} {args : Array Value} {below : List Frame} {len W : Nat} {Z : State} {a0 : Array Value} {h : Heap} (hZ : Z.Warmed39 s.vm) (hw : ∀ d ∈ tables_1, d.before a0 Z = true) {x b : Addr} {kC : ClassId} {cs : List Int32} {vs : List Value} {d v0 c0 : Value} {N : Int32} (n n0 : Nat) (hx0 : n0 ≤ x) (hh0 : n0 ≤ h.size)
    (E : Exa Z h x "java/lang/String") (V : Fld Z h x "java/lang/String" "value" "[B" v0) (C : Fld Z h x "java/lang/String" "coder" "B" c0) (K : Arv Z h b kC .char N vs d) (hv : vs = cs.map Value.int) {z : Int32} (S : Sta Z h "java/lang/String" "COMPACT_STRINGS" "Z" (.int z)) (hz : ¬ z = 0)
    (hn : cs.length = n) (hN : N = Int32.ofNat n) (l0 : 0 < n) (l2 : n ≤ 4000) (hp : ∀ c ∈ cs, ¬ c < 0 ∧ ¬ (255 : Int32) < c) (hfr : 4 ≤ R.frames) (hlo : W + 65 ≤ R.locals) :
    Back l R p e below s args (⟨"java/lang/String", "<init>", "([C)V"⟩ : MethodName) len W (fun P a => a = #[.ref x, .ref b] ∧ P.U.heap = h ∧ P.cells + 1 ≤ R.cells ∧ P.slots + n ≤ R.slots)
      (fun P _ v B => ∃ L, (v = none ∧ Fr n0 L ∧ Keep h B.U.heap [x] ∧ own_Str Z B.U.heap x cs) ∧ B.locs = P.locs ++ L ∧ B.cells = P.cells + 1 ∧ B.slots = P.slots + n) := by
  subst hv
  refine Back.mono (StrChars.Road.backV hZ (fun d hd => hw d ((by decide +kernel : ∀ d ∈ StrChars.Road.words, d ∈ tables_1) d hd)) (kI := 4) (hw _ (List.mem_of_getElem? (i := 3) rfl)) (cs := cs) (bs := cs.map (fun c => c.toInt8.toInt32)) hx0 hh0 E V C K S hz hn hN l0 l2 hp rfl hfr hlo) (fun _ _ q => q) (fun P a v B _ q => ?_)
  obtain ⟨L, ⟨q1, q2, q3, q4, q5, t, kb, -, -, -, q6, q7⟩, r⟩ := q
  exact ⟨L, ⟨q1, q2, q3, t, kb, N, _, q4, q6, q5, q7, by rw [hN]; exact StrChars.Road.codOf hn (fun c hc => (hp c hc).2), hp, by omega⟩, r⟩
theorem own_lenW {p : Program} {l : Launch} {e : Env} {R : Room} {s : State} {args : Array Value} {below : List Frame} {len W : Nat} {Z : State} {a0 : Array Value} {h : Heap} (hZ : Z.Warmed39 s.vm) (hw : ∀ d ∈ tables_1, d.before a0 Z = true) {x : Addr} {cs : List Int32} (n0 : Nat)
    (F : own_Str Z h x cs) {z : Int32} (S : Sta Z h "java/lang/String" "COMPACT_STRINGS" "Z" (.int z)) (hz : ¬ z = 0) (hfr : 2 ≤ R.frames) (hlo : W + 25 ≤ R.locals) :
    Back l R p e below s args (⟨"java/lang/String", "length", "()I"⟩ : MethodName) len W (fun P a => a = #[.ref x] ∧ P.U.heap = h ∧ P.cells + 0 ≤ R.cells ∧ P.slots + 0 ≤ R.slots)
      (fun P _ v B => ∃ L, (v = some (.int (Int32.ofNat cs.length)) ∧ Fr n0 L ∧ B.U.heap = h) ∧ B.locs = P.locs ++ L ∧ B.cells = P.cells + 0 ∧ B.slots = P.slots + 0) := by
  obtain ⟨t, kb, N, vs, a1, a2, a3, a4, a5, a6, a7⟩ := F
  refine Back.mono (StrChars.Road.lenW hZ (fun d hd => hw d ((by decide +kernel : ∀ d ∈ StrChars.Road.wordsLen, d ∈ tables_1) d hd)) (kI := 4) (hw _ (List.mem_of_getElem? (i := 3) rfl)) a1 a2 a3 a4 a5 (own_wide a6) S hz a7 hfr hlo) (fun _ _ q => q) (fun P a v B _ q => ?_)
  obtain ⟨L, ⟨q1, rfl, q3⟩, r⟩ := q
  exact ⟨[], ⟨q1, Fr.nil n0, q3⟩, r⟩
theorem own_chN {p : Program} {l : Launch} {e : Env} {R : Room} {s : State} {args : Array Value} {below : List Frame} {len W : Nat} {Z : State} {a0 : Array Value} {h : Heap} (hZ : Z.Warmed39 s.vm) (hw : ∀ d ∈ tables_1, d.before a0 Z = true) {x : Addr} {cs : List Int32} (n0 : Nat) (i : Nat) {j : Int32}
    (F : own_Str Z h x cs) {z : Int32} (S : Sta Z h "java/lang/String" "COMPACT_STRINGS" "Z" (.int z)) (hz : ¬ z = 0) {fm : Value} (S2 : Sta Z h "jdk/internal/util/Preconditions" "SIOOBE_FORMATTER" "Ljava/util/function/BiFunction;" fm) (rf : fm.isRef = true) (hi : i < cs.length) (hj : j = Int32.ofNat i) (hfr : 4 ≤ R.frames) (hlo : W + 53 ≤ R.locals) :
    Back l R p e below s args (⟨"java/lang/String", "charAt", "(I)C"⟩ : MethodName) len W (fun P a => a = #[.ref x, .int j] ∧ P.U.heap = h ∧ P.cells + 0 ≤ R.cells ∧ P.slots + 0 ≤ R.slots)
      (fun P _ v B => ∃ L, (v = some (.int (cs.getD i 0)) ∧ Fr n0 L ∧ B.U.heap = h) ∧ B.locs = P.locs ++ L ∧ B.cells = P.cells + 0 ∧ B.slots = P.slots + 0) := by
  obtain ⟨t, kb, N, vs, a1, a2, a3, a4, a5, a6, a7⟩ := F
  refine Back.mono (StrChars.Road.chN hZ (fun d hd => hw d ((by decide +kernel : ∀ d ∈ StrChars.Road.wordsChN, d ∈ tables_1) d hd)) (kI := 4) (hw _ (List.mem_of_getElem? (i := 3) rfl)) a1 a2 a3 a4 a5 (own_wide a6) S hz S2 rf a7 hi hj hfr hlo) (fun _ _ q => q) (fun P a v B _ q => ?_)
  obtain ⟨L, ⟨q1, rfl, q3⟩, r⟩ := q
  exact ⟨[], ⟨q1, Fr.nil n0, q3⟩, r⟩
def own_EL : List (String × Nat) := consts_1
theorem own_EW {Z : State} {a0 : Array Value} (hw : ∀ d ∈ tables_1, d.before a0 Z = true) : EW Z a0 own_EL := (EW.cons (hw _ (List.mem_of_getElem? (i := 1) rfl)) (by decide) (EW.cons (hw _ (List.mem_of_getElem? (i := 45) rfl)) (by decide) (EW.cons (hw _ (List.mem_of_getElem? (i := 46) rfl)) (by decide) (EW.cons (hw _ (List.mem_of_getElem? (i := 112) rfl)) (by decide) (EW.cons (hw _ (List.mem_of_getElem? (i := 34) rfl)) (by decide) EW.nil)))))
theorem own_wS {Z : State} {a0 : Array Value} (hw : ∀ d ∈ tables_1, d.before a0 Z = true) : ∀ a ∈ Bundle.stringAtoms, a.before a0 Z = true := fun d hd => hw d ((by decide +kernel : ∀ d ∈ Bundle.stringAtoms, d ∈ tables_1) d hd)
theorem own_arvty {Z : State} {h : Heap} {a b : Addr} {k k' : ClassId} {ty ty' : FieldType} {z z' : Int32} {vs vs' : List Value} {d d' : Value} (A : Arv Z h a k ty z vs d) (B : Arv Z h b k' ty' z' vs' d') (hn : ty ≠ ty') : a ≠ b := fun e => by
  subst e
  obtain ⟨c1, ⟨h1, ⟨-, k1, i1, comp, j1⟩, -⟩, -⟩ := A
  obtain ⟨c2, ⟨g1, ⟨-, k2, i2, comp', j2⟩, -⟩, -⟩ := B
  cases h1.symm.trans g1
  cases i1.symm.trans i2
  rw [j1] at j2
  cases j2
  exact hn rfl
theorem own_backSH {p : Program} {l : Launch} {e : Env} {R : Room} {s : State} {args : Array Value} {below : List Frame} {Z : State} {a0 : Array Value} {EL : List (String × Nat)} {h : Heap} {vm0 : Vm} {y : MethodName} {bytes : ByteArray} {maxL : Nat} {ret : Option FieldType} {rm : Room} {len W : Nat} {as' : Array Value} {Q : Option Value → Heap → List Loc → Prop} {SL : List Addr}
    (hM : MetFree l y (head1 [Jvm.Cond.code y bytes maxL ret] rm) (fun a U => a = as' ∧ Z.Warmed39 U.vm ∧ U.heap = h ∧ CHv Z EL U.vm h ∧ ∀ x ∈ SL, Safe Z EL U.vm h x) (fun _ _ _ _ _ => True) (fun _ U o U' => ∃ v L, o = .returned v ∧ Q v U'.heap L ∧ CHr Z EL U.vm U.heap U'.vm U'.heap ∧ ReturnedEndW U o U' L rm.cells rm.slots))
    (hZ : Z.Warmed39 vm0) (wc : (Jvm.Cond.code y bytes maxL ret).before a0 Z = true) (wz : (Jvm.Cond.initialized y.cls).before a0 Z = true) (hf : rm.frames + 1 ≤ R.frames) (hl : W + (maxL + 11) + rm.locals ≤ R.locals) (hEL : EW Z a0 EL) (H : CHv Z EL vm0 h) (hSL : ∀ x ∈ SL, Safe Z EL vm0 h x ∧ x < h.size) :
    BackS l R p e below (s.setVm vm0) args y len W (fun A a => a = as' ∧ A.U.heap = h ∧ A.cells + rm.cells ≤ R.cells ∧ A.slots + rm.slots ≤ R.slots)
      (fun A _ v B => ∃ L, Q v B.U.heap L ∧ B.locs = A.locs ++ L ∧ B.cells = A.cells + rm.cells ∧ B.slots = A.slots + rm.slots ∧ CHr Z EL vm0 h B.U.vm B.U.heap) :=
  BackS.of_freeW (bytes := bytes) (maxL := maxL) (ret := ret) (E := fun _ first o t L k n => k = rm.cells ∧ n = rm.slots ∧ (∃ v, o = .returned v ∧ Q v t.heap L) ∧ CHr Z EL first.vm first.heap t.vm t.heap) hM hf hl
    (fun m meth c A a Y hp => have hU : Z.Warmed39 A.U.vm := wtrans (s := s.setVm vm0) hZ Y.warmed
      ⟨by show (Cond.and _ .tt).before a A.U = true; rw [Cond.before_and, mv hU wc]; rfl, mv hU wc, mv hU wz, hp.2.2.1, hp.2.2.2⟩)
    (fun m meth c A a g mk Y hp => ⟨hp.1, wtrans (s := s.setVm vm0) hZ Y.warmed, hp.2.1, (CHv.at Y hZ hEL H).1, fun x q => CHr.safe (CHv.at Y hZ hEL H) (hSL x q).2 (hSL x q).1⟩) (fun _ _ _ _ _ _ _ _ _ => trivial)
    (fun _ _ _ _ ⟨v, L, h1, h2, h3, h4⟩ => ⟨L, _, _, h4, rfl, rfl, ⟨v, h1, h2⟩, h3⟩)
    (fun m meth c A a g mk v t L k n Y hp _ _ ⟨e1, e2, ⟨v', e3, e4⟩, e5⟩ => by
      cases e3; subst e1 e2
      refine ⟨L, e4, rfl, rfl, rfl, (CHv.at Y hZ hEL H).trans ?_⟩
      rw [← hp.2.1]; exact e5)
def own_rg (c : Int32) : Prop := ¬ c < 0 ∧ ¬ (255 : Int32) < c
def own_max (a b : Int32) : Int32 := if a < b then b else a
def own_st (cs : List Int32) (a b c : Addr) : Value := if [(105 : Int32), (110 : Int32), (45 : Int32), (112 : Int32), (114 : Int32), (111 : Int32), (103 : Int32), (114 : Int32), (101 : Int32), (115 : Int32), (115 : Int32)] = cs then .ref a else if [(99 : Int32), (111 : Int32), (109 : Int32), (112 : Int32), (108 : Int32), (101 : Int32), (116 : Int32), (101 : Int32), (100 : Int32)] = cs then .ref b else if [(102 : Int32), (97 : Int32), (105 : Int32), (108 : Int32), (101 : Int32), (100 : Int32)] = cs then .ref c else .null
theorem own_st_ref (cs : List Int32) (a b c : Addr) : (own_st cs a b c).isRef = true := by
  unfold own_st
  split
  · rfl
  · split
    · rfl
    · split <;> rfl
def own_at (cs : List Int32) (i : Nat) (p ch : Int32) : Int32 := if Int32.ofNat i = p then ch &&& 255 else if i < cs.length then cs.getD i 0 else ch &&& 255
theorem own_at_rg {cs : List Int32} (h : ∀ c ∈ cs, ¬ c < 0 ∧ ¬ (255 : Int32) < c) (i : Nat) (p ch : Int32) : own_rg (own_at cs i p ch) := by
  unfold own_at
  split
  · exact own_m255 _
  · split
    · rename_i q
      have e : cs.getD i 0 = cs[i] := by simp [List.getD_eq_getElem?_getD, q]
      rw [e]; exact h _ (List.getElem_mem _)
    · exact own_m255 _
theorem own_eqs_ne {a b : List Int32} (h : ¬ own_eqs a b = 0) : a = b := by
  unfold own_eqs at h
  by_cases e : a = b
  · exact e
  · simp [e] at h
theorem own_eqs_eq {a b : List Int32} (h : own_eqs a b = 0) : ¬ a = b := fun e => by simp [own_eqs, e] at h
theorem own_eqs_no {a b : List Int32} (h : ¬ a = b) : own_eqs a b = 0 := by simp [own_eqs, h]
theorem own_of32 {i n : Nat} (hi : i < 4000) (hn : n ≤ 4000) : Int32.ofNat i < Int32.ofNat n ↔ i < n := by
  rw [Int32.lt_iff_toInt_lt, Int32.toInt_ofNat_small (by omega), Int32.toInt_ofNat_small (by omega)]
  omega
theorem own_n1 {n : Nat} {v : Int32} (e : Int32.ofNat n = v) (h : n ≤ 11) : ¬ v < 0 ∧ ¬ (12 : Int32) < v := by
  subst e
  have o0 : (0 : Int32).toInt = 0 := by decide
  have o2 : (12 : Int32).toInt = 12 := by decide
  rw [Int32.lt_iff_toInt_lt, Int32.lt_iff_toInt_lt, Int32.toInt_ofNat_small (by omega), o0, o2]
  omega
theorem own_n3 {n : Nat} {v : Int32} (e : Int32.ofNat n = v) (h : n ≤ 11) : ¬ (v + (1 : Int32)) < 0 ∧ ¬ (12 : Int32) < (v + (1 : Int32)) := by
  subst e
  have o0 : (0 : Int32).toInt = 0 := by decide
  have o1 : (1 : Int32).toInt = 1 := by decide
  have o2 : (12 : Int32).toInt = 12 := by decide
  have a1 := c_iadd (Int32.ofNat n) 1
  have r1 := rng32 (Int32.ofNat n + 1)
  have q := Int32.toInt_ofNat_small (n := n) (by omega)
  rw [o1, q] at a1
  rw [Int32.lt_iff_toInt_lt, Int32.lt_iff_toInt_lt, o0, o2]
  omega
theorem own_n2 {n : Nat} {v : Int32} (e : Int32.ofNat n = v) (h : n ≤ 11) : ¬ own_max (v - (1 : Int32)) (0 : Int32) < 0 ∧ ¬ (12 : Int32) < own_max (v - (1 : Int32)) (0 : Int32) := by
  subst e
  have o0 : (0 : Int32).toInt = 0 := by decide
  have o1 : (1 : Int32).toInt = 1 := by decide
  have o2 : (12 : Int32).toInt = 12 := by decide
  have a1 := c_isub (Int32.ofNat n) 1
  have r1 := rng32 (Int32.ofNat n - 1)
  have q := Int32.toInt_ofNat_small (n := n) (by omega)
  rw [o1, q] at a1
  unfold own_max
  split
  · exact ⟨by decide, by decide⟩
  · rename_i u
    rw [Int32.lt_iff_toInt_lt, o0] at u
    rw [Int32.lt_iff_toInt_lt, Int32.lt_iff_toInt_lt, o0, o2]
    omega
theorem own_rem13 (x : Int32) : ¬ ((x.toUInt32 >>> ((2 : Int32) &&& 31).toUInt32).toInt32 % (13 : Int32)) < 0 ∧ ¬ (12 : Int32) < ((x.toUInt32 >>> ((2 : Int32) &&& 31).toUInt32).toInt32 % (13 : Int32)) := by
  have a1 := c_iushr x 2 2 (by decide) (by decide)
  generalize (x.toUInt32 >>> ((2 : Int32) &&& 31).toUInt32).toInt32 = y at *
  have r := rng32 x
  have a2 := (c_irem y 13 13 (by decide)).1 (by omega)
  have o0 : (0 : Int32).toInt = 0 := by decide
  have o2 : (12 : Int32).toInt = 12 := by decide
  simp only [Int32.lt_iff_toInt_lt, o0, o2]
  omega
theorem own_cap {n : Int32} (h : ¬ n < 0 ∧ ¬ (12 : Int32) < n) : n.toNatClampNeg ≤ 12 := by
  obtain ⟨h1, h2⟩ := h
  simp only [Int32.lt_iff_toInt_lt] at h1 h2
  have o0 : (0 : Int32).toInt = 0 := by decide
  have o2 : (12 : Int32).toInt = 12 := by decide
  simp only [Int32.toNatClampNeg]
  omega
theorem own_inb {n : Int32} {i : Int32} (h : i < n) (h0 : ¬ i < 0) : ¬ i < 0 ∧ i < n := ⟨h0, h⟩
theorem own_le {n : Int32} {i : Int32} {k : Nat} (h0 : ¬ n < 0) (h : ¬ i < n) (hk : i.toInt = (k : Int)) : n.toNatClampNeg ≤ k := by
  rw [Int32.lt_iff_toInt_lt] at h h0
  have o0 : (0 : Int32).toInt = 0 := by decide
  simp only [Int32.toNatClampNeg]
  omega
theorem own_beyond {Z : State} {h : Heap} {a : Addr} {k : ClassId} {ty : FieldType} {n : Int32} {vs : List Value} {d : Value} (F : Arv Z h a k ty n vs d) (i : Nat) (v : Value) (hi : n.toNatClampNeg ≤ i) : Arv Z h a k ty n (vs.set i v) d := by
  obtain ⟨c, A, q1, S, q3, H, G⟩ := F
  have e : ∀ j, j < c.slots.size → (vs.set i v).getD j d = vs.getD j d := fun j hj => by
    rw [S] at hj
    simp only [List.getD_eq_getElem?_getD]
    rw [List.getElem?_set_ne (by omega)]
  exact ⟨c, A, q1, S, q3, fun j hj => by rw [e j hj]; exact H j hj, fun j hj => by rw [e j hj]; exact G j hj⟩
theorem own_short {Z : State} {h : Heap} {a : Addr} {k : ClassId} {ty : FieldType} {n : Int32} {vs : List Value} {d : Value} (F : Arv Z h a k ty n vs d) : Arv Z h a k ty n (vs.take n.toNatClampNeg) d := by
  obtain ⟨c, A, q1, S, q3, H, G⟩ := F
  have e : ∀ j, j < c.slots.size → (vs.take n.toNatClampNeg).getD j d = vs.getD j d := fun j hj => by
    rw [S] at hj
    simp only [List.getD_eq_getElem?_getD]
    rw [List.getElem?_take_of_lt hj]
  exact ⟨c, A, q1, S, q3, fun j hj => by rw [e j hj]; exact H j hj, fun j hj => by rw [e j hj]; exact G j hj⟩
theorem own_newSn {p : Program} {l : Launch} {e : Env} {R : Room} {s : State} {args : Array Value} {below : List Frame} {len W : Nat} {Z : State} {a0 : Array Value} {h : Heap} (hZ : Z.Warmed39 s.vm) (hw : ∀ d ∈ tables_1, d.before a0 Z = true) {x b : Addr} {kC : ClassId} {cs : List Int32} {vs : List Value} {d v0 c0 : Value} {N : Int32} (n0 : Nat) (hx0 : n0 ≤ x) (hh0 : n0 ≤ h.size)
    (E : Exa Z h x "java/lang/String") (V : Fld Z h x "java/lang/String" "value" "[B" v0) (C : Fld Z h x "java/lang/String" "coder" "B" c0) (K : Arv Z h b kC .char N vs d) (hv : vs = cs.map Value.int) (hl12 : cs.length = 12) {z : Int32} (S : Sta Z h "java/lang/String" "COMPACT_STRINGS" "Z" (.int z)) (hz : ¬ z = 0)
    (hN : ¬ N < 0 ∧ ¬ (12 : Int32) < N) (hN0 : ¬ N = 0) (hp : ∀ c ∈ cs, ¬ c < 0 ∧ ¬ (255 : Int32) < c) (hfr : 4 ≤ R.frames) (hlo : W + 65 ≤ R.locals) :
    Back l R p e below s args (⟨"java/lang/String", "<init>", "([C)V"⟩ : MethodName) len W (fun P a => a = #[.ref x, .ref b] ∧ P.U.heap = h ∧ P.cells + 1 ≤ R.cells ∧ P.slots + 12 ≤ R.slots)
      (fun P _ v B => ∃ L, (v = none ∧ Fr n0 L ∧ Keep h B.U.heap [x] ∧ own_Str Z B.U.heap x (cs.take N.toNatClampNeg)) ∧ B.locs = P.locs ++ L ∧ B.cells = P.cells + 1 ∧ B.slots = P.slots + 12) := by
  have hc := own_cap hN
  have hpos : 0 < N.toNatClampNeg := by
    obtain ⟨h1, -⟩ := hN
    simp only [Int32.lt_iff_toInt_lt, ← Int32.toInt_inj] at h1 hN0
    have o0 : (0 : Int32).toInt = 0 := by decide
    simp only [Int32.toNatClampNeg]
    omega
  have B0 := own_newS (l := l) (p := p) (e := e) (R := R) (below := below) (args := args) (len := len) (W := W) hZ hw (cs := cs.take N.toNatClampNeg) N.toNatClampNeg n0 hx0 hh0 E V C (own_short K) (by rw [hv, List.map_take]) S hz (by rw [List.length_take, hl12]; omega) ((back32 hN.1).1.symm) hpos (by omega) (fun c q => hp c (List.mem_of_mem_take q)) hfr hlo
  intro m meth c P g ig mk a X hg hsize hdg hW hn hp'
  obtain ⟨v, B, X', ⟨L, q1, q2, q3, q4⟩, stp⟩ := B0 m meth c P g ig mk a X hg hsize hdg hW hn ⟨hp'.1, hp'.2.1, hp'.2.2.1, by have := hp'.2.2.2; omega⟩
  exact ⟨v, ⟨B.U, B.locs, B.cells, P.slots + 12⟩, X'.mono (Nat.le_refl _) (by show B.slots ≤ P.slots + 12; rw [q4]; omega), ⟨L, q1, q2, q3, rfl⟩, stp⟩
theorem own_gd {cs : List Int32} (h : ∀ c ∈ cs, ¬ c < 0 ∧ ¬ (255 : Int32) < c) {i : Nat} (q : i < cs.length) : ¬ cs.getD i 0 < 0 ∧ ¬ (255 : Int32) < cs.getD i 0 := by
  have e : cs.getD i 0 = cs[i] := by simp [List.getD_eq_getElem?_getD, q]
  rw [e]; exact h _ (List.getElem_mem _)
def own_G (Z : State) (wV : Addr) (wI : Addr) (wC : Addr) (wF : Addr) (sI : Addr) (tI : Addr) (sC : Addr) (tC : Addr) (sF : Addr) (tF : Addr) (k_wV : ClassId) (k_tI : ClassId) (k_tC : ClassId) (k_tF : ClassId) (zC : Int32) (fm : Value) : Prop := Sta Z Z.heap "com/example/void_repeat/voidrepeat/jdbc/RowState" "$VALUES" "[Lcom/example/void_repeat/voidrepeat/jdbc/RowState;" (.ref wV) ∧ Exa Z Z.heap wV "[Lcom/example/void_repeat/voidrepeat/jdbc/RowState;" ∧ Sta Z Z.heap "com/example/void_repeat/voidrepeat/jdbc/RowState" "IN_PROGRESS" "Lcom/example/void_repeat/voidrepeat/jdbc/RowState;" (.ref wI) ∧ Exa Z Z.heap wI "com/example/void_repeat/voidrepeat/jdbc/RowState" ∧ Sta Z Z.heap "com/example/void_repeat/voidrepeat/jdbc/RowState" "COMPLETED" "Lcom/example/void_repeat/voidrepeat/jdbc/RowState;" (.ref wC) ∧ Exa Z Z.heap wC "com/example/void_repeat/voidrepeat/jdbc/RowState" ∧ Sta Z Z.heap "com/example/void_repeat/voidrepeat/jdbc/RowState" "FAILED" "Lcom/example/void_repeat/voidrepeat/jdbc/RowState;" (.ref wF) ∧ Exa Z Z.heap wF "com/example/void_repeat/voidrepeat/jdbc/RowState" ∧ Fld Z Z.heap wI "com/example/void_repeat/voidrepeat/jdbc/RowState" "text" "Ljava/lang/String;" (.ref sI) ∧ Exa Z Z.heap sI "java/lang/String" ∧ Fld Z Z.heap sI "java/lang/String" "value" "[B" (.ref tI) ∧ Fld Z Z.heap wC "com/example/void_repeat/voidrepeat/jdbc/RowState" "text" "Ljava/lang/String;" (.ref sC) ∧ Exa Z Z.heap sC "java/lang/String" ∧ Fld Z Z.heap sC "java/lang/String" "value" "[B" (.ref tC) ∧ Fld Z Z.heap wF "com/example/void_repeat/voidrepeat/jdbc/RowState" "text" "Ljava/lang/String;" (.ref sF) ∧ Exa Z Z.heap sF "java/lang/String" ∧ Fld Z Z.heap sF "java/lang/String" "value" "[B" (.ref tF) ∧ Fld Z Z.heap sI "java/lang/String" "coder" "B" (.int (0 : Int32)) ∧ Fld Z Z.heap sC "java/lang/String" "coder" "B" (.int (0 : Int32)) ∧ Fld Z Z.heap sF "java/lang/String" "coder" "B" (.int (0 : Int32)) ∧ Arv Z Z.heap wV k_wV (.object "com/example/void_repeat/voidrepeat/jdbc/RowState") (3 : Int32) [(.ref wI), (.ref wC), (.ref wF)] .null ∧ Arv Z Z.heap tI k_tI .byte (11 : Int32) [(.int (105 : Int32)), (.int (110 : Int32)), (.int (45 : Int32)), (.int (112 : Int32)), (.int (114 : Int32)), (.int (111 : Int32)), (.int (103 : Int32)), (.int (114 : Int32)), (.int (101 : Int32)), (.int (115 : Int32)), (.int (115 : Int32))] (.int 0) ∧ Arv Z Z.heap tC k_tC .byte (9 : Int32) [(.int (99 : Int32)), (.int (111 : Int32)), (.int (109 : Int32)), (.int (112 : Int32)), (.int (108 : Int32)), (.int (101 : Int32)), (.int (116 : Int32)), (.int (101 : Int32)), (.int (100 : Int32))] (.int 0) ∧ Arv Z Z.heap tF k_tF .byte (6 : Int32) [(.int (102 : Int32)), (.int (97 : Int32)), (.int (105 : Int32)), (.int (108 : Int32)), (.int (101 : Int32)), (.int (100 : Int32))] (.int 0) ∧ Sta Z Z.heap "java/lang/String" "COMPACT_STRINGS" "Z" (.int zC) ∧ ¬ zC = 0 ∧ Sta Z Z.heap "jdk/internal/util/Preconditions" "SIOOBE_FORMATTER" "Ljava/util/function/BiFunction;" fm ∧ fm.isRef = true ∧ own_Str Z Z.heap sI [(105 : Int32), (110 : Int32), (45 : Int32), (112 : Int32), (114 : Int32), (111 : Int32), (103 : Int32), (114 : Int32), (101 : Int32), (115 : Int32), (115 : Int32)] ∧ own_Str Z Z.heap sC [(99 : Int32), (111 : Int32), (109 : Int32), (112 : Int32), (108 : Int32), (101 : Int32), (116 : Int32), (101 : Int32), (100 : Int32)] ∧ own_Str Z Z.heap sF [(102 : Int32), (97 : Int32), (105 : Int32), (108 : Int32), (101 : Int32), (100 : Int32)] ∧ True
theorem d4_0 : decode jdk_42_method_149_code 0 = .ok (.aload_n 0, 1) := by decide +kernel
theorem d4_1 : decode jdk_42_method_149_code 1 = .ok (.invokespecial 1, 3) := by decide +kernel
theorem d4_4 : decode jdk_42_method_149_code 4 = .ok (.iload_n 3, 1) := by decide +kernel
theorem d4_5 : decode jdk_42_method_149_code 5 = .ok (.ifCond .ne 22, 3) := by decide +kernel
theorem d4_8 : decode jdk_42_method_149_code 8 = .ok (.aload_n 0, 1) := by decide +kernel
theorem d4_9 : decode jdk_42_method_149_code 9 = .ok (.ldc 7, 2) := by decide +kernel
theorem d4_11 : decode jdk_42_method_149_code 11 = .ok (.getfield 9, 3) := by decide +kernel
theorem d4_14 : decode jdk_42_method_149_code 14 = .ok (.putfield 9, 3) := by decide +kernel
theorem d4_17 : decode jdk_42_method_149_code 17 = .ok (.aload_n 0, 1) := by decide +kernel
theorem d4_18 : decode jdk_42_method_149_code 18 = .ok (.ldc 7, 2) := by decide +kernel
theorem d4_20 : decode jdk_42_method_149_code 20 = .ok (.getfield 15, 3) := by decide +kernel
theorem d4_23 : decode jdk_42_method_149_code 23 = .ok (.putfield 15, 3) := by decide +kernel
theorem d4_26 : decode jdk_42_method_149_code 26 = .ok (.return_, 1) := by decide +kernel
theorem pn_4 : plainName "java/lang/String" = true := by first | (simp [plainName, overriddenIn]; done) | decide +kernel
theorem ef_rmS4 (m : MethodId) (a1 : Addr) (a2 : Addr) : entryFrame m #[(.ref a1), (.ref a2), (.int (0 : Int32)), (.int (0 : Int32)), .null] 6 = mkF m 0 #[.val (.ref a1), .val (.ref a2), .val (.int (0 : Int32)), .val (.int (0 : Int32)), .val .null, .unset] [] := by first | (simp [entryFrame, mkF, argsToLocals, Value.category]; done) | rfl
def Q_rmS4 (Z : State) (wV : Addr) (wI : Addr) (wC : Addr) (wF : Addr) (sI : Addr) (tI : Addr) (sC : Addr) (tC : Addr) (sF : Addr) (tF : Addr) (k_wV : ClassId) (k_tI : ClassId) (k_tC : ClassId) (k_tF : ClassId) (zC : Int32) (fm : Value) (a1 : Addr) (a2 : Addr) (u0 : Value) (h0 : Heap) (n0 : Nat) (v : Option Value) (h : Heap) (L : List Loc) : Prop := v = none ∧ Fr n0 L ∧ Keep h0 h [a1] ∧ own_Str Z h a1 []
set_option maxRecDepth 65536 in
set_option maxHeartbeats 40000000 in
theorem rmS4 (l : Launch) (Z : State) (a0 : Array Value) (hw : ∀ d ∈ tables_1, d.before a0 Z = true) (ws : List Jvm.Cond) (wV : Addr) (wI : Addr) (wC : Addr) (wF : Addr) (sI : Addr) (tI : Addr) (sC : Addr) (tC : Addr) (sF : Addr) (tF : Addr) (k_wV : ClassId) (k_tI : ClassId) (k_tC : ClassId) (k_tF : ClassId) (zC : Int32) (fm : Value) (G : own_G Z wV wI wC wF sI tI sC tC sF tF k_wV k_tI k_tC k_tF zC fm) (a1 : Addr) (a2 : Addr) (u0 : Value) (h0 : Heap) (n0 : Nat) (Z0 : n0 ≤ h0.size) (O0 : Old Z n0 h0) (E1 : Exa Z h0 a1 "java/lang/String") (Fv : Fld Z h0 a1 "java/lang/String" "value" "[B" u0) (Fc : Fld Z h0 a1 "java/lang/String" "coder" "B" (.int (0 : Int32))) (g1 : n0 ≤ a1) :
    MetFree l (⟨"java/lang/String", "<init>", "([CIILjava/lang/Void;)V"⟩ : MethodName) (head1 (Jvm.Cond.code (⟨"java/lang/String", "<init>", "([CIILjava/lang/Void;)V"⟩ : MethodName) jdk_42_method_149_code 6 none :: ws) ({ frames := 1, cells := 4, slots := 8, locals := 12 } : Room)) (fun a U => a = #[(.ref a1), (.ref a2), (.int (0 : Int32)), (.int (0 : Int32)), .null] ∧ Z.Warmed39 U.vm ∧ U.heap = h0 ∧ CHv Z own_EL U.vm h0 ∧ ∀ x ∈ ([a1] : List Addr), Safe Z own_EL U.vm h0 x) (fun _ _ _ _ _ => True) (fun _ U o U' => ∃ v L, o = .returned v ∧ Q_rmS4 Z wV wI wC wF sI tI sC tC sF tF k_wV k_tI k_tC k_tF zC fm a1 a2 u0 h0 n0 v U'.heap L ∧ CHr Z own_EL U.vm U.heap U'.vm U'.heap ∧ ReturnedEndW U o U' L ({ frames := 1, cells := 4, slots := 8, locals := 12 } : Room).cells ({ frames := 1, cells := 4, slots := 8, locals := 12 } : Room).slots) := by
  refine MetFree.of_bodySF (plainFor_of_name pn_4) hisR ?_
  intro p e s m args below meth c s₁ Bd hml0 hP hK
  obtain ⟨rfl, hZ, hh, CH0, SL0⟩ := hP
  have hx := Bd.exec
  have hby := Bd.bytes
  have hml : c.maxLocals = 6 := hml0
  have hown : s.vm.findClass "java/lang/String" = some m.cls := findClass_of_methodNamed Bd.named
  have hnm := (name_of_methodNamed Bd.named Bd.method).1
  have X0 : Stand p l e ({ frames := 1, cells := 4, slots := 8, locals := 12 } : Room) s m #[(.ref a1), (.ref a2), (.int (0 : Int32)), (.int (0 : Int32)), .null] below meth c s₁ [] 0 0 := Stand.of_body Bd
  have e0 : s₁.heap = h0 := by rw [← hh, Bd.state]; rfl
  have N0 := Fr.nil n0
  have K0 := Keep.refl h0 ([a1] : List Addr)
  have S0 : s.Since s.vm 0 := (State.WarmedH.refl s).since 0
  have CR0 := CHr.refl CH0
  have hEL := own_EW hw
  have wS := own_wS hw
  have G_ := G
  obtain ⟨S_RowState_VALUES, E_wV, S_RowState_IN_PROGRESS, E_wI, S_RowState_COMPLETED, E_wC, S_RowState_FAILED, E_wF, F_text_wI, E_sI, F_value_sI, F_text_wC, E_sC, F_value_sC, F_text_wF, E_sF, F_value_sF, F_coder_sI, F_coder_sC, F_coder_sF, V_wV, V_tI, V_tC, V_tF, S_String_COMPACT_STRINGS, hzC, S_Preconditions_SIOOBE_FORMATTER, hfm, Sx_sI, Sx_sC, Sx_sF, G_end⟩ := G_
  change own_Go p e below _ _
  refine own_go (B := s₁.setTop (mkF m 0 #[.val (.ref a1), .val (.ref a2), .val (.int (0 : Int32)), .val (.int (0 : Int32)), .val .null, .unset] [])) (fun _ k => castTop (ef_rmS4 m a1 a2) k) ?_
  refine own_go (B := s₁.setTop (mkF m 1 #[.val (.ref a1), .val (.ref a2), .val (.int (0 : Int32)), .val (.int (0 : Int32)), .val .null, .unset] [(.ref a1)])) (fun _ k => XS.aloadN X0.here hx rfl (hb hby d4_0) rfl rfl k) ?_
  obtain ⟨T101, X101, e101, st101⟩ := initO X0 hx hZ hown (hw _ (List.mem_of_getElem? (i := 31) rfl)) (hw _ (List.mem_of_getElem? (i := 32) rfl)) (hw _ (List.mem_of_getElem? (i := 33) rfl)) e0 (g := (mkF m 1 #[.val (.ref a1), .val (.ref a2), .val (.int (0 : Int32)), .val (.int (0 : Int32)), .val .null, .unset] [(.ref a1)])) rfl (by rw [hml]; rfl) rfl (hb hby d4_1) (by decide) (W := 0) (by show 2 * 0 + _ ≤ _; exact Nat.le_of_eq rfl) (by decide)
  refine own_go (B := T101.setTop (mkF m 4 #[.val (.ref a1), .val (.ref a2), .val (.int (0 : Int32)), .val (.int (0 : Int32)), .val .null, .unset] [])) (st101) ?_
  refine own_go (B := T101.setTop (mkF m 5 #[.val (.ref a1), .val (.ref a2), .val (.int (0 : Int32)), .val (.int (0 : Int32)), .val .null, .unset] [(.int (0 : Int32))])) (fun _ k => XS.iloadN X101.here hx rfl (hb hby d4_4) rfl k) ?_
  refine own_go (B := T101.setTop (mkF m 8 #[.val (.ref a1), .val (.ref a2), .val (.int (0 : Int32)), .val (.int (0 : Int32)), .val .null, .unset] [])) (fun _ k => XS.ifNo X101.here hx rfl (hb hby d4_5) rfl ((if0 _ _).trans (teq (by decide : (0 : Int32) = (0 : Int32))).2) k) ?_
  refine own_go (B := T101.setTop (mkF m 9 #[.val (.ref a1), .val (.ref a2), .val (.int (0 : Int32)), .val (.int (0 : Int32)), .val .null, .unset] [(.ref a1)])) (fun _ k => XS.aloadN X101.here hx rfl (hb hby d4_8) rfl rfl k) ?_
  obtain ⟨la102, T102, h102, k102, tb102, kb102, X102, e102, E102, SN102, hk102, hZ, hown, Ex102, Fc102, Fv102, Vb102, -, -, CRq102, -, Ne102, st102⟩ := ldcCH (s := s) (vm0 := s.vm) X101 hx hZ hown (hw _ (List.mem_of_getElem? (i := 34) rfl)) wS e101 S0 (Nat.zero_le _) hEL (by decide) CH0 (vs := []) (z := (0 : Int32)) ⟨by decide, rfl⟩ (by decide) rfl (g := (mkF m 9 #[.val (.ref a1), .val (.ref a2), .val (.int (0 : Int32)), .val (.int (0 : Int32)), .val .null, .unset] [(.ref a1)])) rfl (hb hby d4_9) (n := 0) (by decide) (by decide) (by decide) (by decide)
  have O102 := O0.ext E102
  have K102' : Keep h0 h102 ([a1] : List Addr) := K0.ext E102
  have CH102 := CRq102.1
  have CR102 := CR0.trans CRq102
  have nl102_a1 := Ne102 a1 (CHr.safe CRq102 E1.lt (SL0 _ (List.mem_of_getElem? (i := 0) rfl)))
  refine own_go (B := T102.setTop (mkF m 11 #[.val (.ref a1), .val (.ref a2), .val (.int (0 : Int32)), .val (.int (0 : Int32)), .val .null, .unset] [(.ref la102), (.ref a1)])) (st102) ?_
  obtain ⟨T103, X103, e103, st103⟩ := getF X102 hx hZ hown (host := "") (Or.inl (hw _ (List.mem_of_getElem? (i := 14) rfl))) Via.refl e102 Fv102 (g := (mkF m 11 #[.val (.ref a1), .val (.ref a2), .val (.int (0 : Int32)), .val (.int (0 : Int32)), .val .null, .unset] [(.ref la102), (.ref a1)])) rfl rfl (hb hby d4_11)
  refine own_go (B := T103.setTop (mkF m 14 #[.val (.ref a1), .val (.ref a2), .val (.int (0 : Int32)), .val (.int (0 : Int32)), .val .null, .unset] [(.ref tb102), (.ref a1)])) (st103) ?_
  obtain ⟨T104, h104, X104, e104, W104, st104⟩ := putF X103 hx hZ hown (host := "") (Or.inl (hw _ (List.mem_of_getElem? (i := 14) rfl))) Via.refl e103 (Fv.ext E102) (E1.ext E102) (Or.inr ⟨(hw _ (List.mem_of_getElem? (i := 5) rfl)), rfl, hnm⟩) (hw _ (List.mem_of_getElem? (i := 3) rfl)) (ty := (.array .byte)) (by decide) rfl rfl (g := (mkF m 14 #[.val (.ref a1), .val (.ref a2), .val (.int (0 : Int32)), .val (.int (0 : Int32)), .val .null, .unset] [(.ref tb102), (.ref a1)])) rfl rfl (hb hby d4_14)
  have Fw104 := (Fv.ext E102).same W104
  have CH104 := CHv.wr W104 (CHr.safe CRq102 E1.lt (SL0 _ (List.mem_of_getElem? (i := 0) rfl))) CH102
  have CR104 := CR102.trans (CHr.wr W104 (CHr.safe CRq102 E1.lt (SL0 _ (List.mem_of_getElem? (i := 0) rfl))) CH102)
  have O104 := O102.wr W104 g1
  have N104 := Fr.snoc X104 N0 g1
  have K104' : Keep h0 h104 ([a1] : List Addr) := K102'.wr W104 (Or.inl (List.mem_of_getElem? (i := 0) rfl))
  refine own_go (B := T104.setTop (mkF m 17 #[.val (.ref a1), .val (.ref a2), .val (.int (0 : Int32)), .val (.int (0 : Int32)), .val .null, .unset] [])) (st104) ?_
  refine own_go (B := T104.setTop (mkF m 18 #[.val (.ref a1), .val (.ref a2), .val (.int (0 : Int32)), .val (.int (0 : Int32)), .val .null, .unset] [(.ref a1)])) (fun _ k => XS.aloadN X104.here hx rfl (hb hby d4_17) rfl rfl k) ?_
  obtain ⟨la105, T105, h105, k105, tb105, kb105, X105, e105, E105, SN105, hk105, hZ, hown, Ex105, Fc105, Fv105, Vb105, -, -, CRq105, -, Ne105, st105⟩ := ldcCH (s := s) (vm0 := T102.vm) X104 hx hZ hown (hw _ (List.mem_of_getElem? (i := 34) rfl)) wS e104 SN102 (Nat.le_trans hk102 (Keep.of_wr W104).1) hEL (by decide) CH104 (vs := []) (z := (0 : Int32)) ⟨by decide, rfl⟩ (by decide) rfl (g := (mkF m 18 #[.val (.ref a1), .val (.ref a2), .val (.int (0 : Int32)), .val (.int (0 : Int32)), .val .null, .unset] [(.ref a1)])) rfl (hb hby d4_18) (n := 0) (by decide) (by decide) (by decide) (by decide)
  have O105 := O104.ext E105
  have K105' : Keep h0 h105 ([a1] : List Addr) := K104'.ext E105
  have CH105 := CRq105.1
  have CR105 := CR104.trans CRq105
  have nl105_a1 := Ne105 a1 (CHr.safe CRq105 ((E1.ext E102).wr W104).lt (Safe.wr W104 (CHr.safe CRq102 E1.lt (SL0 _ (List.mem_of_getElem? (i := 0) rfl))) CH102 (CHr.safe CRq102 E1.lt (SL0 _ (List.mem_of_getElem? (i := 0) rfl)))))
  refine own_go (B := T105.setTop (mkF m 20 #[.val (.ref a1), .val (.ref a2), .val (.int (0 : Int32)), .val (.int (0 : Int32)), .val .null, .unset] [(.ref la105), (.ref a1)])) (st105) ?_
  obtain ⟨T106, X106, e106, st106⟩ := getF X105 hx hZ hown (host := "") (Or.inl (hw _ (List.mem_of_getElem? (i := 21) rfl))) Via.refl e105 Fc105 (g := (mkF m 20 #[.val (.ref a1), .val (.ref a2), .val (.int (0 : Int32)), .val (.int (0 : Int32)), .val .null, .unset] [(.ref la105), (.ref a1)])) rfl rfl (hb hby d4_20)
  refine own_go (B := T106.setTop (mkF m 23 #[.val (.ref a1), .val (.ref a2), .val (.int (0 : Int32)), .val (.int (0 : Int32)), .val .null, .unset] [(.int (0 : Int32)), (.ref a1)])) (st106) ?_
  obtain ⟨T107, h107, X107, e107, W107, st107⟩ := putFN X106 hx hZ hown (hw _ (List.mem_of_getElem? (i := 21) rfl)) Via.refl e106 (((Fc.ext E102).other W104 (Or.inr (slot_ne (Or.inr (hw _ (List.mem_of_getElem? (i := 6) rfl))) (Or.inr (hw _ (List.mem_of_getElem? (i := 5) rfl))) (by decide) (t := .byte) (t' := (.array .byte)) (by decide) (by decide)))).ext E105) (((E1.ext E102).wr W104).ext E105) (Or.inr ⟨(hw _ (List.mem_of_getElem? (i := 6) rfl)), rfl, hnm⟩) (hw _ (List.mem_of_getElem? (i := 3) rfl)) (ty := .byte) (v' := .int ((0 : Int32))) (by decide) rfl (by decide) (g := (mkF m 23 #[.val (.ref a1), .val (.ref a2), .val (.int (0 : Int32)), .val (.int (0 : Int32)), .val .null, .unset] [(.int (0 : Int32)), (.ref a1)])) rfl rfl (hb hby d4_23)
  have Fw107 := (((Fc.ext E102).other W104 (Or.inr (slot_ne (Or.inr (hw _ (List.mem_of_getElem? (i := 6) rfl))) (Or.inr (hw _ (List.mem_of_getElem? (i := 5) rfl))) (by decide) (t := .byte) (t' := (.array .byte)) (by decide) (by decide)))).ext E105).same W107
  have CH107 := CHv.wr W107 (CHr.safe CRq105 ((E1.ext E102).wr W104).lt (Safe.wr W104 (CHr.safe CRq102 E1.lt (SL0 _ (List.mem_of_getElem? (i := 0) rfl))) CH102 (CHr.safe CRq102 E1.lt (SL0 _ (List.mem_of_getElem? (i := 0) rfl))))) CH105
  have CR107 := CR105.trans (CHr.wr W107 (CHr.safe CRq105 ((E1.ext E102).wr W104).lt (Safe.wr W104 (CHr.safe CRq102 E1.lt (SL0 _ (List.mem_of_getElem? (i := 0) rfl))) CH102 (CHr.safe CRq102 E1.lt (SL0 _ (List.mem_of_getElem? (i := 0) rfl))))) CH105)
  have O107 := O105.wr W107 g1
  have N107 := Fr.snoc X107 N104 g1
  have K107' : Keep h0 h107 ([a1] : List Addr) := K105'.wr W107 (Or.inl (List.mem_of_getElem? (i := 0) rfl))
  refine own_go (B := T107.setTop (mkF m 26 #[.val (.ref a1), .val (.ref a2), .val (.int (0 : Int32)), .val (.int (0 : Int32)), .val .null, .unset] [])) (st107) ?_
  obtain ⟨fs, hr, hrun, hended, hW, hsame⟩ := X107.leave (v := none) (fun _ => rfl)
  obtain ⟨en1, en2, en3⟩ := State.Since.ended (s := s) (vm₁ := T105.vm) SN105 hW (by show _ ≤ T107.heap.size; rw [e107]; exact (Nat.le_trans hk105 (Keep.of_wr W107).1)) hsame
  have CRe := CR107.trans (CHv.at (s := s) (vm0 := T105.vm) X107 hZ hEL CH107)
  have CRf : CHr Z own_EL s.vm s.heap T107.vm T107.heap := by rw [hh, e107]; exact CRe
  refine ⟨_, _, X107.returnOut hx Bd.returns (hb hby d4_26) hr, hrun, hended, _, _, rfl, ?_, CRf, ⟨_, rfl⟩, en1, en2, en3.mono (by decide) (by decide)⟩
  show Q_rmS4 Z wV wI wC wF sI tI sC tC sF tF k_wV k_tI k_tC k_tF zC fm a1 a2 _ h0 n0 _ T107.heap _
  rw [e107]
  exact ⟨rfl, N107, K107', ⟨tb102, kb102, (0 : Int32), [], ((((E1.ext E102).wr W104).ext E105).wr W107), ((Fw104.ext E105).other W107 (Or.inr (slot_ne (Or.inr (hw _ (List.mem_of_getElem? (i := 5) rfl))) (Or.inr (hw _ (List.mem_of_getElem? (i := 6) rfl))) (by decide) (t := (.array .byte)) (t' := .byte) (by decide) (by decide)))), Fw107, (((Vb102.other W104 (Ne.symm nl102_a1.2)).ext E105).other W107 (Ne.symm nl102_a1.2)), Or.inl ⟨rfl, rfl, rfl, by decide⟩, by decide, by decide⟩⟩
theorem pd_0 : parseMethodDescriptor "([CIILjava/lang/Void;)V" = some ⟨[(.array .char), .int, .int, (.object "java/lang/Void")], none⟩ := by decide +kernel
theorem d3_0 : decode jdk_42_method_3_code 0 = .ok (.aload_n 0, 1) := by decide +kernel
theorem d3_1 : decode jdk_42_method_3_code 1 = .ok (.aload_n 1, 1) := by decide +kernel
theorem d3_2 : decode jdk_42_method_3_code 2 = .ok (.iconst 0, 1) := by decide +kernel
theorem d3_3 : decode jdk_42_method_3_code 3 = .ok (.aload_n 1, 1) := by decide +kernel
theorem d3_4 : decode jdk_42_method_3_code 4 = .ok (.arraylength, 1) := by decide +kernel
theorem d3_5 : decode jdk_42_method_3_code 5 = .ok (.aconst_null, 1) := by decide +kernel
theorem d3_6 : decode jdk_42_method_3_code 6 = .ok (.invokespecial 27, 3) := by decide +kernel
theorem d3_9 : decode jdk_42_method_3_code 9 = .ok (.return_, 1) := by decide +kernel
theorem ef_rmS1 (m : MethodId) (a1 : Addr) (a2 : Addr) : entryFrame m #[(.ref a1), (.ref a2)] 2 = mkF m 0 #[.val (.ref a1), .val (.ref a2)] [] := by first | (simp [entryFrame, mkF, argsToLocals, Value.category]; done) | rfl
def Q_rmS1 (Z : State) (wV : Addr) (wI : Addr) (wC : Addr) (wF : Addr) (sI : Addr) (tI : Addr) (sC : Addr) (tC : Addr) (sF : Addr) (tF : Addr) (k_wV : ClassId) (k_tI : ClassId) (k_tC : ClassId) (k_tF : ClassId) (zC : Int32) (fm : Value) (a1 : Addr) (a2 : Addr) (kC : ClassId) (u0 : Value) (h0 : Heap) (n0 : Nat) (v : Option Value) (h : Heap) (L : List Loc) : Prop := v = none ∧ Fr n0 L ∧ Keep h0 h [a1] ∧ own_Str Z h a1 []
set_option maxRecDepth 65536 in
set_option maxHeartbeats 40000000 in
theorem rmS1 (l : Launch) (Z : State) (a0 : Array Value) (hw : ∀ d ∈ tables_1, d.before a0 Z = true) (ws : List Jvm.Cond) (wV : Addr) (wI : Addr) (wC : Addr) (wF : Addr) (sI : Addr) (tI : Addr) (sC : Addr) (tC : Addr) (sF : Addr) (tF : Addr) (k_wV : ClassId) (k_tI : ClassId) (k_tC : ClassId) (k_tF : ClassId) (zC : Int32) (fm : Value) (G : own_G Z wV wI wC wF sI tI sC tC sF tF k_wV k_tI k_tC k_tF zC fm) (a1 : Addr) (a2 : Addr) (kC : ClassId) (u0 : Value) (h0 : Heap) (n0 : Nat) (Z0 : n0 ≤ h0.size) (O0 : Old Z n0 h0) (E1 : Exa Z h0 a1 "java/lang/String") (Fv : Fld Z h0 a1 "java/lang/String" "value" "[B" u0) (Fc : Fld Z h0 a1 "java/lang/String" "coder" "B" (.int (0 : Int32))) (g1 : n0 ≤ a1) (Va : Arv Z h0 a2 kC .char (0 : Int32) [] (.int (0 : Int32))) :
    MetFree l (⟨"java/lang/String", "<init>", "([C)V"⟩ : MethodName) (head1 (Jvm.Cond.code (⟨"java/lang/String", "<init>", "([C)V"⟩ : MethodName) jdk_42_method_3_code 2 none :: ws) ({ frames := 2, cells := 4, slots := 8, locals := 29 } : Room)) (fun a U => a = #[(.ref a1), (.ref a2)] ∧ Z.Warmed39 U.vm ∧ U.heap = h0 ∧ CHv Z own_EL U.vm h0 ∧ ∀ x ∈ ([a1] : List Addr), Safe Z own_EL U.vm h0 x) (fun _ _ _ _ _ => True) (fun _ U o U' => ∃ v L, o = .returned v ∧ Q_rmS1 Z wV wI wC wF sI tI sC tC sF tF k_wV k_tI k_tC k_tF zC fm a1 a2 kC u0 h0 n0 v U'.heap L ∧ CHr Z own_EL U.vm U.heap U'.vm U'.heap ∧ ReturnedEndW U o U' L ({ frames := 2, cells := 4, slots := 8, locals := 29 } : Room).cells ({ frames := 2, cells := 4, slots := 8, locals := 29 } : Room).slots) := by
  refine MetFree.of_bodySF (plainFor_of_name pn_4) hisR ?_
  intro p e s m args below meth c s₁ Bd hml0 hP hK
  obtain ⟨rfl, hZ, hh, CH0, SL0⟩ := hP
  have hx := Bd.exec
  have hby := Bd.bytes
  have hml : c.maxLocals = 2 := hml0
  have hown : s.vm.findClass "java/lang/String" = some m.cls := findClass_of_methodNamed Bd.named
  have hnm := (name_of_methodNamed Bd.named Bd.method).1
  have X0 : Stand p l e ({ frames := 2, cells := 4, slots := 8, locals := 29 } : Room) s m #[(.ref a1), (.ref a2)] below meth c s₁ [] 0 0 := Stand.of_body Bd
  have e0 : s₁.heap = h0 := by rw [← hh, Bd.state]; rfl
  have N0 := Fr.nil n0
  have K0 := Keep.refl h0 ([a1] : List Addr)
  have S0 : s.Since s.vm 0 := (State.WarmedH.refl s).since 0
  have CR0 := CHr.refl CH0
  have hEL := own_EW hw
  have wS := own_wS hw
  have G_ := G
  obtain ⟨S_RowState_VALUES, E_wV, S_RowState_IN_PROGRESS, E_wI, S_RowState_COMPLETED, E_wC, S_RowState_FAILED, E_wF, F_text_wI, E_sI, F_value_sI, F_text_wC, E_sC, F_value_sC, F_text_wF, E_sF, F_value_sF, F_coder_sI, F_coder_sC, F_coder_sF, V_wV, V_tI, V_tC, V_tF, S_String_COMPACT_STRINGS, hzC, S_Preconditions_SIOOBE_FORMATTER, hfm, Sx_sI, Sx_sC, Sx_sF, G_end⟩ := G_
  change own_Go p e below _ _
  refine own_go (B := s₁.setTop (mkF m 0 #[.val (.ref a1), .val (.ref a2)] [])) (fun _ k => castTop (ef_rmS1 m a1 a2) k) ?_
  refine own_go (B := s₁.setTop (mkF m 1 #[.val (.ref a1), .val (.ref a2)] [(.ref a1)])) (fun _ k => XS.aloadN X0.here hx rfl (hb hby d3_0) rfl rfl k) ?_
  refine own_go (B := s₁.setTop (mkF m 2 #[.val (.ref a1), .val (.ref a2)] [(.ref a2), (.ref a1)])) (fun _ k => XS.aloadN X0.here hx rfl (hb hby d3_1) rfl rfl k) ?_
  refine own_go (B := s₁.setTop (mkF m 3 #[.val (.ref a1), .val (.ref a2)] [(.int (0 : Int32)), (.ref a2), (.ref a1)])) (fun _ k => XS.iconst X0.here hx rfl (hb hby d3_2) k) ?_
  refine own_go (B := s₁.setTop (mkF m 4 #[.val (.ref a1), .val (.ref a2)] [(.ref a2), (.int (0 : Int32)), (.ref a2), (.ref a1)])) (fun _ k => XS.aloadN X0.here hx rfl (hb hby d3_3) rfl rfl k) ?_
  obtain ⟨cl101, Ar101, -, Sz101, Nn101, -, -⟩ := id Va
  refine own_go (B := s₁.setTop (mkF m 5 #[.val (.ref a1), .val (.ref a2)] [(.int cl101.slots.size.toInt32), (.int (0 : Int32)), (.ref a2), (.ref a1)])) (X0.arraylength hx (by rw [e0]; exact Ar101.1) (State.isArrayOf_alike hZ.alike Ar101.2.1) (g := (mkF m 4 #[.val (.ref a1), .val (.ref a2)] [(.ref a2), (.int (0 : Int32)), (.ref a2), (.ref a1)])) rfl rfl (hb hby d3_4)) ?_
  rw [len_of Sz101 Nn101]
  refine own_go (B := s₁.setTop (mkF m 6 #[.val (.ref a1), .val (.ref a2)] [.null, (.int (0 : Int32)), (.int (0 : Int32)), (.ref a2), (.ref a1)])) (fun _ k => XS.aconstNull X0.here hx rfl (hb hby d3_5) k) ?_
  obtain ⟨_, _, ⟨T102, L102, k102, n102⟩, -, X102, SN102, gr102, ⟨Lc102, hQ102, l102, y102, z102, CRq102⟩, st102⟩ := X0.specialBackS hx (y := (⟨"java/lang/String", "<init>", "([CIILjava/lang/Void;)V"⟩ : MethodName)) rfl hown (mvT hZ (hw _ (List.mem_of_getElem? (i := 27) rfl))) (mvT hZ (hw _ (List.mem_of_getElem? (i := 28) rfl))) (mvT hZ (hw _ (List.mem_of_getElem? (i := 30) rfl))) (by decide) (own_backSH (s := s) (vm0 := s.vm) (SL := [a1]) (W := 0) (rmS4 l Z a0 hw [] wV wI wC wF sI tI sC tC sF tF k_wV k_tI k_tC k_tF zC fm G a1 a2 u0 h0 n0 (Nat.le_trans Z0 K0.1) O0 E1 Fv Fc g1) hZ (hw _ (List.mem_of_getElem? (i := 30) rfl)) (hw _ (List.mem_of_getElem? (i := 2) rfl)) (by decide) (by decide) hEL CH0 (allS ⟨(SL0 _ (List.mem_of_getElem? (i := 0) rfl)), E1.lt⟩ all0)) (g := (mkF m 6 #[.val (.ref a1), .val (.ref a2)] [.null, (.int (0 : Int32)), (.int (0 : Int32)), (.ref a2), (.ref a1)])) rfl (by rw [hml]; rfl) (Steps.refl _) (a := a1) (argsL := [(.ref a2), (.int (0 : Int32)), (.int (0 : Int32)), .null]) (rest := []) (lenOf pd_0 rfl) rfl (by show 2 * 0 + _ ≤ _; exact Nat.le_of_eq rfl) (hb hby d3_6) (fun _ _ => ⟨rfl, e0, (by decide : 0 + 4 ≤ 4), (by decide : 0 + 8 ≤ 8)⟩)
  dsimp only [Pt.U, Pt.locs, Pt.cells, Pt.slots] at X102 l102 y102 z102 st102 hQ102 SN102 gr102 CRq102
  subst l102 y102 z102
  obtain ⟨X102, SN102, hZ, hown⟩ := rebS (s := s) (vm0 := s.vm) S0 (by rw [e0]; exact (Nat.zero_le _)) X102 SN102 gr102 hZ hown
  have CH102 := CRq102.1
  have CR102 := CR0.trans CRq102
  obtain ⟨rfl, N102q, K102, Str_102⟩ := hQ102
  have N102 := Fr.app N0 N102q
  have O102 := O0.keep K102 (allS g1 all0)
  have K102' : Keep h0 T102.heap ([a1] : List Addr) := K0.trans K102 (allS (Or.inl (List.mem_of_getElem? (i := 0) rfl)) all0)
  obtain ⟨t103, kb103, Nb103, vs103, Es103, Fv103, Fc103, Vb103, cd103, rg103, ln103⟩ := Str_102
  refine own_go (B := T102.setTop (mkF m 9 #[.val (.ref a1), .val (.ref a2)] [])) (fun _ k => st102.trans k) ?_
  obtain ⟨fs, hr, hrun, hended, hW, hsame⟩ := X102.leave (v := none) (fun _ => rfl)
  obtain ⟨en1, en2, en3⟩ := State.Since.ended (s := s) (vm₁ := T102.vm) SN102 hW (by show _ ≤ T102.heap.size; exact (Nat.le_refl _)) hsame
  have CRe := CR102.trans (CHv.at (s := s) (vm0 := T102.vm) X102 hZ hEL CH102)
  have CRf : CHr Z own_EL s.vm s.heap T102.vm T102.heap := by rw [hh]; exact CRe
  refine ⟨_, _, X102.returnOut hx Bd.returns (hb hby d3_9) hr, hrun, hended, _, _, rfl, ?_, CRf, ⟨_, rfl⟩, en1, en2, en3.mono (by decide) (by decide)⟩
  show Q_rmS1 Z wV wI wC wF sI tI sC tC sF tF k_wV k_tI k_tC k_tF zC fm a1 a2 kC _ h0 n0 _ T102.heap _
  exact ⟨rfl, N102, K102', (⟨t103, kb103, Nb103, vs103, Es103, Fv103, Fc103, Vb103, cd103, rg103, ln103⟩ : own_Str Z T102.heap a1 [])⟩
theorem d9_0 : decode prog_36_method_1_code 0 = .ok (.getstatic 13, 3) := by decide +kernel
theorem d9_3 : decode prog_36_method_1_code 3 = .ok (.invokevirtual 17, 3) := by decide +kernel
theorem d9_6 : decode prog_36_method_1_code 6 = .ok (.checkcast 18, 3) := by decide +kernel
theorem d9_9 : decode prog_36_method_1_code 9 = .ok (.areturn, 1) := by decide +kernel
theorem pn_9 : plainName "com/example/void_repeat/voidrepeat/jdbc/RowState" = true := by first | (simp [plainName, overriddenIn]; done) | decide +kernel
theorem ef_rm9 (m : MethodId)  : entryFrame m #[] 0 = mkF m 0 #[] [] := by first | (simp [entryFrame, mkF, argsToLocals, Value.category]; done) | rfl
def Q_rm9 (Z : State) (wV : Addr) (wI : Addr) (wC : Addr) (wF : Addr) (sI : Addr) (tI : Addr) (sC : Addr) (tC : Addr) (sF : Addr) (tF : Addr) (k_wV : ClassId) (k_tI : ClassId) (k_tC : ClassId) (k_tF : ClassId) (zC : Int32) (fm : Value) (h0 : Heap) (n0 : Nat) (v : Option Value) (h : Heap) (L : List Loc) : Prop := ∃ (b : Addr), v = some (.ref b) ∧ Fr n0 L ∧ Keep h0 h [] ∧ h0.size ≤ b ∧ Arv Z h b k_wV (.object "com/example/void_repeat/voidrepeat/jdbc/RowState") (3 : Int32) [(.ref wI), (.ref wC), (.ref wF)] .null
set_option maxRecDepth 65536 in
set_option maxHeartbeats 40000000 in
theorem rm9 (l : Launch) (Z : State) (a0 : Array Value) (hw : ∀ d ∈ tables_1, d.before a0 Z = true) (ws : List Jvm.Cond) (wV : Addr) (wI : Addr) (wC : Addr) (wF : Addr) (sI : Addr) (tI : Addr) (sC : Addr) (tC : Addr) (sF : Addr) (tF : Addr) (k_wV : ClassId) (k_tI : ClassId) (k_tC : ClassId) (k_tF : ClassId) (zC : Int32) (fm : Value) (G : own_G Z wV wI wC wF sI tI sC tC sF tF k_wV k_tI k_tC k_tF zC fm) (h0 : Heap) (n0 : Nat) (Z0 : n0 ≤ h0.size) (O0 : Old Z n0 h0) :
    MetFree l (⟨"com/example/void_repeat/voidrepeat/jdbc/RowState", "values", "()[Lcom/example/void_repeat/voidrepeat/jdbc/RowState;"⟩ : MethodName) (head1 (Jvm.Cond.code (⟨"com/example/void_repeat/voidrepeat/jdbc/RowState", "values", "()[Lcom/example/void_repeat/voidrepeat/jdbc/RowState;"⟩ : MethodName) prog_36_method_1_code 0 (some (.array (.object "com/example/void_repeat/voidrepeat/jdbc/RowState"))) :: ws) ({ frames := 1, cells := 1, slots := 3, locals := 14 } : Room)) (fun a U => a = #[] ∧ Z.Warmed39 U.vm ∧ U.heap = h0) (fun _ _ _ _ _ => True) (fun _ U o U' => ∃ v L, o = .returned v ∧ Q_rm9 Z wV wI wC wF sI tI sC tC sF tF k_wV k_tI k_tC k_tF zC fm h0 n0 v U'.heap L ∧ FrameEnd U o U' L ({ frames := 1, cells := 1, slots := 3, locals := 14 } : Room).cells ({ frames := 1, cells := 1, slots := 3, locals := 14 } : Room).slots) := by
  refine MetFree.of_bodySF (plainFor_of_name pn_9) hisR ?_
  intro p e s m args below meth c s₁ Bd hml0 hP hK
  obtain ⟨rfl, hZ, hh⟩ := hP
  have hx := Bd.exec
  have hby := Bd.bytes
  have hml : c.maxLocals = 0 := hml0
  have hown : s.vm.findClass "com/example/void_repeat/voidrepeat/jdbc/RowState" = some m.cls := findClass_of_methodNamed Bd.named
  have hnm := (name_of_methodNamed Bd.named Bd.method).1
  have X0 : Stand p l e ({ frames := 1, cells := 1, slots := 3, locals := 14 } : Room) s m #[] below meth c s₁ [] 0 0 := Stand.of_body Bd
  have e0 : s₁.heap = h0 := by rw [← hh, Bd.state]; rfl
  have N0 := Fr.nil n0
  have K0 := Keep.refl h0 ([] : List Addr)
  have G_ := G
  obtain ⟨S_RowState_VALUES, E_wV, S_RowState_IN_PROGRESS, E_wI, S_RowState_COMPLETED, E_wC, S_RowState_FAILED, E_wF, F_text_wI, E_sI, F_value_sI, F_text_wC, E_sC, F_value_sC, F_text_wF, E_sF, F_value_sF, F_coder_sI, F_coder_sC, F_coder_sF, V_wV, V_tI, V_tC, V_tF, S_String_COMPACT_STRINGS, hzC, S_Preconditions_SIOOBE_FORMATTER, hfm, Sx_sI, Sx_sC, Sx_sF, G_end⟩ := G_
  change own_Go p e below _ _
  refine own_go (B := s₁.setTop (mkF m 0 #[] [])) (fun _ k => castTop (ef_rm9 m ) k) ?_
  obtain ⟨T101, X101, e101, st101⟩ := getS2 X0 hx hZ hown (host := "") (Or.inl (hw _ (List.mem_of_getElem? (i := 54) rfl))) Via.refl e0 (S_RowState_VALUES.ext O0.2) (g := (mkF m 0 #[] [])) rfl (hb hby d9_0)
  refine own_go (B := T101.setTop (mkF m 3 #[] [(.ref wV)])) (st101) ?_
  obtain ⟨T102, h102, X102, e102, E102, V102, Ex102, st102⟩ := cloneH X101 hx hZ hown (hw _ (List.mem_of_getElem? (i := 56) rfl)) (hw _ (List.mem_of_getElem? (i := 57) rfl)) (hw _ (List.mem_of_getElem? (i := 61) rfl)) (hw _ (List.mem_of_getElem? (i := 59) rfl)) (hw _ (List.mem_of_getElem? (i := 60) rfl)) (hw _ (List.mem_of_getElem? (i := 62) rfl)) e101 (Arv.arh (V_wV.ext O0.2)) (E_wV.ext O0.2) (g := (mkF m 3 #[] [(.ref wV)])) rfl (by rw [hml]; rfl) rfl (hb hby d9_3) (by decide) (W := 0) (cap := 3) (by show 2 * 0 + _ ≤ _; exact Nat.le_of_eq rfl) (by decide) (by decide) (by decide) (by decide)
  obtain ⟨b102, g102⟩ : ∃ z, z = h0.size := ⟨_, rfl⟩
  rw [← g102] at V102 Ex102 st102
  have g_b102 : n0 ≤ b102 := Nat.le_trans (Nat.le_trans Z0 K0.1) (Nat.le_of_eq g102.symm)
  have sz_b102 : h0.size ≤ b102 := Nat.le_trans K0.1 (Nat.le_of_eq g102.symm)
  have O102 := O0.ext E102
  have K102' : Keep h0 h102 ([] : List Addr) := K0.ext E102
  replace V102 : Arv Z h102 b102 k_wV (.object "com/example/void_repeat/voidrepeat/jdbc/RowState") (3 : Int32) [(.ref wI), (.ref wC), (.ref wF)] .null := V102
  refine own_go (B := T102.setTop (mkF m 6 #[] [(.ref b102)])) (st102) ?_
  obtain ⟨T103, X103, e103, st103⟩ := castY X102 hx hZ hown (hw _ (List.mem_of_getElem? (i := 67) rfl)) e102 (Ins.self Ex102) (g := (mkF m 6 #[] [(.ref b102)])) rfl rfl (hb hby d9_6)
  refine own_go (B := T103.setTop (mkF m 9 #[] [(.ref b102)])) (st103) ?_
  obtain ⟨fs, hr, hrun, hended, hW, hsame⟩ := X103.leave (v := some (.ref b102)) (fun h => by rw [Bd.returns] at h; cases h)
  refine ⟨_, _, retOut X103 hx Bd.returns rfl (Or.inr (Or.inr (Or.inr (Or.inr ⟨rfl, rfl, rfl⟩)))) (hb hby d9_9) hr, hrun, hended, _, _, rfl, ?_, ⟨_, rfl⟩, hW, hsame.mono (by decide) (by decide)⟩
  show Q_rm9 Z wV wI wC wF sI tI sC tC sF tF k_wV k_tI k_tC k_tF zC fm h0 n0 _ T103.heap _
  rw [e103]
  exact ⟨b102, rfl, N0, K102', sz_b102, V102⟩
theorem d6_0 : decode jdk_42_method_66_code 0 = .ok (.aload_n 0, 1) := by decide +kernel
theorem d6_1 : decode jdk_42_method_66_code 1 = .ok (.aload_n 1, 1) := by decide +kernel
theorem d6_2 : decode jdk_42_method_66_code 2 = .ok (.if_acmp .ne 5, 3) := by decide +kernel
theorem d6_7 : decode jdk_42_method_66_code 7 = .ok (.aload_n 1, 1) := by decide +kernel
theorem d6_8 : decode jdk_42_method_66_code 8 = .ok (.instanceof 10, 3) := by decide +kernel
theorem d6_11 : decode jdk_42_method_66_code 11 = .ok (.ifCond .eq 43, 3) := by decide +kernel
theorem d6_54 : decode jdk_42_method_66_code 54 = .ok (.iconst 0, 1) := by decide +kernel
theorem d6_55 : decode jdk_42_method_66_code 55 = .ok (.ireturn, 1) := by decide +kernel
theorem ef_rmEqNull (m : MethodId) (a1 : Addr) : entryFrame m #[(.ref a1), .null] 3 = mkF m 0 #[.val (.ref a1), .val .null, .unset] [] := by first | (simp [entryFrame, mkF, argsToLocals, Value.category]; done) | rfl
def Q_rmEqNull (Z : State) (wV : Addr) (wI : Addr) (wC : Addr) (wF : Addr) (sI : Addr) (tI : Addr) (sC : Addr) (tC : Addr) (sF : Addr) (tF : Addr) (k_wV : ClassId) (k_tI : ClassId) (k_tC : ClassId) (k_tF : ClassId) (zC : Int32) (fm : Value) (a1 : Addr) (h0 : Heap) (n0 : Nat) (v : Option Value) (h : Heap) (L : List Loc) : Prop := v = some (.int (0 : Int32)) ∧ Fr n0 L ∧ h = h0
set_option maxRecDepth 65536 in
set_option maxHeartbeats 40000000 in
theorem rmEqNull (l : Launch) (Z : State) (a0 : Array Value) (hw : ∀ d ∈ tables_1, d.before a0 Z = true) (ws : List Jvm.Cond) (wV : Addr) (wI : Addr) (wC : Addr) (wF : Addr) (sI : Addr) (tI : Addr) (sC : Addr) (tC : Addr) (sF : Addr) (tF : Addr) (k_wV : ClassId) (k_tI : ClassId) (k_tC : ClassId) (k_tF : ClassId) (zC : Int32) (fm : Value) (G : own_G Z wV wI wC wF sI tI sC tC sF tF k_wV k_tI k_tC k_tF zC fm) (a1 : Addr) (h0 : Heap) (n0 : Nat) (Z0 : n0 ≤ h0.size) (O0 : Old Z n0 h0) :
    MetFree l (⟨"java/lang/String", "equals", "(Ljava/lang/Object;)Z"⟩ : MethodName) (head1 (Jvm.Cond.code (⟨"java/lang/String", "equals", "(Ljava/lang/Object;)Z"⟩ : MethodName) jdk_42_method_66_code 3 (some .boolean) :: ws) ({ frames := 0, cells := 0, slots := 0, locals := 0 } : Room)) (fun a U => a = #[(.ref a1), .null] ∧ Z.Warmed39 U.vm ∧ U.heap = h0) (fun _ _ _ _ _ => True) (fun _ U o U' => ∃ v L, o = .returned v ∧ Q_rmEqNull Z wV wI wC wF sI tI sC tC sF tF k_wV k_tI k_tC k_tF zC fm a1 h0 n0 v U'.heap L ∧ FrameEnd U o U' L ({ frames := 0, cells := 0, slots := 0, locals := 0 } : Room).cells ({ frames := 0, cells := 0, slots := 0, locals := 0 } : Room).slots) := by
  refine MetFree.of_bodySF (plainFor_of_name pn_4) hisR ?_
  intro p e s m args below meth c s₁ Bd hml0 hP hK
  obtain ⟨rfl, hZ, hh⟩ := hP
  have hx := Bd.exec
  have hby := Bd.bytes
  have hml : c.maxLocals = 3 := hml0
  have hown : s.vm.findClass "java/lang/String" = some m.cls := findClass_of_methodNamed Bd.named
  have hnm := (name_of_methodNamed Bd.named Bd.method).1
  have X0 : Stand p l e ({ frames := 0, cells := 0, slots := 0, locals := 0 } : Room) s m #[(.ref a1), .null] below meth c s₁ [] 0 0 := Stand.of_body Bd
  have e0 : s₁.heap = h0 := by rw [← hh, Bd.state]; rfl
  have N0 := Fr.nil n0
  have K0 := Keep.refl h0 ([] : List Addr)
  have G_ := G
  obtain ⟨S_RowState_VALUES, E_wV, S_RowState_IN_PROGRESS, E_wI, S_RowState_COMPLETED, E_wC, S_RowState_FAILED, E_wF, F_text_wI, E_sI, F_value_sI, F_text_wC, E_sC, F_value_sC, F_text_wF, E_sF, F_value_sF, F_coder_sI, F_coder_sC, F_coder_sF, V_wV, V_tI, V_tC, V_tF, S_String_COMPACT_STRINGS, hzC, S_Preconditions_SIOOBE_FORMATTER, hfm, Sx_sI, Sx_sC, Sx_sF, G_end⟩ := G_
  change own_Go p e below _ _
  refine own_go (B := s₁.setTop (mkF m 0 #[.val (.ref a1), .val .null, .unset] [])) (fun _ k => castTop (ef_rmEqNull m a1) k) ?_
  refine own_go (B := s₁.setTop (mkF m 1 #[.val (.ref a1), .val .null, .unset] [(.ref a1)])) (fun _ k => XS.aloadN X0.here hx rfl (hb hby d6_0) rfl rfl k) ?_
  refine own_go (B := s₁.setTop (mkF m 2 #[.val (.ref a1), .val .null, .unset] [.null, (.ref a1)])) (fun _ k => XS.aloadN X0.here hx rfl (hb hby d6_1) rfl rfl k) ?_
  refine own_go (B := s₁.setTop (mkF m 7 #[.val (.ref a1), .val .null, .unset] [])) (fun _ k => Jvm.RoadKit.acmp (g := (mkF m 2 #[.val (.ref a1), .val .null, .unset] [.null, (.ref a1)])) X0 hx rfl rfl rfl (pc0 := 2) (pc' := 7) (same := false) rfl (hb hby d6_2) rfl (decide_eq_false nofun) (by decide) (by decide) k) ?_
  refine own_go (B := s₁.setTop (mkF m 8 #[.val (.ref a1), .val .null, .unset] [.null])) (fun _ k => XS.aloadN X0.here hx rfl (hb hby d6_7) rfl rfl k) ?_
  refine own_go (B := s₁.setTop (mkF m 11 #[.val (.ref a1), .val .null, .unset] [(.int (0 : Int32))])) (X0.instanceofNull hx (g := (mkF m 8 #[.val (.ref a1), .val .null, .unset] [.null])) rfl rfl (hb hby d6_8)) ?_
  refine own_go (B := s₁.setTop (mkF m 54 #[.val (.ref a1), .val .null, .unset] [])) (fun _ k => XS.ifYes X0.here hx rfl (pc0 := 11) (pc' := 54) rfl (hb hby d6_11) rfl ((if0 _ _).trans (teq (by decide : (0 : Int32) = (0 : Int32))).1) (by decide) (by decide) k) ?_
  refine own_go (B := s₁.setTop (mkF m 55 #[.val (.ref a1), .val .null, .unset] [(.int (0 : Int32))])) (fun _ k => XS.iconst X0.here hx rfl (hb hby d6_54) k) ?_
  obtain ⟨fs, hr, hrun, hended, hW, hsame⟩ := X0.leave (v := some (.int (nar .boolean (0 : Int32)))) (fun h => by rw [Bd.returns] at h; cases h)
  refine ⟨_, _, retN X0 hx (t := .boolean) Bd.returns (by simp) (hb hby d6_55) hr, hrun, hended, _, _, rfl, ?_, ⟨_, rfl⟩, hW, hsame.mono (by decide) (by decide)⟩
  show Q_rmEqNull Z wV wI wC wF sI tI sC tC sF tF k_wV k_tI k_tC k_tF zC fm a1 h0 n0 _ s₁.heap _
  rw [e0]
  exact ⟨rfl, N0, rfl⟩
theorem pd_1 : parseMethodDescriptor "()[Lcom/example/void_repeat/voidrepeat/jdbc/RowState;" = some ⟨[], some (.array (.object "com/example/void_repeat/voidrepeat/jdbc/RowState"))⟩ := by decide +kernel
theorem pd_2 : parseMethodDescriptor "(Ljava/lang/Object;)Z" = some ⟨[(.object "java/lang/Object")], some .boolean⟩ := by decide +kernel
theorem d8_0 : decode prog_36_method_5_code 0 = .ok (.invokestatic 40, 3) := by decide +kernel
theorem d8_3 : decode prog_36_method_5_code 3 = .ok (.astore_n 1, 1) := by decide +kernel
theorem d8_4 : decode prog_36_method_5_code 4 = .ok (.aload_n 1, 1) := by decide +kernel
theorem d8_5 : decode prog_36_method_5_code 5 = .ok (.arraylength, 1) := by decide +kernel
theorem d8_6 : decode prog_36_method_5_code 6 = .ok (.istore_n 2, 1) := by decide +kernel
theorem d8_7 : decode prog_36_method_5_code 7 = .ok (.iconst 0, 1) := by decide +kernel
theorem d8_8 : decode prog_36_method_5_code 8 = .ok (.istore_n 3, 1) := by decide +kernel
theorem d8_9 : decode prog_36_method_5_code 9 = .ok (.iload_n 3, 1) := by decide +kernel
theorem d8_10 : decode prog_36_method_5_code 10 = .ok (.iload_n 2, 1) := by decide +kernel
theorem d8_11 : decode prog_36_method_5_code 11 = .ok (.if_icmp .ge 29, 3) := by decide +kernel
theorem d8_14 : decode prog_36_method_5_code 14 = .ok (.aload_n 1, 1) := by decide +kernel
theorem d8_15 : decode prog_36_method_5_code 15 = .ok (.iload_n 3, 1) := by decide +kernel
theorem d8_16 : decode prog_36_method_5_code 16 = .ok (.aaload, 1) := by decide +kernel
theorem d8_17 : decode prog_36_method_5_code 17 = .ok (.astore 4, 2) := by decide +kernel
theorem d8_19 : decode prog_36_method_5_code 19 = .ok (.aload 4, 2) := by decide +kernel
theorem d8_21 : decode prog_36_method_5_code 21 = .ok (.getfield 32, 3) := by decide +kernel
theorem d8_24 : decode prog_36_method_5_code 24 = .ok (.aload_n 0, 1) := by decide +kernel
theorem d8_25 : decode prog_36_method_5_code 25 = .ok (.invokevirtual 44, 3) := by decide +kernel
theorem d8_28 : decode prog_36_method_5_code 28 = .ok (.ifCond .eq 6, 3) := by decide +kernel
theorem d8_31 : decode prog_36_method_5_code 31 = .ok (.aload 4, 2) := by decide +kernel
theorem d8_33 : decode prog_36_method_5_code 33 = .ok (.areturn, 1) := by decide +kernel
theorem d8_34 : decode prog_36_method_5_code 34 = .ok (.iinc 3 1, 3) := by decide +kernel
theorem d8_37 : decode prog_36_method_5_code 37 = .ok (.goto (-28), 3) := by decide +kernel
theorem d8_40 : decode prog_36_method_5_code 40 = .ok (.aconst_null, 1) := by decide +kernel
theorem d8_41 : decode prog_36_method_5_code 41 = .ok (.areturn, 1) := by decide +kernel
theorem ef_rmOfS (m : MethodId) (a1 : Addr) : entryFrame m #[(.ref a1)] 5 = mkF m 0 #[.val (.ref a1), .unset, .unset, .unset, .unset] [] := by first | (simp [entryFrame, mkF, argsToLocals, Value.category]; done) | rfl
def Q_rmOfS (Z : State) (wV : Addr) (wI : Addr) (wC : Addr) (wF : Addr) (sI : Addr) (tI : Addr) (sC : Addr) (tC : Addr) (sF : Addr) (tF : Addr) (k_wV : ClassId) (k_tI : ClassId) (k_tC : ClassId) (k_tF : ClassId) (zC : Int32) (fm : Value) (a1 : Addr) (cs : List Int32) (h0 : Heap) (n0 : Nat) (v : Option Value) (h : Heap) (L : List Loc) : Prop := v = some (own_st cs wI wC wF) ∧ Fr n0 L ∧ Keep h0 h []
set_option maxRecDepth 65536 in
set_option maxHeartbeats 40000000 in
theorem rmOfS (l : Launch) (Z : State) (a0 : Array Value) (hw : ∀ d ∈ tables_1, d.before a0 Z = true) (ws : List Jvm.Cond) (wV : Addr) (wI : Addr) (wC : Addr) (wF : Addr) (sI : Addr) (tI : Addr) (sC : Addr) (tC : Addr) (sF : Addr) (tF : Addr) (k_wV : ClassId) (k_tI : ClassId) (k_tC : ClassId) (k_tF : ClassId) (zC : Int32) (fm : Value) (G : own_G Z wV wI wC wF sI tI sC tC sF tF k_wV k_tI k_tC k_tF zC fm) (a1 : Addr) (cs : List Int32) (h0 : Heap) (n0 : Nat) (Z0 : n0 ≤ h0.size) (O0 : Old Z n0 h0) (Sa : own_Str Z h0 a1 cs) :
    MetFree l (⟨"com/example/void_repeat/voidrepeat/jdbc/RowState", "of", "(Ljava/lang/String;)Lcom/example/void_repeat/voidrepeat/jdbc/RowState;"⟩ : MethodName) (head1 (Jvm.Cond.code (⟨"com/example/void_repeat/voidrepeat/jdbc/RowState", "of", "(Ljava/lang/String;)Lcom/example/void_repeat/voidrepeat/jdbc/RowState;"⟩ : MethodName) prog_36_method_5_code 5 (some (.object "com/example/void_repeat/voidrepeat/jdbc/RowState")) :: ws) ({ frames := 2, cells := 1, slots := 3, locals := 28 } : Room)) (fun a U => a = #[(.ref a1)] ∧ Z.Warmed39 U.vm ∧ U.heap = h0) (fun _ _ _ _ _ => True) (fun _ U o U' => ∃ v L, o = .returned v ∧ Q_rmOfS Z wV wI wC wF sI tI sC tC sF tF k_wV k_tI k_tC k_tF zC fm a1 cs h0 n0 v U'.heap L ∧ FrameEnd U o U' L ({ frames := 2, cells := 1, slots := 3, locals := 28 } : Room).cells ({ frames := 2, cells := 1, slots := 3, locals := 28 } : Room).slots) := by
  refine MetFree.of_bodySF (plainFor_of_name pn_9) hisR ?_
  intro p e s m args below meth c s₁ Bd hml0 hP hK
  obtain ⟨rfl, hZ, hh⟩ := hP
  have hx := Bd.exec
  have hby := Bd.bytes
  have hml : c.maxLocals = 5 := hml0
  have hown : s.vm.findClass "com/example/void_repeat/voidrepeat/jdbc/RowState" = some m.cls := findClass_of_methodNamed Bd.named
  have hnm := (name_of_methodNamed Bd.named Bd.method).1
  have X0 : Stand p l e ({ frames := 2, cells := 1, slots := 3, locals := 28 } : Room) s m #[(.ref a1)] below meth c s₁ [] 0 0 := Stand.of_body Bd
  have e0 : s₁.heap = h0 := by rw [← hh, Bd.state]; rfl
  have N0 := Fr.nil n0
  have K0 := Keep.refl h0 ([] : List Addr)
  have G_ := G
  obtain ⟨S_RowState_VALUES, E_wV, S_RowState_IN_PROGRESS, E_wI, S_RowState_COMPLETED, E_wC, S_RowState_FAILED, E_wF, F_text_wI, E_sI, F_value_sI, F_text_wC, E_sC, F_value_sC, F_text_wF, E_sF, F_value_sF, F_coder_sI, F_coder_sC, F_coder_sF, V_wV, V_tI, V_tC, V_tF, S_String_COMPACT_STRINGS, hzC, S_Preconditions_SIOOBE_FORMATTER, hfm, Sx_sI, Sx_sC, Sx_sF, G_end⟩ := G_
  change own_Go p e below _ _
  refine own_go (B := s₁.setTop (mkF m 0 #[.val (.ref a1), .unset, .unset, .unset, .unset] [])) (fun _ k => castTop (ef_rmOfS m a1) k) ?_
  obtain ⟨t101, kb101, Nb101, vs101, Es101, Fv101, Fc101, Vb101, cd101, rg101, ln101⟩ := Sa
  obtain ⟨_, _, ⟨T102, L102, k102, n102⟩, -, X102, ⟨Lc102, hQ102, l102, y102, z102⟩, st102⟩ := Jvm.LawKit.callS X0 hx (y := (⟨"com/example/void_repeat/voidrepeat/jdbc/RowState", "values", "()[Lcom/example/void_repeat/voidrepeat/jdbc/RowState;"⟩ : MethodName)) hown (mvT hZ (hw _ (List.mem_of_getElem? (i := 51) rfl))) (mvT hZ (hw _ (List.mem_of_getElem? (i := 52) rfl))) (mvT hZ (hw _ (List.mem_of_getElem? (i := 49) rfl))) (mvT hZ (hw _ (List.mem_of_getElem? (i := 53) rfl))) (by decide) (backOf (W := 0) (rm9 l Z a0 hw [] wV wI wC wF sI tI sC tC sF tF k_wV k_tI k_tC k_tF zC fm G  h0 n0 (Nat.le_trans Z0 K0.1) O0 ) hZ (hw _ (List.mem_of_getElem? (i := 53) rfl)) (hw _ (List.mem_of_getElem? (i := 49) rfl)) (by decide) (by decide)) (g := (mkF m 0 #[.val (.ref a1), .unset, .unset, .unset, .unset] [])) rfl (by rw [hml]; rfl) (argsL := []) (rest := []) (lenOf pd_1 rfl) rfl (by show 2 * 0 + _ ≤ _; exact Nat.le_of_eq rfl) (hb hby d8_0) (fun _ _ => ⟨rfl, e0, (by decide : 0 + 1 ≤ 1), (by decide : 0 + 3 ≤ 3)⟩)
  dsimp only [Pt.U, Pt.locs, Pt.cells, Pt.slots] at X102 l102 y102 z102 st102 hQ102
  subst l102 y102 z102
  obtain ⟨b_102, rfl, N102q, K102, fr_102, V_102⟩ := hQ102
  have ne102_1_fr_102 : a1 ≠ b_102 := Nat.ne_of_lt (Nat.lt_of_lt_of_le Es101.lt fr_102)
  have ne102_2_fr_102 : t101 ≠ b_102 := Nat.ne_of_lt (Nat.lt_of_lt_of_le Vb101.lt fr_102)
  have g_b_102 : n0 ≤ b_102 := Nat.le_trans (Nat.le_trans Z0 K0.1) fr_102
  have sz_b_102 : h0.size ≤ b_102 := Nat.le_trans K0.1 fr_102
  have N102 := Fr.app N0 N102q
  have O102 := O0.keep K102 all0
  have K102' : Keep h0 T102.heap ([] : List Addr) := K0.trans K102 all0
  refine own_go (B := T102.setTop (mkF m 3 #[.val (.ref a1), .unset, .unset, .unset, .unset] [(.ref b_102)])) (st102) ?_
  refine own_go (B := T102.setTop (mkF m 4 #[.val (.ref a1), .val (.ref b_102), .unset, .unset, .unset] [])) (fun _ k => XS.astoreN X102.here hx rfl (hb hby d8_3) rfl rfl (l' := #[.val (.ref a1), .val (.ref b_102), .unset, .unset, .unset]) rfl k) ?_
  refine own_go (B := T102.setTop (mkF m 5 #[.val (.ref a1), .val (.ref b_102), .unset, .unset, .unset] [(.ref b_102)])) (fun _ k => XS.aloadN X102.here hx rfl (hb hby d8_4) rfl rfl k) ?_
  obtain ⟨cl103, Ar103, -, Sz103, Nn103, -, -⟩ := id V_102
  refine own_go (B := T102.setTop (mkF m 6 #[.val (.ref a1), .val (.ref b_102), .unset, .unset, .unset] [(.int cl103.slots.size.toInt32)])) (X102.arraylength hx (show T102.heap[_]? = _ from Ar103.1) (State.isArrayOf_alike hZ.alike Ar103.2.1) (g := (mkF m 5 #[.val (.ref a1), .val (.ref b_102), .unset, .unset, .unset] [(.ref b_102)])) rfl rfl (hb hby d8_5)) ?_
  rw [len_of Sz103 Nn103]
  refine own_go (B := T102.setTop (mkF m 7 #[.val (.ref a1), .val (.ref b_102), .val (.int (3 : Int32)), .unset, .unset] [])) (fun _ k => XS.istoreN X102.here hx rfl (hb hby d8_6) rfl (l' := #[.val (.ref a1), .val (.ref b_102), .val (.int (3 : Int32)), .unset, .unset]) rfl k) ?_
  refine own_go (B := T102.setTop (mkF m 8 #[.val (.ref a1), .val (.ref b_102), .val (.int (3 : Int32)), .unset, .unset] [(.int (0 : Int32))])) (fun _ k => XS.iconst X102.here hx rfl (hb hby d8_7) k) ?_
  refine own_go (B := T102.setTop (mkF m 9 #[.val (.ref a1), .val (.ref b_102), .val (.int (3 : Int32)), .val (.int (0 : Int32)), .unset] [])) (fun _ k => XS.istoreN X102.here hx rfl (hb hby d8_8) rfl (l' := #[.val (.ref a1), .val (.ref b_102), .val (.int (3 : Int32)), .val (.int (0 : Int32)), .unset]) rfl k) ?_
  refine own_go (B := T102.setTop (mkF m 10 #[.val (.ref a1), .val (.ref b_102), .val (.int (3 : Int32)), .val (.int (0 : Int32)), .unset] [(.int (0 : Int32))])) (fun _ k => XS.iloadN X102.here hx rfl (hb hby d8_9) rfl k) ?_
  refine own_go (B := T102.setTop (mkF m 11 #[.val (.ref a1), .val (.ref b_102), .val (.int (3 : Int32)), .val (.int (0 : Int32)), .unset] [(.int (3 : Int32)), (.int (0 : Int32))])) (fun _ k => XS.iloadN X102.here hx rfl (hb hby d8_10) rfl k) ?_
  refine own_go (B := T102.setTop (mkF m 14 #[.val (.ref a1), .val (.ref b_102), .val (.int (3 : Int32)), .val (.int (0 : Int32)), .unset] [])) (fun _ k => XS.icmpNo X102.here hx rfl (hb hby d8_11) rfl (tlt (by decide : (0 : Int32) < (3 : Int32))).2.1 k) ?_
  refine own_go (B := T102.setTop (mkF m 15 #[.val (.ref a1), .val (.ref b_102), .val (.int (3 : Int32)), .val (.int (0 : Int32)), .unset] [(.ref b_102)])) (fun _ k => XS.aloadN X102.here hx rfl (hb hby d8_14) rfl rfl k) ?_
  refine own_go (B := T102.setTop (mkF m 16 #[.val (.ref a1), .val (.ref b_102), .val (.int (3 : Int32)), .val (.int (0 : Int32)), .unset] [(.int (0 : Int32)), (.ref b_102)])) (fun _ k => XS.iloadN X102.here hx rfl (hb hby d8_15) rfl k) ?_
  obtain ⟨cl104, Ar104, q104, Sz104, Nn104, Hh104, Gg104⟩ := id V_102
  have hin104 : ¬ ((0 : Int32) < 0 ∨ cl104.slots.size ≤ ((0 : Int32)).toNatClampNeg) := inb_of Sz104 ⟨by decide, by decide⟩
  have hat104 : cl104.slots[((0 : Int32)).toNatClampNeg]? = some (.ref wI) := Has.at Hh104 hin104 rfl
  refine own_go (B := T102.setTop (mkF m 17 #[.val (.ref a1), .val (.ref b_102), .val (.int (3 : Int32)), .val (.int (0 : Int32)), .unset] [(.ref wI)])) (X102.aaload hx (j := (0 : Int32)) (v := (.ref wI)) (show T102.heap[_]? = _ from Ar104.1) (State.isArrayOf_alike hZ.alike Ar104.2.1) rfl Ar104.2.2 hin104 hat104 (g := (mkF m 16 #[.val (.ref a1), .val (.ref b_102), .val (.int (3 : Int32)), .val (.int (0 : Int32)), .unset] [(.int (0 : Int32)), (.ref b_102)])) rfl rfl (hb hby d8_16)) ?_
  refine own_go (B := T102.setTop (mkF m 19 #[.val (.ref a1), .val (.ref b_102), .val (.int (3 : Int32)), .val (.int (0 : Int32)), .val (.ref wI)] [])) (fun _ k => XS.astore X102.here hx rfl (hb hby d8_17) rfl rfl (l' := #[.val (.ref a1), .val (.ref b_102), .val (.int (3 : Int32)), .val (.int (0 : Int32)), .val (.ref wI)]) rfl k) ?_
  refine own_go (B := T102.setTop (mkF m 21 #[.val (.ref a1), .val (.ref b_102), .val (.int (3 : Int32)), .val (.int (0 : Int32)), .val (.ref wI)] [(.ref wI)])) (fun _ k => XS.aload X102.here hx rfl (hb hby d8_19) rfl rfl k) ?_
  obtain ⟨T105, X105, e105, st105⟩ := getF X102 hx hZ hown (host := "") (Or.inl (hw _ (List.mem_of_getElem? (i := 69) rfl))) Via.refl rfl (F_text_wI.ext O102.2) (g := (mkF m 21 #[.val (.ref a1), .val (.ref b_102), .val (.int (3 : Int32)), .val (.int (0 : Int32)), .val (.ref wI)] [(.ref wI)])) rfl rfl (hb hby d8_21)
  refine own_go (B := T105.setTop (mkF m 24 #[.val (.ref a1), .val (.ref b_102), .val (.int (3 : Int32)), .val (.int (0 : Int32)), .val (.ref wI)] [(.ref sI)])) (st105) ?_
  refine own_go (B := T105.setTop (mkF m 25 #[.val (.ref a1), .val (.ref b_102), .val (.int (3 : Int32)), .val (.int (0 : Int32)), .val (.ref wI)] [(.ref a1), (.ref sI)])) (fun _ k => XS.aloadN X105.here hx rfl (hb hby d8_24) rfl rfl k) ?_
  obtain ⟨cq106, kq106, q106a, q106b, q106c⟩ := isOf hZ e105 (E_sI.ext O102.2)
  obtain ⟨_, _, ⟨T106, L106, k106, n106⟩, -, X106, ⟨Lc106, hQ106, l106, y106, z106⟩, st106⟩ := X105.virtualBack hx (y := (⟨"java/lang/String", "equals", "(Ljava/lang/Object;)Z"⟩ : MethodName)) (z := (⟨"java/lang/String", "equals", "(Ljava/lang/Object;)Z"⟩ : MethodName)) hown (mvT hZ (hw _ (List.mem_of_getElem? (i := 71) rfl))) (mvT hZ (hw _ (List.mem_of_getElem? (i := 36) rfl))) (notFace_of_selects (args := #[]) (mvT hZ (hw _ (List.mem_of_getElem? (i := 38) rfl)))) (mvT hZ (hw _ (List.mem_of_getElem? (i := 38) rfl))) (mvT hZ (hw _ (List.mem_of_getElem? (i := 37) rfl))) (by decide) (own_eqW (W := 0) hZ hw n0 (own_Str_ext O102.2 Sx_sI) (⟨t101, kb101, Nb101, vs101, (Es101.keep K102), (Fv101.keep K102 nin0), (Fc101.keep K102 nin0), (Vb101.keep K102 nin0), cd101, rg101, ln101⟩ : own_Str Z T102.heap a1 cs) (S_String_COMPACT_STRINGS.ext O102.2) hzC (by decide) (by decide)) q106a q106c (g := (mkF m 25 #[.val (.ref a1), .val (.ref b_102), .val (.int (3 : Int32)), .val (.int (0 : Int32)), .val (.ref wI)] [(.ref a1), (.ref sI)])) rfl (by rw [hml]; rfl) (Steps.refl _) (argsL := [(.ref a1)]) (rest := []) (lenOf pd_2 rfl) rfl (by show 2 * 0 + _ ≤ _; exact Nat.le_of_eq rfl) (hb hby d8_25) (fun _ _ => ⟨rfl, e105, (by decide : 1 + 0 ≤ 1), (by decide : 3 + 0 ≤ 3)⟩)
  dsimp only [Pt.U, Pt.locs, Pt.cells, Pt.slots] at X106 l106 y106 z106 st106 hQ106
  subst l106 y106 z106
  obtain ⟨rfl, N106q, K106⟩ := hQ106
  have N106 := Fr.app N102 N106q
  have e106 : T106.heap = T102.heap := K106
  refine own_go (B := T106.setTop (mkF m 28 #[.val (.ref a1), .val (.ref b_102), .val (.int (3 : Int32)), .val (.int (0 : Int32)), .val (.ref wI)] [(.int (own_eqs [(105 : Int32), (110 : Int32), (45 : Int32), (112 : Int32), (114 : Int32), (111 : Int32), (103 : Int32), (114 : Int32), (101 : Int32), (115 : Int32), (115 : Int32)] cs))])) (fun _ k => st106.trans k) ?_
  by_cases hc28 : (own_eqs [(105 : Int32), (110 : Int32), (45 : Int32), (112 : Int32), (114 : Int32), (111 : Int32), (103 : Int32), (114 : Int32), (101 : Int32), (115 : Int32), (115 : Int32)] cs) = (0 : Int32)
  · refine own_go (B := T106.setTop (mkF m 34 #[.val (.ref a1), .val (.ref b_102), .val (.int (3 : Int32)), .val (.int (0 : Int32)), .val (.ref wI)] [])) (fun _ k => XS.ifYes X106.here hx rfl (pc0 := 28) (pc' := 34) rfl (hb hby d8_28) rfl ((if0 _ _).trans (teq hc28).1) (by decide) (by decide) k) ?_
    refine own_go (B := T106.setTop (mkF m 37 #[.val (.ref a1), .val (.ref b_102), .val (.int (3 : Int32)), .val (.int ((0 : Int32) + (1 : Int32))), .val (.ref wI)] [])) (fun _ k => XS.iinc X106.here hx rfl (hb hby d8_34) rfl (l' := #[.val (.ref a1), .val (.ref b_102), .val (.int (3 : Int32)), .val (.int ((0 : Int32) + (1 : Int32))), .val (.ref wI)]) rfl k) ?_
    rw [show ((0 : Int32) + (1 : Int32)) = (1 : Int32) from by decide]
    refine own_go (B := T106.setTop (mkF m 9 #[.val (.ref a1), .val (.ref b_102), .val (.int (3 : Int32)), .val (.int (1 : Int32)), .val (.ref wI)] [])) (fun _ k => XS.goto X106.here hx rfl (pc0 := 37) (pc' := 9) rfl (hb hby d8_37) (by decide) (by decide) k) ?_
    refine own_go (B := T106.setTop (mkF m 10 #[.val (.ref a1), .val (.ref b_102), .val (.int (3 : Int32)), .val (.int (1 : Int32)), .val (.ref wI)] [(.int (1 : Int32))])) (fun _ k => XS.iloadN X106.here hx rfl (hb hby d8_9) rfl k) ?_
    refine own_go (B := T106.setTop (mkF m 11 #[.val (.ref a1), .val (.ref b_102), .val (.int (3 : Int32)), .val (.int (1 : Int32)), .val (.ref wI)] [(.int (3 : Int32)), (.int (1 : Int32))])) (fun _ k => XS.iloadN X106.here hx rfl (hb hby d8_10) rfl k) ?_
    refine own_go (B := T106.setTop (mkF m 14 #[.val (.ref a1), .val (.ref b_102), .val (.int (3 : Int32)), .val (.int (1 : Int32)), .val (.ref wI)] [])) (fun _ k => XS.icmpNo X106.here hx rfl (hb hby d8_11) rfl (tlt (by decide : (1 : Int32) < (3 : Int32))).2.1 k) ?_
    refine own_go (B := T106.setTop (mkF m 15 #[.val (.ref a1), .val (.ref b_102), .val (.int (3 : Int32)), .val (.int (1 : Int32)), .val (.ref wI)] [(.ref b_102)])) (fun _ k => XS.aloadN X106.here hx rfl (hb hby d8_14) rfl rfl k) ?_
    refine own_go (B := T106.setTop (mkF m 16 #[.val (.ref a1), .val (.ref b_102), .val (.int (3 : Int32)), .val (.int (1 : Int32)), .val (.ref wI)] [(.int (1 : Int32)), (.ref b_102)])) (fun _ k => XS.iloadN X106.here hx rfl (hb hby d8_15) rfl k) ?_
    obtain ⟨cl107, Ar107, q107, Sz107, Nn107, Hh107, Gg107⟩ := id V_102
    have hin107 : ¬ ((1 : Int32) < 0 ∨ cl107.slots.size ≤ ((1 : Int32)).toNatClampNeg) := inb_of Sz107 ⟨by decide, by decide⟩
    have hat107 : cl107.slots[((1 : Int32)).toNatClampNeg]? = some (.ref wC) := Has.at Hh107 hin107 rfl
    refine own_go (B := T106.setTop (mkF m 17 #[.val (.ref a1), .val (.ref b_102), .val (.int (3 : Int32)), .val (.int (1 : Int32)), .val (.ref wI)] [(.ref wC)])) (X106.aaload hx (j := (1 : Int32)) (v := (.ref wC)) (by rw [e106]; exact Ar107.1) (State.isArrayOf_alike hZ.alike Ar107.2.1) rfl Ar107.2.2 hin107 hat107 (g := (mkF m 16 #[.val (.ref a1), .val (.ref b_102), .val (.int (3 : Int32)), .val (.int (1 : Int32)), .val (.ref wI)] [(.int (1 : Int32)), (.ref b_102)])) rfl rfl (hb hby d8_16)) ?_
    refine own_go (B := T106.setTop (mkF m 19 #[.val (.ref a1), .val (.ref b_102), .val (.int (3 : Int32)), .val (.int (1 : Int32)), .val (.ref wC)] [])) (fun _ k => XS.astore X106.here hx rfl (hb hby d8_17) rfl rfl (l' := #[.val (.ref a1), .val (.ref b_102), .val (.int (3 : Int32)), .val (.int (1 : Int32)), .val (.ref wC)]) rfl k) ?_
    refine own_go (B := T106.setTop (mkF m 21 #[.val (.ref a1), .val (.ref b_102), .val (.int (3 : Int32)), .val (.int (1 : Int32)), .val (.ref wC)] [(.ref wC)])) (fun _ k => XS.aload X106.here hx rfl (hb hby d8_19) rfl rfl k) ?_
    obtain ⟨T108, X108, e108, st108⟩ := getF X106 hx hZ hown (host := "") (Or.inl (hw _ (List.mem_of_getElem? (i := 69) rfl))) Via.refl e106 (F_text_wC.ext O102.2) (g := (mkF m 21 #[.val (.ref a1), .val (.ref b_102), .val (.int (3 : Int32)), .val (.int (1 : Int32)), .val (.ref wC)] [(.ref wC)])) rfl rfl (hb hby d8_21)
    refine own_go (B := T108.setTop (mkF m 24 #[.val (.ref a1), .val (.ref b_102), .val (.int (3 : Int32)), .val (.int (1 : Int32)), .val (.ref wC)] [(.ref sC)])) (st108) ?_
    refine own_go (B := T108.setTop (mkF m 25 #[.val (.ref a1), .val (.ref b_102), .val (.int (3 : Int32)), .val (.int (1 : Int32)), .val (.ref wC)] [(.ref a1), (.ref sC)])) (fun _ k => XS.aloadN X108.here hx rfl (hb hby d8_24) rfl rfl k) ?_
    obtain ⟨cq109, kq109, q109a, q109b, q109c⟩ := isOf hZ e108 (E_sC.ext O102.2)
    obtain ⟨_, _, ⟨T109, L109, k109, n109⟩, -, X109, ⟨Lc109, hQ109, l109, y109, z109⟩, st109⟩ := X108.virtualBack hx (y := (⟨"java/lang/String", "equals", "(Ljava/lang/Object;)Z"⟩ : MethodName)) (z := (⟨"java/lang/String", "equals", "(Ljava/lang/Object;)Z"⟩ : MethodName)) hown (mvT hZ (hw _ (List.mem_of_getElem? (i := 71) rfl))) (mvT hZ (hw _ (List.mem_of_getElem? (i := 36) rfl))) (notFace_of_selects (args := #[]) (mvT hZ (hw _ (List.mem_of_getElem? (i := 38) rfl)))) (mvT hZ (hw _ (List.mem_of_getElem? (i := 38) rfl))) (mvT hZ (hw _ (List.mem_of_getElem? (i := 37) rfl))) (by decide) (own_eqW (W := 0) hZ hw n0 (own_Str_ext O102.2 Sx_sC) (⟨t101, kb101, Nb101, vs101, (Es101.keep K102), (Fv101.keep K102 nin0), (Fc101.keep K102 nin0), (Vb101.keep K102 nin0), cd101, rg101, ln101⟩ : own_Str Z T102.heap a1 cs) (S_String_COMPACT_STRINGS.ext O102.2) hzC (by decide) (by decide)) q109a q109c (g := (mkF m 25 #[.val (.ref a1), .val (.ref b_102), .val (.int (3 : Int32)), .val (.int (1 : Int32)), .val (.ref wC)] [(.ref a1), (.ref sC)])) rfl (by rw [hml]; rfl) (Steps.refl _) (argsL := [(.ref a1)]) (rest := []) (lenOf pd_2 rfl) rfl (by show 2 * 0 + _ ≤ _; exact Nat.le_of_eq rfl) (hb hby d8_25) (fun _ _ => ⟨rfl, e108, (by decide : 1 + 0 ≤ 1), (by decide : 3 + 0 ≤ 3)⟩)
    dsimp only [Pt.U, Pt.locs, Pt.cells, Pt.slots] at X109 l109 y109 z109 st109 hQ109
    subst l109 y109 z109
    obtain ⟨rfl, N109q, K109⟩ := hQ109
    have N109 := Fr.app N106 N109q
    have e109 : T109.heap = T102.heap := K109
    refine own_go (B := T109.setTop (mkF m 28 #[.val (.ref a1), .val (.ref b_102), .val (.int (3 : Int32)), .val (.int (1 : Int32)), .val (.ref wC)] [(.int (own_eqs [(99 : Int32), (111 : Int32), (109 : Int32), (112 : Int32), (108 : Int32), (101 : Int32), (116 : Int32), (101 : Int32), (100 : Int32)] cs))])) (fun _ k => st109.trans k) ?_
    by_cases hc28_2 : (own_eqs [(99 : Int32), (111 : Int32), (109 : Int32), (112 : Int32), (108 : Int32), (101 : Int32), (116 : Int32), (101 : Int32), (100 : Int32)] cs) = (0 : Int32)
    · refine own_go (B := T109.setTop (mkF m 34 #[.val (.ref a1), .val (.ref b_102), .val (.int (3 : Int32)), .val (.int (1 : Int32)), .val (.ref wC)] [])) (fun _ k => XS.ifYes X109.here hx rfl (pc0 := 28) (pc' := 34) rfl (hb hby d8_28) rfl ((if0 _ _).trans (teq hc28_2).1) (by decide) (by decide) k) ?_
      refine own_go (B := T109.setTop (mkF m 37 #[.val (.ref a1), .val (.ref b_102), .val (.int (3 : Int32)), .val (.int ((1 : Int32) + (1 : Int32))), .val (.ref wC)] [])) (fun _ k => XS.iinc X109.here hx rfl (hb hby d8_34) rfl (l' := #[.val (.ref a1), .val (.ref b_102), .val (.int (3 : Int32)), .val (.int ((1 : Int32) + (1 : Int32))), .val (.ref wC)]) rfl k) ?_
      rw [show ((1 : Int32) + (1 : Int32)) = (2 : Int32) from by decide]
      refine own_go (B := T109.setTop (mkF m 9 #[.val (.ref a1), .val (.ref b_102), .val (.int (3 : Int32)), .val (.int (2 : Int32)), .val (.ref wC)] [])) (fun _ k => XS.goto X109.here hx rfl (pc0 := 37) (pc' := 9) rfl (hb hby d8_37) (by decide) (by decide) k) ?_
      refine own_go (B := T109.setTop (mkF m 10 #[.val (.ref a1), .val (.ref b_102), .val (.int (3 : Int32)), .val (.int (2 : Int32)), .val (.ref wC)] [(.int (2 : Int32))])) (fun _ k => XS.iloadN X109.here hx rfl (hb hby d8_9) rfl k) ?_
      refine own_go (B := T109.setTop (mkF m 11 #[.val (.ref a1), .val (.ref b_102), .val (.int (3 : Int32)), .val (.int (2 : Int32)), .val (.ref wC)] [(.int (3 : Int32)), (.int (2 : Int32))])) (fun _ k => XS.iloadN X109.here hx rfl (hb hby d8_10) rfl k) ?_
      refine own_go (B := T109.setTop (mkF m 14 #[.val (.ref a1), .val (.ref b_102), .val (.int (3 : Int32)), .val (.int (2 : Int32)), .val (.ref wC)] [])) (fun _ k => XS.icmpNo X109.here hx rfl (hb hby d8_11) rfl (tlt (by decide : (2 : Int32) < (3 : Int32))).2.1 k) ?_
      refine own_go (B := T109.setTop (mkF m 15 #[.val (.ref a1), .val (.ref b_102), .val (.int (3 : Int32)), .val (.int (2 : Int32)), .val (.ref wC)] [(.ref b_102)])) (fun _ k => XS.aloadN X109.here hx rfl (hb hby d8_14) rfl rfl k) ?_
      refine own_go (B := T109.setTop (mkF m 16 #[.val (.ref a1), .val (.ref b_102), .val (.int (3 : Int32)), .val (.int (2 : Int32)), .val (.ref wC)] [(.int (2 : Int32)), (.ref b_102)])) (fun _ k => XS.iloadN X109.here hx rfl (hb hby d8_15) rfl k) ?_
      obtain ⟨cl110, Ar110, q110, Sz110, Nn110, Hh110, Gg110⟩ := id V_102
      have hin110 : ¬ ((2 : Int32) < 0 ∨ cl110.slots.size ≤ ((2 : Int32)).toNatClampNeg) := inb_of Sz110 ⟨by decide, by decide⟩
      have hat110 : cl110.slots[((2 : Int32)).toNatClampNeg]? = some (.ref wF) := Has.at Hh110 hin110 rfl
      refine own_go (B := T109.setTop (mkF m 17 #[.val (.ref a1), .val (.ref b_102), .val (.int (3 : Int32)), .val (.int (2 : Int32)), .val (.ref wC)] [(.ref wF)])) (X109.aaload hx (j := (2 : Int32)) (v := (.ref wF)) (by rw [e109]; exact Ar110.1) (State.isArrayOf_alike hZ.alike Ar110.2.1) rfl Ar110.2.2 hin110 hat110 (g := (mkF m 16 #[.val (.ref a1), .val (.ref b_102), .val (.int (3 : Int32)), .val (.int (2 : Int32)), .val (.ref wC)] [(.int (2 : Int32)), (.ref b_102)])) rfl rfl (hb hby d8_16)) ?_
      refine own_go (B := T109.setTop (mkF m 19 #[.val (.ref a1), .val (.ref b_102), .val (.int (3 : Int32)), .val (.int (2 : Int32)), .val (.ref wF)] [])) (fun _ k => XS.astore X109.here hx rfl (hb hby d8_17) rfl rfl (l' := #[.val (.ref a1), .val (.ref b_102), .val (.int (3 : Int32)), .val (.int (2 : Int32)), .val (.ref wF)]) rfl k) ?_
      refine own_go (B := T109.setTop (mkF m 21 #[.val (.ref a1), .val (.ref b_102), .val (.int (3 : Int32)), .val (.int (2 : Int32)), .val (.ref wF)] [(.ref wF)])) (fun _ k => XS.aload X109.here hx rfl (hb hby d8_19) rfl rfl k) ?_
      obtain ⟨T111, X111, e111, st111⟩ := getF X109 hx hZ hown (host := "") (Or.inl (hw _ (List.mem_of_getElem? (i := 69) rfl))) Via.refl e109 (F_text_wF.ext O102.2) (g := (mkF m 21 #[.val (.ref a1), .val (.ref b_102), .val (.int (3 : Int32)), .val (.int (2 : Int32)), .val (.ref wF)] [(.ref wF)])) rfl rfl (hb hby d8_21)
      refine own_go (B := T111.setTop (mkF m 24 #[.val (.ref a1), .val (.ref b_102), .val (.int (3 : Int32)), .val (.int (2 : Int32)), .val (.ref wF)] [(.ref sF)])) (st111) ?_
      refine own_go (B := T111.setTop (mkF m 25 #[.val (.ref a1), .val (.ref b_102), .val (.int (3 : Int32)), .val (.int (2 : Int32)), .val (.ref wF)] [(.ref a1), (.ref sF)])) (fun _ k => XS.aloadN X111.here hx rfl (hb hby d8_24) rfl rfl k) ?_
      obtain ⟨cq112, kq112, q112a, q112b, q112c⟩ := isOf hZ e111 (E_sF.ext O102.2)
      obtain ⟨_, _, ⟨T112, L112, k112, n112⟩, -, X112, ⟨Lc112, hQ112, l112, y112, z112⟩, st112⟩ := X111.virtualBack hx (y := (⟨"java/lang/String", "equals", "(Ljava/lang/Object;)Z"⟩ : MethodName)) (z := (⟨"java/lang/String", "equals", "(Ljava/lang/Object;)Z"⟩ : MethodName)) hown (mvT hZ (hw _ (List.mem_of_getElem? (i := 71) rfl))) (mvT hZ (hw _ (List.mem_of_getElem? (i := 36) rfl))) (notFace_of_selects (args := #[]) (mvT hZ (hw _ (List.mem_of_getElem? (i := 38) rfl)))) (mvT hZ (hw _ (List.mem_of_getElem? (i := 38) rfl))) (mvT hZ (hw _ (List.mem_of_getElem? (i := 37) rfl))) (by decide) (own_eqW (W := 0) hZ hw n0 (own_Str_ext O102.2 Sx_sF) (⟨t101, kb101, Nb101, vs101, (Es101.keep K102), (Fv101.keep K102 nin0), (Fc101.keep K102 nin0), (Vb101.keep K102 nin0), cd101, rg101, ln101⟩ : own_Str Z T102.heap a1 cs) (S_String_COMPACT_STRINGS.ext O102.2) hzC (by decide) (by decide)) q112a q112c (g := (mkF m 25 #[.val (.ref a1), .val (.ref b_102), .val (.int (3 : Int32)), .val (.int (2 : Int32)), .val (.ref wF)] [(.ref a1), (.ref sF)])) rfl (by rw [hml]; rfl) (Steps.refl _) (argsL := [(.ref a1)]) (rest := []) (lenOf pd_2 rfl) rfl (by show 2 * 0 + _ ≤ _; exact Nat.le_of_eq rfl) (hb hby d8_25) (fun _ _ => ⟨rfl, e111, (by decide : 1 + 0 ≤ 1), (by decide : 3 + 0 ≤ 3)⟩)
      dsimp only [Pt.U, Pt.locs, Pt.cells, Pt.slots] at X112 l112 y112 z112 st112 hQ112
      subst l112 y112 z112
      obtain ⟨rfl, N112q, K112⟩ := hQ112
      have N112 := Fr.app N109 N112q
      have e112 : T112.heap = T102.heap := K112
      refine own_go (B := T112.setTop (mkF m 28 #[.val (.ref a1), .val (.ref b_102), .val (.int (3 : Int32)), .val (.int (2 : Int32)), .val (.ref wF)] [(.int (own_eqs [(102 : Int32), (97 : Int32), (105 : Int32), (108 : Int32), (101 : Int32), (100 : Int32)] cs))])) (fun _ k => st112.trans k) ?_
      by_cases hc28_3 : (own_eqs [(102 : Int32), (97 : Int32), (105 : Int32), (108 : Int32), (101 : Int32), (100 : Int32)] cs) = (0 : Int32)
      · refine own_go (B := T112.setTop (mkF m 34 #[.val (.ref a1), .val (.ref b_102), .val (.int (3 : Int32)), .val (.int (2 : Int32)), .val (.ref wF)] [])) (fun _ k => XS.ifYes X112.here hx rfl (pc0 := 28) (pc' := 34) rfl (hb hby d8_28) rfl ((if0 _ _).trans (teq hc28_3).1) (by decide) (by decide) k) ?_
        refine own_go (B := T112.setTop (mkF m 37 #[.val (.ref a1), .val (.ref b_102), .val (.int (3 : Int32)), .val (.int ((2 : Int32) + (1 : Int32))), .val (.ref wF)] [])) (fun _ k => XS.iinc X112.here hx rfl (hb hby d8_34) rfl (l' := #[.val (.ref a1), .val (.ref b_102), .val (.int (3 : Int32)), .val (.int ((2 : Int32) + (1 : Int32))), .val (.ref wF)]) rfl k) ?_
        rw [show ((2 : Int32) + (1 : Int32)) = (3 : Int32) from by decide]
        refine own_go (B := T112.setTop (mkF m 9 #[.val (.ref a1), .val (.ref b_102), .val (.int (3 : Int32)), .val (.int (3 : Int32)), .val (.ref wF)] [])) (fun _ k => XS.goto X112.here hx rfl (pc0 := 37) (pc' := 9) rfl (hb hby d8_37) (by decide) (by decide) k) ?_
        refine own_go (B := T112.setTop (mkF m 10 #[.val (.ref a1), .val (.ref b_102), .val (.int (3 : Int32)), .val (.int (3 : Int32)), .val (.ref wF)] [(.int (3 : Int32))])) (fun _ k => XS.iloadN X112.here hx rfl (hb hby d8_9) rfl k) ?_
        refine own_go (B := T112.setTop (mkF m 11 #[.val (.ref a1), .val (.ref b_102), .val (.int (3 : Int32)), .val (.int (3 : Int32)), .val (.ref wF)] [(.int (3 : Int32)), (.int (3 : Int32))])) (fun _ k => XS.iloadN X112.here hx rfl (hb hby d8_10) rfl k) ?_
        refine own_go (B := T112.setTop (mkF m 40 #[.val (.ref a1), .val (.ref b_102), .val (.int (3 : Int32)), .val (.int (3 : Int32)), .val (.ref wF)] [])) (fun _ k => XS.icmpYes X112.here hx rfl (pc0 := 11) (pc' := 40) rfl (hb hby d8_11) rfl (flt (by decide : ¬ ((3 : Int32) < (3 : Int32)))).2.1 (by decide) (by decide) k) ?_
        refine own_go (B := T112.setTop (mkF m 41 #[.val (.ref a1), .val (.ref b_102), .val (.int (3 : Int32)), .val (.int (3 : Int32)), .val (.ref wF)] [.null])) (fun _ k => XS.aconstNull X112.here hx rfl (hb hby d8_40) k) ?_
        obtain ⟨fs, hr, hrun, hended, hW, hsame⟩ := X112.leave (v := some .null) (fun h => by rw [Bd.returns] at h; cases h)
        refine ⟨_, _, retOut X112 hx Bd.returns rfl (Or.inr (Or.inr (Or.inr (Or.inr ⟨rfl, rfl, rfl⟩)))) (hb hby d8_41) hr, hrun, hended, _, _, rfl, ?_, ⟨_, rfl⟩, hW, hsame.mono (by decide) (by decide)⟩
        show Q_rmOfS Z wV wI wC wF sI tI sC tC sF tF k_wV k_tI k_tC k_tF zC fm a1 cs h0 n0 _ T112.heap _
        rw [e112]
        exact ⟨(by simp [own_st, own_eqs_eq hc28, own_eqs_eq hc28_2, own_eqs_eq hc28_3]), N112, K102'⟩
      · refine own_go (B := T112.setTop (mkF m 31 #[.val (.ref a1), .val (.ref b_102), .val (.int (3 : Int32)), .val (.int (2 : Int32)), .val (.ref wF)] [])) (fun _ k => XS.ifNo X112.here hx rfl (hb hby d8_28) rfl ((if0 _ _).trans (feq hc28_3).1) k) ?_
        refine own_go (B := T112.setTop (mkF m 33 #[.val (.ref a1), .val (.ref b_102), .val (.int (3 : Int32)), .val (.int (2 : Int32)), .val (.ref wF)] [(.ref wF)])) (fun _ k => XS.aload X112.here hx rfl (hb hby d8_31) rfl rfl k) ?_
        obtain ⟨fs, hr, hrun, hended, hW, hsame⟩ := X112.leave (v := some (.ref wF)) (fun h => by rw [Bd.returns] at h; cases h)
        refine ⟨_, _, retOut X112 hx Bd.returns rfl (Or.inr (Or.inr (Or.inr (Or.inr ⟨rfl, rfl, rfl⟩)))) (hb hby d8_33) hr, hrun, hended, _, _, rfl, ?_, ⟨_, rfl⟩, hW, hsame.mono (by decide) (by decide)⟩
        show Q_rmOfS Z wV wI wC wF sI tI sC tC sF tF k_wV k_tI k_tC k_tF zC fm a1 cs h0 n0 _ T112.heap _
        rw [e112]
        exact ⟨(by rw [← own_eqs_ne hc28_3]; simp [own_st]), N112, K102'⟩
    · refine own_go (B := T109.setTop (mkF m 31 #[.val (.ref a1), .val (.ref b_102), .val (.int (3 : Int32)), .val (.int (1 : Int32)), .val (.ref wC)] [])) (fun _ k => XS.ifNo X109.here hx rfl (hb hby d8_28) rfl ((if0 _ _).trans (feq hc28_2).1) k) ?_
      refine own_go (B := T109.setTop (mkF m 33 #[.val (.ref a1), .val (.ref b_102), .val (.int (3 : Int32)), .val (.int (1 : Int32)), .val (.ref wC)] [(.ref wC)])) (fun _ k => XS.aload X109.here hx rfl (hb hby d8_31) rfl rfl k) ?_
      obtain ⟨fs, hr, hrun, hended, hW, hsame⟩ := X109.leave (v := some (.ref wC)) (fun h => by rw [Bd.returns] at h; cases h)
      refine ⟨_, _, retOut X109 hx Bd.returns rfl (Or.inr (Or.inr (Or.inr (Or.inr ⟨rfl, rfl, rfl⟩)))) (hb hby d8_33) hr, hrun, hended, _, _, rfl, ?_, ⟨_, rfl⟩, hW, hsame.mono (by decide) (by decide)⟩
      show Q_rmOfS Z wV wI wC wF sI tI sC tC sF tF k_wV k_tI k_tC k_tF zC fm a1 cs h0 n0 _ T109.heap _
      rw [e109]
      exact ⟨(by rw [← own_eqs_ne hc28_2]; simp [own_st]), N109, K102'⟩
  · refine own_go (B := T106.setTop (mkF m 31 #[.val (.ref a1), .val (.ref b_102), .val (.int (3 : Int32)), .val (.int (0 : Int32)), .val (.ref wI)] [])) (fun _ k => XS.ifNo X106.here hx rfl (hb hby d8_28) rfl ((if0 _ _).trans (feq hc28).1) k) ?_
    refine own_go (B := T106.setTop (mkF m 33 #[.val (.ref a1), .val (.ref b_102), .val (.int (3 : Int32)), .val (.int (0 : Int32)), .val (.ref wI)] [(.ref wI)])) (fun _ k => XS.aload X106.here hx rfl (hb hby d8_31) rfl rfl k) ?_
    obtain ⟨fs, hr, hrun, hended, hW, hsame⟩ := X106.leave (v := some (.ref wI)) (fun h => by rw [Bd.returns] at h; cases h)
    refine ⟨_, _, retOut X106 hx Bd.returns rfl (Or.inr (Or.inr (Or.inr (Or.inr ⟨rfl, rfl, rfl⟩)))) (hb hby d8_33) hr, hrun, hended, _, _, rfl, ?_, ⟨_, rfl⟩, hW, hsame.mono (by decide) (by decide)⟩
    show Q_rmOfS Z wV wI wC wF sI tI sC tC sF tF k_wV k_tI k_tC k_tF zC fm a1 cs h0 n0 _ T106.heap _
    rw [e106]
    exact ⟨(by rw [← own_eqs_ne hc28]; simp [own_st]), N106, K102'⟩
theorem ef_rmOfN (m : MethodId)  : entryFrame m #[.null] 5 = mkF m 0 #[.val .null, .unset, .unset, .unset, .unset] [] := by first | (simp [entryFrame, mkF, argsToLocals, Value.category]; done) | rfl
def Q_rmOfN (Z : State) (wV : Addr) (wI : Addr) (wC : Addr) (wF : Addr) (sI : Addr) (tI : Addr) (sC : Addr) (tC : Addr) (sF : Addr) (tF : Addr) (k_wV : ClassId) (k_tI : ClassId) (k_tC : ClassId) (k_tF : ClassId) (zC : Int32) (fm : Value) (h0 : Heap) (n0 : Nat) (v : Option Value) (h : Heap) (L : List Loc) : Prop := v = some .null ∧ Fr n0 L ∧ Keep h0 h []
set_option maxRecDepth 65536 in
set_option maxHeartbeats 40000000 in
theorem rmOfN (l : Launch) (Z : State) (a0 : Array Value) (hw : ∀ d ∈ tables_1, d.before a0 Z = true) (ws : List Jvm.Cond) (wV : Addr) (wI : Addr) (wC : Addr) (wF : Addr) (sI : Addr) (tI : Addr) (sC : Addr) (tC : Addr) (sF : Addr) (tF : Addr) (k_wV : ClassId) (k_tI : ClassId) (k_tC : ClassId) (k_tF : ClassId) (zC : Int32) (fm : Value) (G : own_G Z wV wI wC wF sI tI sC tC sF tF k_wV k_tI k_tC k_tF zC fm) (h0 : Heap) (n0 : Nat) (Z0 : n0 ≤ h0.size) (O0 : Old Z n0 h0) :
    MetFree l (⟨"com/example/void_repeat/voidrepeat/jdbc/RowState", "of", "(Ljava/lang/String;)Lcom/example/void_repeat/voidrepeat/jdbc/RowState;"⟩ : MethodName) (head1 (Jvm.Cond.code (⟨"com/example/void_repeat/voidrepeat/jdbc/RowState", "of", "(Ljava/lang/String;)Lcom/example/void_repeat/voidrepeat/jdbc/RowState;"⟩ : MethodName) prog_36_method_5_code 5 (some (.object "com/example/void_repeat/voidrepeat/jdbc/RowState")) :: ws) ({ frames := 2, cells := 1, slots := 3, locals := 25 } : Room)) (fun a U => a = #[.null] ∧ Z.Warmed39 U.vm ∧ U.heap = h0) (fun _ _ _ _ _ => True) (fun _ U o U' => ∃ v L, o = .returned v ∧ Q_rmOfN Z wV wI wC wF sI tI sC tC sF tF k_wV k_tI k_tC k_tF zC fm h0 n0 v U'.heap L ∧ FrameEnd U o U' L ({ frames := 2, cells := 1, slots := 3, locals := 25 } : Room).cells ({ frames := 2, cells := 1, slots := 3, locals := 25 } : Room).slots) := by
  refine MetFree.of_bodySF (plainFor_of_name pn_9) hisR ?_
  intro p e s m args below meth c s₁ Bd hml0 hP hK
  obtain ⟨rfl, hZ, hh⟩ := hP
  have hx := Bd.exec
  have hby := Bd.bytes
  have hml : c.maxLocals = 5 := hml0
  have hown : s.vm.findClass "com/example/void_repeat/voidrepeat/jdbc/RowState" = some m.cls := findClass_of_methodNamed Bd.named
  have hnm := (name_of_methodNamed Bd.named Bd.method).1
  have X0 : Stand p l e ({ frames := 2, cells := 1, slots := 3, locals := 25 } : Room) s m #[.null] below meth c s₁ [] 0 0 := Stand.of_body Bd
  have e0 : s₁.heap = h0 := by rw [← hh, Bd.state]; rfl
  have N0 := Fr.nil n0
  have K0 := Keep.refl h0 ([] : List Addr)
  have G_ := G
  obtain ⟨S_RowState_VALUES, E_wV, S_RowState_IN_PROGRESS, E_wI, S_RowState_COMPLETED, E_wC, S_RowState_FAILED, E_wF, F_text_wI, E_sI, F_value_sI, F_text_wC, E_sC, F_value_sC, F_text_wF, E_sF, F_value_sF, F_coder_sI, F_coder_sC, F_coder_sF, V_wV, V_tI, V_tC, V_tF, S_String_COMPACT_STRINGS, hzC, S_Preconditions_SIOOBE_FORMATTER, hfm, Sx_sI, Sx_sC, Sx_sF, G_end⟩ := G_
  change own_Go p e below _ _
  refine own_go (B := s₁.setTop (mkF m 0 #[.val .null, .unset, .unset, .unset, .unset] [])) (fun _ k => castTop (ef_rmOfN m ) k) ?_
  obtain ⟨_, _, ⟨T101, L101, k101, n101⟩, -, X101, ⟨Lc101, hQ101, l101, y101, z101⟩, st101⟩ := Jvm.LawKit.callS X0 hx (y := (⟨"com/example/void_repeat/voidrepeat/jdbc/RowState", "values", "()[Lcom/example/void_repeat/voidrepeat/jdbc/RowState;"⟩ : MethodName)) hown (mvT hZ (hw _ (List.mem_of_getElem? (i := 51) rfl))) (mvT hZ (hw _ (List.mem_of_getElem? (i := 52) rfl))) (mvT hZ (hw _ (List.mem_of_getElem? (i := 49) rfl))) (mvT hZ (hw _ (List.mem_of_getElem? (i := 53) rfl))) (by decide) (backOf (W := 0) (rm9 l Z a0 hw [] wV wI wC wF sI tI sC tC sF tF k_wV k_tI k_tC k_tF zC fm G  h0 n0 (Nat.le_trans Z0 K0.1) O0 ) hZ (hw _ (List.mem_of_getElem? (i := 53) rfl)) (hw _ (List.mem_of_getElem? (i := 49) rfl)) (by decide) (by decide)) (g := (mkF m 0 #[.val .null, .unset, .unset, .unset, .unset] [])) rfl (by rw [hml]; rfl) (argsL := []) (rest := []) (lenOf pd_1 rfl) rfl (by show 2 * 0 + _ ≤ _; exact Nat.le_of_eq rfl) (hb hby d8_0) (fun _ _ => ⟨rfl, e0, (by decide : 0 + 1 ≤ 1), (by decide : 0 + 3 ≤ 3)⟩)
  dsimp only [Pt.U, Pt.locs, Pt.cells, Pt.slots] at X101 l101 y101 z101 st101 hQ101
  subst l101 y101 z101
  obtain ⟨b_101, rfl, N101q, K101, fr_101, V_101⟩ := hQ101
  have g_b_101 : n0 ≤ b_101 := Nat.le_trans (Nat.le_trans Z0 K0.1) fr_101
  have sz_b_101 : h0.size ≤ b_101 := Nat.le_trans K0.1 fr_101
  have N101 := Fr.app N0 N101q
  have O101 := O0.keep K101 all0
  have K101' : Keep h0 T101.heap ([] : List Addr) := K0.trans K101 all0
  refine own_go (B := T101.setTop (mkF m 3 #[.val .null, .unset, .unset, .unset, .unset] [(.ref b_101)])) (st101) ?_
  refine own_go (B := T101.setTop (mkF m 4 #[.val .null, .val (.ref b_101), .unset, .unset, .unset] [])) (fun _ k => XS.astoreN X101.here hx rfl (hb hby d8_3) rfl rfl (l' := #[.val .null, .val (.ref b_101), .unset, .unset, .unset]) rfl k) ?_
  refine own_go (B := T101.setTop (mkF m 5 #[.val .null, .val (.ref b_101), .unset, .unset, .unset] [(.ref b_101)])) (fun _ k => XS.aloadN X101.here hx rfl (hb hby d8_4) rfl rfl k) ?_
  obtain ⟨cl102, Ar102, -, Sz102, Nn102, -, -⟩ := id V_101
  refine own_go (B := T101.setTop (mkF m 6 #[.val .null, .val (.ref b_101), .unset, .unset, .unset] [(.int cl102.slots.size.toInt32)])) (X101.arraylength hx (show T101.heap[_]? = _ from Ar102.1) (State.isArrayOf_alike hZ.alike Ar102.2.1) (g := (mkF m 5 #[.val .null, .val (.ref b_101), .unset, .unset, .unset] [(.ref b_101)])) rfl rfl (hb hby d8_5)) ?_
  rw [len_of Sz102 Nn102]
  refine own_go (B := T101.setTop (mkF m 7 #[.val .null, .val (.ref b_101), .val (.int (3 : Int32)), .unset, .unset] [])) (fun _ k => XS.istoreN X101.here hx rfl (hb hby d8_6) rfl (l' := #[.val .null, .val (.ref b_101), .val (.int (3 : Int32)), .unset, .unset]) rfl k) ?_
  refine own_go (B := T101.setTop (mkF m 8 #[.val .null, .val (.ref b_101), .val (.int (3 : Int32)), .unset, .unset] [(.int (0 : Int32))])) (fun _ k => XS.iconst X101.here hx rfl (hb hby d8_7) k) ?_
  refine own_go (B := T101.setTop (mkF m 9 #[.val .null, .val (.ref b_101), .val (.int (3 : Int32)), .val (.int (0 : Int32)), .unset] [])) (fun _ k => XS.istoreN X101.here hx rfl (hb hby d8_8) rfl (l' := #[.val .null, .val (.ref b_101), .val (.int (3 : Int32)), .val (.int (0 : Int32)), .unset]) rfl k) ?_
  refine own_go (B := T101.setTop (mkF m 10 #[.val .null, .val (.ref b_101), .val (.int (3 : Int32)), .val (.int (0 : Int32)), .unset] [(.int (0 : Int32))])) (fun _ k => XS.iloadN X101.here hx rfl (hb hby d8_9) rfl k) ?_
  refine own_go (B := T101.setTop (mkF m 11 #[.val .null, .val (.ref b_101), .val (.int (3 : Int32)), .val (.int (0 : Int32)), .unset] [(.int (3 : Int32)), (.int (0 : Int32))])) (fun _ k => XS.iloadN X101.here hx rfl (hb hby d8_10) rfl k) ?_
  refine own_go (B := T101.setTop (mkF m 14 #[.val .null, .val (.ref b_101), .val (.int (3 : Int32)), .val (.int (0 : Int32)), .unset] [])) (fun _ k => XS.icmpNo X101.here hx rfl (hb hby d8_11) rfl (tlt (by decide : (0 : Int32) < (3 : Int32))).2.1 k) ?_
  refine own_go (B := T101.setTop (mkF m 15 #[.val .null, .val (.ref b_101), .val (.int (3 : Int32)), .val (.int (0 : Int32)), .unset] [(.ref b_101)])) (fun _ k => XS.aloadN X101.here hx rfl (hb hby d8_14) rfl rfl k) ?_
  refine own_go (B := T101.setTop (mkF m 16 #[.val .null, .val (.ref b_101), .val (.int (3 : Int32)), .val (.int (0 : Int32)), .unset] [(.int (0 : Int32)), (.ref b_101)])) (fun _ k => XS.iloadN X101.here hx rfl (hb hby d8_15) rfl k) ?_
  obtain ⟨cl103, Ar103, q103, Sz103, Nn103, Hh103, Gg103⟩ := id V_101
  have hin103 : ¬ ((0 : Int32) < 0 ∨ cl103.slots.size ≤ ((0 : Int32)).toNatClampNeg) := inb_of Sz103 ⟨by decide, by decide⟩
  have hat103 : cl103.slots[((0 : Int32)).toNatClampNeg]? = some (.ref wI) := Has.at Hh103 hin103 rfl
  refine own_go (B := T101.setTop (mkF m 17 #[.val .null, .val (.ref b_101), .val (.int (3 : Int32)), .val (.int (0 : Int32)), .unset] [(.ref wI)])) (X101.aaload hx (j := (0 : Int32)) (v := (.ref wI)) (show T101.heap[_]? = _ from Ar103.1) (State.isArrayOf_alike hZ.alike Ar103.2.1) rfl Ar103.2.2 hin103 hat103 (g := (mkF m 16 #[.val .null, .val (.ref b_101), .val (.int (3 : Int32)), .val (.int (0 : Int32)), .unset] [(.int (0 : Int32)), (.ref b_101)])) rfl rfl (hb hby d8_16)) ?_
  refine own_go (B := T101.setTop (mkF m 19 #[.val .null, .val (.ref b_101), .val (.int (3 : Int32)), .val (.int (0 : Int32)), .val (.ref wI)] [])) (fun _ k => XS.astore X101.here hx rfl (hb hby d8_17) rfl rfl (l' := #[.val .null, .val (.ref b_101), .val (.int (3 : Int32)), .val (.int (0 : Int32)), .val (.ref wI)]) rfl k) ?_
  refine own_go (B := T101.setTop (mkF m 21 #[.val .null, .val (.ref b_101), .val (.int (3 : Int32)), .val (.int (0 : Int32)), .val (.ref wI)] [(.ref wI)])) (fun _ k => XS.aload X101.here hx rfl (hb hby d8_19) rfl rfl k) ?_
  obtain ⟨T104, X104, e104, st104⟩ := getF X101 hx hZ hown (host := "") (Or.inl (hw _ (List.mem_of_getElem? (i := 69) rfl))) Via.refl rfl (F_text_wI.ext O101.2) (g := (mkF m 21 #[.val .null, .val (.ref b_101), .val (.int (3 : Int32)), .val (.int (0 : Int32)), .val (.ref wI)] [(.ref wI)])) rfl rfl (hb hby d8_21)
  refine own_go (B := T104.setTop (mkF m 24 #[.val .null, .val (.ref b_101), .val (.int (3 : Int32)), .val (.int (0 : Int32)), .val (.ref wI)] [(.ref sI)])) (st104) ?_
  refine own_go (B := T104.setTop (mkF m 25 #[.val .null, .val (.ref b_101), .val (.int (3 : Int32)), .val (.int (0 : Int32)), .val (.ref wI)] [.null, (.ref sI)])) (fun _ k => XS.aloadN X104.here hx rfl (hb hby d8_24) rfl rfl k) ?_
  obtain ⟨cq105, kq105, q105a, q105b, q105c⟩ := isOf hZ e104 (E_sI.ext O101.2)
  obtain ⟨_, _, ⟨T105, L105, k105, n105⟩, -, X105, ⟨Lc105, hQ105, l105, y105, z105⟩, st105⟩ := X104.virtualBack hx (y := (⟨"java/lang/String", "equals", "(Ljava/lang/Object;)Z"⟩ : MethodName)) (z := (⟨"java/lang/String", "equals", "(Ljava/lang/Object;)Z"⟩ : MethodName)) hown (mvT hZ (hw _ (List.mem_of_getElem? (i := 71) rfl))) (mvT hZ (hw _ (List.mem_of_getElem? (i := 36) rfl))) (notFace_of_selects (args := #[]) (mvT hZ (hw _ (List.mem_of_getElem? (i := 38) rfl)))) (mvT hZ (hw _ (List.mem_of_getElem? (i := 38) rfl))) (mvT hZ (hw _ (List.mem_of_getElem? (i := 37) rfl))) (by decide) (backOf (W := 0) (rmEqNull l Z a0 hw [] wV wI wC wF sI tI sC tC sF tF k_wV k_tI k_tC k_tF zC fm G sI T101.heap n0 (Nat.le_trans Z0 K101'.1) O101 ) hZ (hw _ (List.mem_of_getElem? (i := 39) rfl)) (hw _ (List.mem_of_getElem? (i := 2) rfl)) (by decide) (by decide)) q105a q105c (g := (mkF m 25 #[.val .null, .val (.ref b_101), .val (.int (3 : Int32)), .val (.int (0 : Int32)), .val (.ref wI)] [.null, (.ref sI)])) rfl (by rw [hml]; rfl) (Steps.refl _) (argsL := [.null]) (rest := []) (lenOf pd_2 rfl) rfl (by show 2 * 0 + _ ≤ _; exact Nat.le_of_eq rfl) (hb hby d8_25) (fun _ _ => ⟨rfl, e104, (by decide : 1 + 0 ≤ 1), (by decide : 3 + 0 ≤ 3)⟩)
  dsimp only [Pt.U, Pt.locs, Pt.cells, Pt.slots] at X105 l105 y105 z105 st105 hQ105
  subst l105 y105 z105
  obtain ⟨rfl, N105q, K105⟩ := hQ105
  have N105 := Fr.app N101 N105q
  have e105 : T105.heap = T101.heap := K105
  refine own_go (B := T105.setTop (mkF m 28 #[.val .null, .val (.ref b_101), .val (.int (3 : Int32)), .val (.int (0 : Int32)), .val (.ref wI)] [(.int (0 : Int32))])) (fun _ k => st105.trans k) ?_
  refine own_go (B := T105.setTop (mkF m 34 #[.val .null, .val (.ref b_101), .val (.int (3 : Int32)), .val (.int (0 : Int32)), .val (.ref wI)] [])) (fun _ k => XS.ifYes X105.here hx rfl (pc0 := 28) (pc' := 34) rfl (hb hby d8_28) rfl ((if0 _ _).trans (teq (by decide : (0 : Int32) = (0 : Int32))).1) (by decide) (by decide) k) ?_
  refine own_go (B := T105.setTop (mkF m 37 #[.val .null, .val (.ref b_101), .val (.int (3 : Int32)), .val (.int ((0 : Int32) + (1 : Int32))), .val (.ref wI)] [])) (fun _ k => XS.iinc X105.here hx rfl (hb hby d8_34) rfl (l' := #[.val .null, .val (.ref b_101), .val (.int (3 : Int32)), .val (.int ((0 : Int32) + (1 : Int32))), .val (.ref wI)]) rfl k) ?_
  rw [show ((0 : Int32) + (1 : Int32)) = (1 : Int32) from by decide]
  refine own_go (B := T105.setTop (mkF m 9 #[.val .null, .val (.ref b_101), .val (.int (3 : Int32)), .val (.int (1 : Int32)), .val (.ref wI)] [])) (fun _ k => XS.goto X105.here hx rfl (pc0 := 37) (pc' := 9) rfl (hb hby d8_37) (by decide) (by decide) k) ?_
  refine own_go (B := T105.setTop (mkF m 10 #[.val .null, .val (.ref b_101), .val (.int (3 : Int32)), .val (.int (1 : Int32)), .val (.ref wI)] [(.int (1 : Int32))])) (fun _ k => XS.iloadN X105.here hx rfl (hb hby d8_9) rfl k) ?_
  refine own_go (B := T105.setTop (mkF m 11 #[.val .null, .val (.ref b_101), .val (.int (3 : Int32)), .val (.int (1 : Int32)), .val (.ref wI)] [(.int (3 : Int32)), (.int (1 : Int32))])) (fun _ k => XS.iloadN X105.here hx rfl (hb hby d8_10) rfl k) ?_
  refine own_go (B := T105.setTop (mkF m 14 #[.val .null, .val (.ref b_101), .val (.int (3 : Int32)), .val (.int (1 : Int32)), .val (.ref wI)] [])) (fun _ k => XS.icmpNo X105.here hx rfl (hb hby d8_11) rfl (tlt (by decide : (1 : Int32) < (3 : Int32))).2.1 k) ?_
  refine own_go (B := T105.setTop (mkF m 15 #[.val .null, .val (.ref b_101), .val (.int (3 : Int32)), .val (.int (1 : Int32)), .val (.ref wI)] [(.ref b_101)])) (fun _ k => XS.aloadN X105.here hx rfl (hb hby d8_14) rfl rfl k) ?_
  refine own_go (B := T105.setTop (mkF m 16 #[.val .null, .val (.ref b_101), .val (.int (3 : Int32)), .val (.int (1 : Int32)), .val (.ref wI)] [(.int (1 : Int32)), (.ref b_101)])) (fun _ k => XS.iloadN X105.here hx rfl (hb hby d8_15) rfl k) ?_
  obtain ⟨cl106, Ar106, q106, Sz106, Nn106, Hh106, Gg106⟩ := id V_101
  have hin106 : ¬ ((1 : Int32) < 0 ∨ cl106.slots.size ≤ ((1 : Int32)).toNatClampNeg) := inb_of Sz106 ⟨by decide, by decide⟩
  have hat106 : cl106.slots[((1 : Int32)).toNatClampNeg]? = some (.ref wC) := Has.at Hh106 hin106 rfl
  refine own_go (B := T105.setTop (mkF m 17 #[.val .null, .val (.ref b_101), .val (.int (3 : Int32)), .val (.int (1 : Int32)), .val (.ref wI)] [(.ref wC)])) (X105.aaload hx (j := (1 : Int32)) (v := (.ref wC)) (by rw [e105]; exact Ar106.1) (State.isArrayOf_alike hZ.alike Ar106.2.1) rfl Ar106.2.2 hin106 hat106 (g := (mkF m 16 #[.val .null, .val (.ref b_101), .val (.int (3 : Int32)), .val (.int (1 : Int32)), .val (.ref wI)] [(.int (1 : Int32)), (.ref b_101)])) rfl rfl (hb hby d8_16)) ?_
  refine own_go (B := T105.setTop (mkF m 19 #[.val .null, .val (.ref b_101), .val (.int (3 : Int32)), .val (.int (1 : Int32)), .val (.ref wC)] [])) (fun _ k => XS.astore X105.here hx rfl (hb hby d8_17) rfl rfl (l' := #[.val .null, .val (.ref b_101), .val (.int (3 : Int32)), .val (.int (1 : Int32)), .val (.ref wC)]) rfl k) ?_
  refine own_go (B := T105.setTop (mkF m 21 #[.val .null, .val (.ref b_101), .val (.int (3 : Int32)), .val (.int (1 : Int32)), .val (.ref wC)] [(.ref wC)])) (fun _ k => XS.aload X105.here hx rfl (hb hby d8_19) rfl rfl k) ?_
  obtain ⟨T107, X107, e107, st107⟩ := getF X105 hx hZ hown (host := "") (Or.inl (hw _ (List.mem_of_getElem? (i := 69) rfl))) Via.refl e105 (F_text_wC.ext O101.2) (g := (mkF m 21 #[.val .null, .val (.ref b_101), .val (.int (3 : Int32)), .val (.int (1 : Int32)), .val (.ref wC)] [(.ref wC)])) rfl rfl (hb hby d8_21)
  refine own_go (B := T107.setTop (mkF m 24 #[.val .null, .val (.ref b_101), .val (.int (3 : Int32)), .val (.int (1 : Int32)), .val (.ref wC)] [(.ref sC)])) (st107) ?_
  refine own_go (B := T107.setTop (mkF m 25 #[.val .null, .val (.ref b_101), .val (.int (3 : Int32)), .val (.int (1 : Int32)), .val (.ref wC)] [.null, (.ref sC)])) (fun _ k => XS.aloadN X107.here hx rfl (hb hby d8_24) rfl rfl k) ?_
  obtain ⟨cq108, kq108, q108a, q108b, q108c⟩ := isOf hZ e107 (E_sC.ext O101.2)
  obtain ⟨_, _, ⟨T108, L108, k108, n108⟩, -, X108, ⟨Lc108, hQ108, l108, y108, z108⟩, st108⟩ := X107.virtualBack hx (y := (⟨"java/lang/String", "equals", "(Ljava/lang/Object;)Z"⟩ : MethodName)) (z := (⟨"java/lang/String", "equals", "(Ljava/lang/Object;)Z"⟩ : MethodName)) hown (mvT hZ (hw _ (List.mem_of_getElem? (i := 71) rfl))) (mvT hZ (hw _ (List.mem_of_getElem? (i := 36) rfl))) (notFace_of_selects (args := #[]) (mvT hZ (hw _ (List.mem_of_getElem? (i := 38) rfl)))) (mvT hZ (hw _ (List.mem_of_getElem? (i := 38) rfl))) (mvT hZ (hw _ (List.mem_of_getElem? (i := 37) rfl))) (by decide) (backOf (W := 0) (rmEqNull l Z a0 hw [] wV wI wC wF sI tI sC tC sF tF k_wV k_tI k_tC k_tF zC fm G sC T101.heap n0 (Nat.le_trans Z0 K101'.1) O101 ) hZ (hw _ (List.mem_of_getElem? (i := 39) rfl)) (hw _ (List.mem_of_getElem? (i := 2) rfl)) (by decide) (by decide)) q108a q108c (g := (mkF m 25 #[.val .null, .val (.ref b_101), .val (.int (3 : Int32)), .val (.int (1 : Int32)), .val (.ref wC)] [.null, (.ref sC)])) rfl (by rw [hml]; rfl) (Steps.refl _) (argsL := [.null]) (rest := []) (lenOf pd_2 rfl) rfl (by show 2 * 0 + _ ≤ _; exact Nat.le_of_eq rfl) (hb hby d8_25) (fun _ _ => ⟨rfl, e107, (by decide : 1 + 0 ≤ 1), (by decide : 3 + 0 ≤ 3)⟩)
  dsimp only [Pt.U, Pt.locs, Pt.cells, Pt.slots] at X108 l108 y108 z108 st108 hQ108
  subst l108 y108 z108
  obtain ⟨rfl, N108q, K108⟩ := hQ108
  have N108 := Fr.app N105 N108q
  have e108 : T108.heap = T101.heap := K108
  refine own_go (B := T108.setTop (mkF m 28 #[.val .null, .val (.ref b_101), .val (.int (3 : Int32)), .val (.int (1 : Int32)), .val (.ref wC)] [(.int (0 : Int32))])) (fun _ k => st108.trans k) ?_
  refine own_go (B := T108.setTop (mkF m 34 #[.val .null, .val (.ref b_101), .val (.int (3 : Int32)), .val (.int (1 : Int32)), .val (.ref wC)] [])) (fun _ k => XS.ifYes X108.here hx rfl (pc0 := 28) (pc' := 34) rfl (hb hby d8_28) rfl ((if0 _ _).trans (teq (by decide : (0 : Int32) = (0 : Int32))).1) (by decide) (by decide) k) ?_
  refine own_go (B := T108.setTop (mkF m 37 #[.val .null, .val (.ref b_101), .val (.int (3 : Int32)), .val (.int ((1 : Int32) + (1 : Int32))), .val (.ref wC)] [])) (fun _ k => XS.iinc X108.here hx rfl (hb hby d8_34) rfl (l' := #[.val .null, .val (.ref b_101), .val (.int (3 : Int32)), .val (.int ((1 : Int32) + (1 : Int32))), .val (.ref wC)]) rfl k) ?_
  rw [show ((1 : Int32) + (1 : Int32)) = (2 : Int32) from by decide]
  refine own_go (B := T108.setTop (mkF m 9 #[.val .null, .val (.ref b_101), .val (.int (3 : Int32)), .val (.int (2 : Int32)), .val (.ref wC)] [])) (fun _ k => XS.goto X108.here hx rfl (pc0 := 37) (pc' := 9) rfl (hb hby d8_37) (by decide) (by decide) k) ?_
  refine own_go (B := T108.setTop (mkF m 10 #[.val .null, .val (.ref b_101), .val (.int (3 : Int32)), .val (.int (2 : Int32)), .val (.ref wC)] [(.int (2 : Int32))])) (fun _ k => XS.iloadN X108.here hx rfl (hb hby d8_9) rfl k) ?_
  refine own_go (B := T108.setTop (mkF m 11 #[.val .null, .val (.ref b_101), .val (.int (3 : Int32)), .val (.int (2 : Int32)), .val (.ref wC)] [(.int (3 : Int32)), (.int (2 : Int32))])) (fun _ k => XS.iloadN X108.here hx rfl (hb hby d8_10) rfl k) ?_
  refine own_go (B := T108.setTop (mkF m 14 #[.val .null, .val (.ref b_101), .val (.int (3 : Int32)), .val (.int (2 : Int32)), .val (.ref wC)] [])) (fun _ k => XS.icmpNo X108.here hx rfl (hb hby d8_11) rfl (tlt (by decide : (2 : Int32) < (3 : Int32))).2.1 k) ?_
  refine own_go (B := T108.setTop (mkF m 15 #[.val .null, .val (.ref b_101), .val (.int (3 : Int32)), .val (.int (2 : Int32)), .val (.ref wC)] [(.ref b_101)])) (fun _ k => XS.aloadN X108.here hx rfl (hb hby d8_14) rfl rfl k) ?_
  refine own_go (B := T108.setTop (mkF m 16 #[.val .null, .val (.ref b_101), .val (.int (3 : Int32)), .val (.int (2 : Int32)), .val (.ref wC)] [(.int (2 : Int32)), (.ref b_101)])) (fun _ k => XS.iloadN X108.here hx rfl (hb hby d8_15) rfl k) ?_
  obtain ⟨cl109, Ar109, q109, Sz109, Nn109, Hh109, Gg109⟩ := id V_101
  have hin109 : ¬ ((2 : Int32) < 0 ∨ cl109.slots.size ≤ ((2 : Int32)).toNatClampNeg) := inb_of Sz109 ⟨by decide, by decide⟩
  have hat109 : cl109.slots[((2 : Int32)).toNatClampNeg]? = some (.ref wF) := Has.at Hh109 hin109 rfl
  refine own_go (B := T108.setTop (mkF m 17 #[.val .null, .val (.ref b_101), .val (.int (3 : Int32)), .val (.int (2 : Int32)), .val (.ref wC)] [(.ref wF)])) (X108.aaload hx (j := (2 : Int32)) (v := (.ref wF)) (by rw [e108]; exact Ar109.1) (State.isArrayOf_alike hZ.alike Ar109.2.1) rfl Ar109.2.2 hin109 hat109 (g := (mkF m 16 #[.val .null, .val (.ref b_101), .val (.int (3 : Int32)), .val (.int (2 : Int32)), .val (.ref wC)] [(.int (2 : Int32)), (.ref b_101)])) rfl rfl (hb hby d8_16)) ?_
  refine own_go (B := T108.setTop (mkF m 19 #[.val .null, .val (.ref b_101), .val (.int (3 : Int32)), .val (.int (2 : Int32)), .val (.ref wF)] [])) (fun _ k => XS.astore X108.here hx rfl (hb hby d8_17) rfl rfl (l' := #[.val .null, .val (.ref b_101), .val (.int (3 : Int32)), .val (.int (2 : Int32)), .val (.ref wF)]) rfl k) ?_
  refine own_go (B := T108.setTop (mkF m 21 #[.val .null, .val (.ref b_101), .val (.int (3 : Int32)), .val (.int (2 : Int32)), .val (.ref wF)] [(.ref wF)])) (fun _ k => XS.aload X108.here hx rfl (hb hby d8_19) rfl rfl k) ?_
  obtain ⟨T110, X110, e110, st110⟩ := getF X108 hx hZ hown (host := "") (Or.inl (hw _ (List.mem_of_getElem? (i := 69) rfl))) Via.refl e108 (F_text_wF.ext O101.2) (g := (mkF m 21 #[.val .null, .val (.ref b_101), .val (.int (3 : Int32)), .val (.int (2 : Int32)), .val (.ref wF)] [(.ref wF)])) rfl rfl (hb hby d8_21)
  refine own_go (B := T110.setTop (mkF m 24 #[.val .null, .val (.ref b_101), .val (.int (3 : Int32)), .val (.int (2 : Int32)), .val (.ref wF)] [(.ref sF)])) (st110) ?_
  refine own_go (B := T110.setTop (mkF m 25 #[.val .null, .val (.ref b_101), .val (.int (3 : Int32)), .val (.int (2 : Int32)), .val (.ref wF)] [.null, (.ref sF)])) (fun _ k => XS.aloadN X110.here hx rfl (hb hby d8_24) rfl rfl k) ?_
  obtain ⟨cq111, kq111, q111a, q111b, q111c⟩ := isOf hZ e110 (E_sF.ext O101.2)
  obtain ⟨_, _, ⟨T111, L111, k111, n111⟩, -, X111, ⟨Lc111, hQ111, l111, y111, z111⟩, st111⟩ := X110.virtualBack hx (y := (⟨"java/lang/String", "equals", "(Ljava/lang/Object;)Z"⟩ : MethodName)) (z := (⟨"java/lang/String", "equals", "(Ljava/lang/Object;)Z"⟩ : MethodName)) hown (mvT hZ (hw _ (List.mem_of_getElem? (i := 71) rfl))) (mvT hZ (hw _ (List.mem_of_getElem? (i := 36) rfl))) (notFace_of_selects (args := #[]) (mvT hZ (hw _ (List.mem_of_getElem? (i := 38) rfl)))) (mvT hZ (hw _ (List.mem_of_getElem? (i := 38) rfl))) (mvT hZ (hw _ (List.mem_of_getElem? (i := 37) rfl))) (by decide) (backOf (W := 0) (rmEqNull l Z a0 hw [] wV wI wC wF sI tI sC tC sF tF k_wV k_tI k_tC k_tF zC fm G sF T101.heap n0 (Nat.le_trans Z0 K101'.1) O101 ) hZ (hw _ (List.mem_of_getElem? (i := 39) rfl)) (hw _ (List.mem_of_getElem? (i := 2) rfl)) (by decide) (by decide)) q111a q111c (g := (mkF m 25 #[.val .null, .val (.ref b_101), .val (.int (3 : Int32)), .val (.int (2 : Int32)), .val (.ref wF)] [.null, (.ref sF)])) rfl (by rw [hml]; rfl) (Steps.refl _) (argsL := [.null]) (rest := []) (lenOf pd_2 rfl) rfl (by show 2 * 0 + _ ≤ _; exact Nat.le_of_eq rfl) (hb hby d8_25) (fun _ _ => ⟨rfl, e110, (by decide : 1 + 0 ≤ 1), (by decide : 3 + 0 ≤ 3)⟩)
  dsimp only [Pt.U, Pt.locs, Pt.cells, Pt.slots] at X111 l111 y111 z111 st111 hQ111
  subst l111 y111 z111
  obtain ⟨rfl, N111q, K111⟩ := hQ111
  have N111 := Fr.app N108 N111q
  have e111 : T111.heap = T101.heap := K111
  refine own_go (B := T111.setTop (mkF m 28 #[.val .null, .val (.ref b_101), .val (.int (3 : Int32)), .val (.int (2 : Int32)), .val (.ref wF)] [(.int (0 : Int32))])) (fun _ k => st111.trans k) ?_
  refine own_go (B := T111.setTop (mkF m 34 #[.val .null, .val (.ref b_101), .val (.int (3 : Int32)), .val (.int (2 : Int32)), .val (.ref wF)] [])) (fun _ k => XS.ifYes X111.here hx rfl (pc0 := 28) (pc' := 34) rfl (hb hby d8_28) rfl ((if0 _ _).trans (teq (by decide : (0 : Int32) = (0 : Int32))).1) (by decide) (by decide) k) ?_
  refine own_go (B := T111.setTop (mkF m 37 #[.val .null, .val (.ref b_101), .val (.int (3 : Int32)), .val (.int ((2 : Int32) + (1 : Int32))), .val (.ref wF)] [])) (fun _ k => XS.iinc X111.here hx rfl (hb hby d8_34) rfl (l' := #[.val .null, .val (.ref b_101), .val (.int (3 : Int32)), .val (.int ((2 : Int32) + (1 : Int32))), .val (.ref wF)]) rfl k) ?_
  rw [show ((2 : Int32) + (1 : Int32)) = (3 : Int32) from by decide]
  refine own_go (B := T111.setTop (mkF m 9 #[.val .null, .val (.ref b_101), .val (.int (3 : Int32)), .val (.int (3 : Int32)), .val (.ref wF)] [])) (fun _ k => XS.goto X111.here hx rfl (pc0 := 37) (pc' := 9) rfl (hb hby d8_37) (by decide) (by decide) k) ?_
  refine own_go (B := T111.setTop (mkF m 10 #[.val .null, .val (.ref b_101), .val (.int (3 : Int32)), .val (.int (3 : Int32)), .val (.ref wF)] [(.int (3 : Int32))])) (fun _ k => XS.iloadN X111.here hx rfl (hb hby d8_9) rfl k) ?_
  refine own_go (B := T111.setTop (mkF m 11 #[.val .null, .val (.ref b_101), .val (.int (3 : Int32)), .val (.int (3 : Int32)), .val (.ref wF)] [(.int (3 : Int32)), (.int (3 : Int32))])) (fun _ k => XS.iloadN X111.here hx rfl (hb hby d8_10) rfl k) ?_
  refine own_go (B := T111.setTop (mkF m 40 #[.val .null, .val (.ref b_101), .val (.int (3 : Int32)), .val (.int (3 : Int32)), .val (.ref wF)] [])) (fun _ k => XS.icmpYes X111.here hx rfl (pc0 := 11) (pc' := 40) rfl (hb hby d8_11) rfl (flt (by decide : ¬ ((3 : Int32) < (3 : Int32)))).2.1 (by decide) (by decide) k) ?_
  refine own_go (B := T111.setTop (mkF m 41 #[.val .null, .val (.ref b_101), .val (.int (3 : Int32)), .val (.int (3 : Int32)), .val (.ref wF)] [.null])) (fun _ k => XS.aconstNull X111.here hx rfl (hb hby d8_40) k) ?_
  obtain ⟨fs, hr, hrun, hended, hW, hsame⟩ := X111.leave (v := some .null) (fun h => by rw [Bd.returns] at h; cases h)
  refine ⟨_, _, retOut X111 hx Bd.returns rfl (Or.inr (Or.inr (Or.inr (Or.inr ⟨rfl, rfl, rfl⟩)))) (hb hby d8_41) hr, hrun, hended, _, _, rfl, ?_, ⟨_, rfl⟩, hW, hsame.mono (by decide) (by decide)⟩
  show Q_rmOfN Z wV wI wC wF sI tI sC tC sF tF k_wV k_tI k_tC k_tF zC fm h0 n0 _ T111.heap _
  rw [e111]
  exact ⟨rfl, N111, K101'⟩
theorem d19_0 : decode jdk_29_method_65_code 0 = .ok (.iload_n 0, 1) := by decide +kernel
theorem d19_1 : decode jdk_29_method_65_code 1 = .ok (.iload_n 1, 1) := by decide +kernel
theorem d19_2 : decode jdk_29_method_65_code 2 = .ok (.if_icmp .lt 7, 3) := by decide +kernel
theorem d19_5 : decode jdk_29_method_65_code 5 = .ok (.iload_n 0, 1) := by decide +kernel
theorem d19_6 : decode jdk_29_method_65_code 6 = .ok (.goto 4, 3) := by decide +kernel
theorem d19_9 : decode jdk_29_method_65_code 9 = .ok (.iload_n 1, 1) := by decide +kernel
theorem d19_10 : decode jdk_29_method_65_code 10 = .ok (.ireturn, 1) := by decide +kernel
theorem ef_rm19 (m : MethodId) (p0 : Int32) (p1 : Int32) : entryFrame m #[(.int p0), (.int p1)] 2 = mkF m 0 #[.val (.int p0), .val (.int p1)] [] := by first | (simp [entryFrame, mkF, argsToLocals, Value.category]; done) | rfl
def Q_rm19 (Z : State) (wV : Addr) (wI : Addr) (wC : Addr) (wF : Addr) (sI : Addr) (tI : Addr) (sC : Addr) (tC : Addr) (sF : Addr) (tF : Addr) (k_wV : ClassId) (k_tI : ClassId) (k_tC : ClassId) (k_tF : ClassId) (zC : Int32) (fm : Value) (p0 : Int32) (p1 : Int32) (h0 : Heap) (n0 : Nat) (v : Option Value) (h : Heap) (L : List Loc) : Prop := v = some (.int (own_max p0 p1)) ∧ Fr n0 L ∧ h = h0
set_option maxRecDepth 65536 in
set_option maxHeartbeats 40000000 in
theorem rm19 (l : Launch) (Z : State) (a0 : Array Value) (hw : ∀ d ∈ tables_1, d.before a0 Z = true) (ws : List Jvm.Cond) (wV : Addr) (wI : Addr) (wC : Addr) (wF : Addr) (sI : Addr) (tI : Addr) (sC : Addr) (tC : Addr) (sF : Addr) (tF : Addr) (k_wV : ClassId) (k_tI : ClassId) (k_tC : ClassId) (k_tF : ClassId) (zC : Int32) (fm : Value) (G : own_G Z wV wI wC wF sI tI sC tC sF tF k_wV k_tI k_tC k_tF zC fm) (p0 : Int32) (p1 : Int32) (h0 : Heap) (n0 : Nat) (Z0 : n0 ≤ h0.size) (O0 : Old Z n0 h0) :
    MetFree l (⟨"java/lang/Math", "max", "(II)I"⟩ : MethodName) (head1 (Jvm.Cond.code (⟨"java/lang/Math", "max", "(II)I"⟩ : MethodName) jdk_29_method_65_code 2 (some .int) :: ws) ({ frames := 0, cells := 0, slots := 0, locals := 0 } : Room)) (fun a U => a = #[(.int p0), (.int p1)] ∧ Z.Warmed39 U.vm ∧ U.heap = h0) (fun _ _ _ _ _ => True) (fun _ U o U' => ∃ v L, o = .returned v ∧ Q_rm19 Z wV wI wC wF sI tI sC tC sF tF k_wV k_tI k_tC k_tF zC fm p0 p1 h0 n0 v U'.heap L ∧ FrameEnd U o U' L ({ frames := 0, cells := 0, slots := 0, locals := 0 } : Room).cells ({ frames := 0, cells := 0, slots := 0, locals := 0 } : Room).slots) := by
  refine MetFree.of_bodySF (Jvm.Free.JP.mathPlain rfl (by decide +kernel)) hisR ?_
  intro p e s m args below meth c s₁ Bd hml0 hP hK
  obtain ⟨rfl, hZ, hh⟩ := hP
  have hx := Bd.exec
  have hby := Bd.bytes
  have hml : c.maxLocals = 2 := hml0
  have hown : s.vm.findClass "java/lang/Math" = some m.cls := findClass_of_methodNamed Bd.named
  have hnm := (name_of_methodNamed Bd.named Bd.method).1
  have X0 : Stand p l e ({ frames := 0, cells := 0, slots := 0, locals := 0 } : Room) s m #[(.int p0), (.int p1)] below meth c s₁ [] 0 0 := Stand.of_body Bd
  have e0 : s₁.heap = h0 := by rw [← hh, Bd.state]; rfl
  have N0 := Fr.nil n0
  have K0 := Keep.refl h0 ([] : List Addr)
  have G_ := G
  obtain ⟨S_RowState_VALUES, E_wV, S_RowState_IN_PROGRESS, E_wI, S_RowState_COMPLETED, E_wC, S_RowState_FAILED, E_wF, F_text_wI, E_sI, F_value_sI, F_text_wC, E_sC, F_value_sC, F_text_wF, E_sF, F_value_sF, F_coder_sI, F_coder_sC, F_coder_sF, V_wV, V_tI, V_tC, V_tF, S_String_COMPACT_STRINGS, hzC, S_Preconditions_SIOOBE_FORMATTER, hfm, Sx_sI, Sx_sC, Sx_sF, G_end⟩ := G_
  change own_Go p e below _ _
  refine own_go (B := s₁.setTop (mkF m 0 #[.val (.int p0), .val (.int p1)] [])) (fun _ k => castTop (ef_rm19 m p0 p1) k) ?_
  refine own_go (B := s₁.setTop (mkF m 1 #[.val (.int p0), .val (.int p1)] [(.int p0)])) (fun _ k => XS.iloadN X0.here hx rfl (hb hby d19_0) rfl k) ?_
  refine own_go (B := s₁.setTop (mkF m 2 #[.val (.int p0), .val (.int p1)] [(.int p1), (.int p0)])) (fun _ k => XS.iloadN X0.here hx rfl (hb hby d19_1) rfl k) ?_
  by_cases hc2 : p0 < p1
  · refine own_go (B := s₁.setTop (mkF m 9 #[.val (.int p0), .val (.int p1)] [])) (fun _ k => XS.icmpYes X0.here hx rfl (pc0 := 2) (pc' := 9) rfl (hb hby d19_2) rfl (tlt hc2).1 (by decide) (by decide) k) ?_
    refine own_go (B := s₁.setTop (mkF m 10 #[.val (.int p0), .val (.int p1)] [(.int p1)])) (fun _ k => XS.iloadN X0.here hx rfl (hb hby d19_9) rfl k) ?_
    obtain ⟨fs, hr, hrun, hended, hW, hsame⟩ := X0.leave (v := some (.int p1)) (fun h => by rw [Bd.returns] at h; cases h)
    refine ⟨_, _, retI X0 hx Bd.returns (hb hby d19_10) hr, hrun, hended, _, _, rfl, ?_, ⟨_, rfl⟩, hW, hsame.mono (by decide) (by decide)⟩
    show Q_rm19 Z wV wI wC wF sI tI sC tC sF tF k_wV k_tI k_tC k_tF zC fm p0 p1 h0 n0 _ s₁.heap _
    rw [e0]
    exact ⟨(by simp [own_max, hc2]), N0, rfl⟩
  · refine own_go (B := s₁.setTop (mkF m 5 #[.val (.int p0), .val (.int p1)] [])) (fun _ k => XS.icmpNo X0.here hx rfl (hb hby d19_2) rfl (flt hc2).1 k) ?_
    refine own_go (B := s₁.setTop (mkF m 6 #[.val (.int p0), .val (.int p1)] [(.int p0)])) (fun _ k => XS.iloadN X0.here hx rfl (hb hby d19_5) rfl k) ?_
    refine own_go (B := s₁.setTop (mkF m 10 #[.val (.int p0), .val (.int p1)] [(.int p0)])) (fun _ k => XS.goto X0.here hx rfl (pc0 := 6) (pc' := 10) rfl (hb hby d19_6) (by decide) (by decide) k) ?_
    obtain ⟨fs, hr, hrun, hended, hW, hsame⟩ := X0.leave (v := some (.int p0)) (fun h => by rw [Bd.returns] at h; cases h)
    refine ⟨_, _, retI X0 hx Bd.returns (hb hby d19_10) hr, hrun, hended, _, _, rfl, ?_, ⟨_, rfl⟩, hW, hsame.mono (by decide) (by decide)⟩
    show Q_rm19 Z wV wI wC wF sI tI sC tC sF tF k_wV k_tI k_tC k_tF zC fm p0 p1 h0 n0 _ s₁.heap _
    rw [e0]
    exact ⟨(by simp [own_max, hc2]), N0, rfl⟩
theorem pd_3 : parseMethodDescriptor "()I" = some ⟨[], some .int⟩ := by decide +kernel
theorem pd_4 : parseMethodDescriptor "(I)C" = some ⟨[.int], some .char⟩ := by decide +kernel
theorem d10_0 : decode method_2_code 0 = .ok (.iload_n 1, 1) := by decide +kernel
theorem d10_1 : decode method_2_code 1 = .ok (.iload_n 2, 1) := by decide +kernel
theorem d10_2 : decode method_2_code 2 = .ok (.if_icmp .ne 10, 3) := by decide +kernel
theorem d10_5 : decode method_2_code 5 = .ok (.iload_n 3, 1) := by decide +kernel
theorem d10_6 : decode method_2_code 6 = .ok (.sipush 255, 3) := by decide +kernel
theorem d10_9 : decode method_2_code 9 = .ok (.iand, 1) := by decide +kernel
theorem d10_10 : decode method_2_code 10 = .ok (.i2c, 1) := by decide +kernel
theorem d10_11 : decode method_2_code 11 = .ok (.ireturn, 1) := by decide +kernel
theorem d10_12 : decode method_2_code 12 = .ok (.iload_n 1, 1) := by decide +kernel
theorem d10_13 : decode method_2_code 13 = .ok (.aload_n 0, 1) := by decide +kernel
theorem d10_14 : decode method_2_code 14 = .ok (.invokevirtual 7, 3) := by decide +kernel
theorem d10_17 : decode method_2_code 17 = .ok (.if_icmp .ge 9, 3) := by decide +kernel
theorem d10_20 : decode method_2_code 20 = .ok (.aload_n 0, 1) := by decide +kernel
theorem d10_21 : decode method_2_code 21 = .ok (.iload_n 1, 1) := by decide +kernel
theorem d10_22 : decode method_2_code 22 = .ok (.invokevirtual 13, 3) := by decide +kernel
theorem d10_25 : decode method_2_code 25 = .ok (.ireturn, 1) := by decide +kernel
theorem d10_26 : decode method_2_code 26 = .ok (.iload_n 3, 1) := by decide +kernel
theorem d10_27 : decode method_2_code 27 = .ok (.sipush 255, 3) := by decide +kernel
theorem d10_30 : decode method_2_code 30 = .ok (.iand, 1) := by decide +kernel
theorem d10_31 : decode method_2_code 31 = .ok (.i2c, 1) := by decide +kernel
theorem d10_32 : decode method_2_code 32 = .ok (.ireturn, 1) := by decide +kernel
theorem pn_10 : plainName "com/example/void_repeat/voidrepeat/jdbc/RowStateOfPinLaw" = true := by first | (simp [plainName, overriddenIn]; done) | decide +kernel
theorem ef_rm10 (m : MethodId) (a1 : Addr) (p2 : Int32) (p3 : Int32) : entryFrame m #[(.ref a1), (.int (Int32.ofNat i)), (.int p2), (.int p3)] 4 = mkF m 0 #[.val (.ref a1), .val (.int (Int32.ofNat i)), .val (.int p2), .val (.int p3)] [] := by first | (simp [entryFrame, mkF, argsToLocals, Value.category]; done) | rfl
def Q_rm10 (Z : State) (wV : Addr) (wI : Addr) (wC : Addr) (wF : Addr) (sI : Addr) (tI : Addr) (sC : Addr) (tC : Addr) (sF : Addr) (tF : Addr) (k_wV : ClassId) (k_tI : ClassId) (k_tC : ClassId) (k_tF : ClassId) (zC : Int32) (fm : Value) (a1 : Addr) (cs : List Int32) (i : Nat) (p2 : Int32) (p3 : Int32) (h0 : Heap) (n0 : Nat) (v : Option Value) (h : Heap) (L : List Loc) : Prop := v = some (.int (own_at cs i p2 p3)) ∧ Fr n0 L ∧ h = h0
set_option maxRecDepth 65536 in
set_option maxHeartbeats 40000000 in
theorem rm10 (l : Launch) (Z : State) (a0 : Array Value) (hw : ∀ d ∈ tables_1, d.before a0 Z = true) (ws : List Jvm.Cond) (wV : Addr) (wI : Addr) (wC : Addr) (wF : Addr) (sI : Addr) (tI : Addr) (sC : Addr) (tC : Addr) (sF : Addr) (tF : Addr) (k_wV : ClassId) (k_tI : ClassId) (k_tC : ClassId) (k_tF : ClassId) (zC : Int32) (fm : Value) (G : own_G Z wV wI wC wF sI tI sC tC sF tF k_wV k_tI k_tC k_tF zC fm) (a1 : Addr) (cs : List Int32) (i : Nat) (p2 : Int32) (p3 : Int32) (h0 : Heap) (n0 : Nat) (Z0 : n0 ≤ h0.size) (O0 : Old Z n0 h0) (Sa : own_Str Z h0 a1 cs) (hi : i < 4000) :
    MetFree l (⟨"com/example/void_repeat/voidrepeat/jdbc/RowStateOfPinLaw", "at", "(Ljava/lang/String;III)C"⟩ : MethodName) (head1 (Jvm.Cond.code (⟨"com/example/void_repeat/voidrepeat/jdbc/RowStateOfPinLaw", "at", "(Ljava/lang/String;III)C"⟩ : MethodName) method_2_code 4 (some .char) :: ws) ({ frames := 4, cells := 0, slots := 0, locals := 53 } : Room)) (fun a U => a = #[(.ref a1), (.int (Int32.ofNat i)), (.int p2), (.int p3)] ∧ Z.Warmed39 U.vm ∧ U.heap = h0) (fun _ _ _ _ _ => True) (fun _ U o U' => ∃ v L, o = .returned v ∧ Q_rm10 Z wV wI wC wF sI tI sC tC sF tF k_wV k_tI k_tC k_tF zC fm a1 cs i p2 p3 h0 n0 v U'.heap L ∧ FrameEnd U o U' L ({ frames := 4, cells := 0, slots := 0, locals := 53 } : Room).cells ({ frames := 4, cells := 0, slots := 0, locals := 53 } : Room).slots) := by
  refine MetFree.of_bodySF (plainFor_of_name pn_10) hisR ?_
  intro p e s m args below meth c s₁ Bd hml0 hP hK
  obtain ⟨rfl, hZ, hh⟩ := hP
  have hx := Bd.exec
  have hby := Bd.bytes
  have hml : c.maxLocals = 4 := hml0
  have hown : s.vm.findClass "com/example/void_repeat/voidrepeat/jdbc/RowStateOfPinLaw" = some m.cls := findClass_of_methodNamed Bd.named
  have hnm := (name_of_methodNamed Bd.named Bd.method).1
  have X0 : Stand p l e ({ frames := 4, cells := 0, slots := 0, locals := 53 } : Room) s m #[(.ref a1), (.int (Int32.ofNat i)), (.int p2), (.int p3)] below meth c s₁ [] 0 0 := Stand.of_body Bd
  have e0 : s₁.heap = h0 := by rw [← hh, Bd.state]; rfl
  have N0 := Fr.nil n0
  have K0 := Keep.refl h0 ([] : List Addr)
  have G_ := G
  obtain ⟨S_RowState_VALUES, E_wV, S_RowState_IN_PROGRESS, E_wI, S_RowState_COMPLETED, E_wC, S_RowState_FAILED, E_wF, F_text_wI, E_sI, F_value_sI, F_text_wC, E_sC, F_value_sC, F_text_wF, E_sF, F_value_sF, F_coder_sI, F_coder_sC, F_coder_sF, V_wV, V_tI, V_tC, V_tF, S_String_COMPACT_STRINGS, hzC, S_Preconditions_SIOOBE_FORMATTER, hfm, Sx_sI, Sx_sC, Sx_sF, G_end⟩ := G_
  change own_Go p e below _ _
  refine own_go (B := s₁.setTop (mkF m 0 #[.val (.ref a1), .val (.int (Int32.ofNat i)), .val (.int p2), .val (.int p3)] [])) (fun _ k => castTop (ef_rm10 m a1 p2 p3) k) ?_
  obtain ⟨t101, kb101, Nb101, vs101, Es101, Fv101, Fc101, Vb101, cd101, rg101, ln101⟩ := Sa
  refine own_go (B := s₁.setTop (mkF m 1 #[.val (.ref a1), .val (.int (Int32.ofNat i)), .val (.int p2), .val (.int p3)] [(.int (Int32.ofNat i))])) (fun _ k => XS.iloadN X0.here hx rfl (hb hby d10_0) rfl k) ?_
  refine own_go (B := s₁.setTop (mkF m 2 #[.val (.ref a1), .val (.int (Int32.ofNat i)), .val (.int p2), .val (.int p3)] [(.int p2), (.int (Int32.ofNat i))])) (fun _ k => XS.iloadN X0.here hx rfl (hb hby d10_1) rfl k) ?_
  by_cases hc2 : (Int32.ofNat i) = p2
  · refine own_go (B := s₁.setTop (mkF m 5 #[.val (.ref a1), .val (.int (Int32.ofNat i)), .val (.int p2), .val (.int p3)] [])) (fun _ k => XS.icmpNo X0.here hx rfl (hb hby d10_2) rfl (teq hc2).2 k) ?_
    refine own_go (B := s₁.setTop (mkF m 6 #[.val (.ref a1), .val (.int (Int32.ofNat i)), .val (.int p2), .val (.int p3)] [(.int p3)])) (fun _ k => XS.iloadN X0.here hx rfl (hb hby d10_5) rfl k) ?_
    refine own_go (B := s₁.setTop (mkF m 9 #[.val (.ref a1), .val (.int (Int32.ofNat i)), .val (.int p2), .val (.int p3)] [(.int (255 : Int32)), (.int p3)])) (fun _ k => XS.sipush X0.here hx rfl (hb hby d10_6) k) ?_
    refine own_go (B := s₁.setTop (mkF m 10 #[.val (.ref a1), .val (.int (Int32.ofNat i)), .val (.int p2), .val (.int p3)] [(.int (p3 &&& (255 : Int32)))])) (fun _ k => XS.iand X0.here hx rfl (hb hby d10_9) rfl k) ?_
    refine own_go (B := s₁.setTop (mkF m 11 #[.val (.ref a1), .val (.int (Int32.ofNat i)), .val (.int p2), .val (.int p3)] [(.int ((p3 &&& (255 : Int32)).toUInt32.toUInt16.toUInt32.toInt32))])) (fun _ k => XS.i2c X0.here hx rfl (hb hby d10_10) rfl k) ?_
    obtain ⟨fs, hr, hrun, hended, hW, hsame⟩ := X0.leave (v := some (.int (nar .char ((p3 &&& (255 : Int32)).toUInt32.toUInt16.toUInt32.toInt32)))) (fun h => by rw [Bd.returns] at h; cases h)
    refine ⟨_, _, retN X0 hx (t := .char) Bd.returns (by simp) (hb hby d10_11) hr, hrun, hended, _, _, rfl, ?_, ⟨_, rfl⟩, hW, hsame.mono (by decide) (by decide)⟩
    show Q_rm10 Z wV wI wC wF sI tI sC tC sF tF k_wV k_tI k_tC k_tF zC fm a1 cs i p2 p3 h0 n0 _ s₁.heap _
    rw [e0]
    exact ⟨(by rw [own_i2c, own_nar (own_m255 _)]; simp [own_at, hc2]), N0, rfl⟩
  · refine own_go (B := s₁.setTop (mkF m 12 #[.val (.ref a1), .val (.int (Int32.ofNat i)), .val (.int p2), .val (.int p3)] [])) (fun _ k => XS.icmpYes X0.here hx rfl (pc0 := 2) (pc' := 12) rfl (hb hby d10_2) rfl (feq hc2).2 (by decide) (by decide) k) ?_
    refine own_go (B := s₁.setTop (mkF m 13 #[.val (.ref a1), .val (.int (Int32.ofNat i)), .val (.int p2), .val (.int p3)] [(.int (Int32.ofNat i))])) (fun _ k => XS.iloadN X0.here hx rfl (hb hby d10_12) rfl k) ?_
    refine own_go (B := s₁.setTop (mkF m 14 #[.val (.ref a1), .val (.int (Int32.ofNat i)), .val (.int p2), .val (.int p3)] [(.ref a1), (.int (Int32.ofNat i))])) (fun _ k => XS.aloadN X0.here hx rfl (hb hby d10_13) rfl rfl k) ?_
    obtain ⟨cq102, kq102, q102a, q102b, q102c⟩ := isOf hZ e0 Es101
    obtain ⟨_, _, ⟨T102, L102, k102, n102⟩, -, X102, ⟨Lc102, hQ102, l102, y102, z102⟩, st102⟩ := X0.virtualBack hx (y := (⟨"java/lang/String", "length", "()I"⟩ : MethodName)) (z := (⟨"java/lang/String", "length", "()I"⟩ : MethodName)) hown (mvT hZ (hw _ (List.mem_of_getElem? (i := 9) rfl))) (mvT hZ (hw _ (List.mem_of_getElem? (i := 10) rfl))) (notFace_of_selects (args := #[]) (mvT hZ (hw _ (List.mem_of_getElem? (i := 12) rfl)))) (mvT hZ (hw _ (List.mem_of_getElem? (i := 12) rfl))) (mvT hZ (hw _ (List.mem_of_getElem? (i := 11) rfl))) (by decide) (own_lenW (W := 1) hZ hw n0 (⟨t101, kb101, Nb101, vs101, Es101, Fv101, Fc101, Vb101, cd101, rg101, ln101⟩ : own_Str Z h0 a1 cs) (S_String_COMPACT_STRINGS.ext O0.2) hzC (by decide) (by decide)) q102a q102c (g := (mkF m 14 #[.val (.ref a1), .val (.int (Int32.ofNat i)), .val (.int p2), .val (.int p3)] [(.ref a1), (.int (Int32.ofNat i))])) rfl (by rw [hml]; rfl) (Steps.refl _) (argsL := []) (rest := [(.int (Int32.ofNat i))]) (lenOf pd_3 rfl) rfl (by show 2 * 0 + _ ≤ _; exact Nat.le_of_eq rfl) (hb hby d10_14) (fun _ _ => ⟨rfl, e0, (by decide : 0 + 0 ≤ 0), (by decide : 0 + 0 ≤ 0)⟩)
    dsimp only [Pt.U, Pt.locs, Pt.cells, Pt.slots] at X102 l102 y102 z102 st102 hQ102
    subst l102 y102 z102
    obtain ⟨rfl, N102q, K102⟩ := hQ102
    have N102 := Fr.app N0 N102q
    have e102 : T102.heap = h0 := K102
    refine own_go (B := T102.setTop (mkF m 17 #[.val (.ref a1), .val (.int (Int32.ofNat i)), .val (.int p2), .val (.int p3)] [(.int (Int32.ofNat (cs).length)), (.int (Int32.ofNat i))])) (fun _ k => st102.trans k) ?_
    by_cases hc17 : (Int32.ofNat i) < (Int32.ofNat (cs).length)
    · refine own_go (B := T102.setTop (mkF m 20 #[.val (.ref a1), .val (.int (Int32.ofNat i)), .val (.int p2), .val (.int p3)] [])) (fun _ k => XS.icmpNo X102.here hx rfl (hb hby d10_17) rfl (tlt hc17).2.1 k) ?_
      have hc17' : i < (cs).length := (own_of32 hi ln101).mp hc17
      refine own_go (B := T102.setTop (mkF m 21 #[.val (.ref a1), .val (.int (Int32.ofNat i)), .val (.int p2), .val (.int p3)] [(.ref a1)])) (fun _ k => XS.aloadN X102.here hx rfl (hb hby d10_20) rfl rfl k) ?_
      refine own_go (B := T102.setTop (mkF m 22 #[.val (.ref a1), .val (.int (Int32.ofNat i)), .val (.int p2), .val (.int p3)] [(.int (Int32.ofNat i)), (.ref a1)])) (fun _ k => XS.iloadN X102.here hx rfl (hb hby d10_21) rfl k) ?_
      obtain ⟨cq103, kq103, q103a, q103b, q103c⟩ := isOf hZ e102 Es101
      obtain ⟨_, _, ⟨T103, L103, k103, n103⟩, -, X103, ⟨Lc103, hQ103, l103, y103, z103⟩, st103⟩ := X102.virtualBack hx (y := (⟨"java/lang/String", "charAt", "(I)C"⟩ : MethodName)) (z := (⟨"java/lang/String", "charAt", "(I)C"⟩ : MethodName)) hown (mvT hZ (hw _ (List.mem_of_getElem? (i := 76) rfl))) (mvT hZ (hw _ (List.mem_of_getElem? (i := 77) rfl))) (notFace_of_selects (args := #[]) (mvT hZ (hw _ (List.mem_of_getElem? (i := 79) rfl)))) (mvT hZ (hw _ (List.mem_of_getElem? (i := 79) rfl))) (mvT hZ (hw _ (List.mem_of_getElem? (i := 78) rfl))) (by decide) (own_chN (W := 0) hZ hw n0 i (⟨t101, kb101, Nb101, vs101, Es101, Fv101, Fc101, Vb101, cd101, rg101, ln101⟩ : own_Str Z h0 a1 cs) (S_String_COMPACT_STRINGS.ext O0.2) hzC (S_Preconditions_SIOOBE_FORMATTER.ext O0.2) hfm hc17' rfl (by decide) (by decide)) q103a q103c (g := (mkF m 22 #[.val (.ref a1), .val (.int (Int32.ofNat i)), .val (.int p2), .val (.int p3)] [(.int (Int32.ofNat i)), (.ref a1)])) rfl (by rw [hml]; rfl) (Steps.refl _) (argsL := [(.int (Int32.ofNat i))]) (rest := []) (lenOf pd_4 rfl) rfl (by show 2 * 0 + _ ≤ _; exact Nat.le_of_eq rfl) (hb hby d10_22) (fun _ _ => ⟨rfl, e102, (by decide : 0 + 0 ≤ 0), (by decide : 0 + 0 ≤ 0)⟩)
      dsimp only [Pt.U, Pt.locs, Pt.cells, Pt.slots] at X103 l103 y103 z103 st103 hQ103
      subst l103 y103 z103
      obtain ⟨rfl, N103q, K103⟩ := hQ103
      have N103 := Fr.app N102 N103q
      have e103 : T103.heap = h0 := K103
      refine own_go (B := T103.setTop (mkF m 25 #[.val (.ref a1), .val (.int (Int32.ofNat i)), .val (.int p2), .val (.int p3)] [(.int ((cs).getD i 0))])) (fun _ k => st103.trans k) ?_
      obtain ⟨fs, hr, hrun, hended, hW, hsame⟩ := X103.leave (v := some (.int (nar .char ((cs).getD i 0)))) (fun h => by rw [Bd.returns] at h; cases h)
      refine ⟨_, _, retN X103 hx (t := .char) Bd.returns (by simp) (hb hby d10_25) hr, hrun, hended, _, _, rfl, ?_, ⟨_, rfl⟩, hW, hsame.mono (by decide) (by decide)⟩
      show Q_rm10 Z wV wI wC wF sI tI sC tC sF tF k_wV k_tI k_tC k_tF zC fm a1 cs i p2 p3 h0 n0 _ T103.heap _
      rw [e103]
      exact ⟨(by rw [own_nar (own_gd rg101 hc17')]; simp [own_at, hc2, hc17']), N103, rfl⟩
    · refine own_go (B := T102.setTop (mkF m 26 #[.val (.ref a1), .val (.int (Int32.ofNat i)), .val (.int p2), .val (.int p3)] [])) (fun _ k => XS.icmpYes X102.here hx rfl (pc0 := 17) (pc' := 26) rfl (hb hby d10_17) rfl (flt hc17).2.1 (by decide) (by decide) k) ?_
      have hc17' : ¬ i < (cs).length := fun q => hc17 ((own_of32 hi ln101).mpr q)
      refine own_go (B := T102.setTop (mkF m 27 #[.val (.ref a1), .val (.int (Int32.ofNat i)), .val (.int p2), .val (.int p3)] [(.int p3)])) (fun _ k => XS.iloadN X102.here hx rfl (hb hby d10_26) rfl k) ?_
      refine own_go (B := T102.setTop (mkF m 30 #[.val (.ref a1), .val (.int (Int32.ofNat i)), .val (.int p2), .val (.int p3)] [(.int (255 : Int32)), (.int p3)])) (fun _ k => XS.sipush X102.here hx rfl (hb hby d10_27) k) ?_
      refine own_go (B := T102.setTop (mkF m 31 #[.val (.ref a1), .val (.int (Int32.ofNat i)), .val (.int p2), .val (.int p3)] [(.int (p3 &&& (255 : Int32)))])) (fun _ k => XS.iand X102.here hx rfl (hb hby d10_30) rfl k) ?_
      refine own_go (B := T102.setTop (mkF m 32 #[.val (.ref a1), .val (.int (Int32.ofNat i)), .val (.int p2), .val (.int p3)] [(.int ((p3 &&& (255 : Int32)).toUInt32.toUInt16.toUInt32.toInt32))])) (fun _ k => XS.i2c X102.here hx rfl (hb hby d10_31) rfl k) ?_
      obtain ⟨fs, hr, hrun, hended, hW, hsame⟩ := X102.leave (v := some (.int (nar .char ((p3 &&& (255 : Int32)).toUInt32.toUInt16.toUInt32.toInt32)))) (fun h => by rw [Bd.returns] at h; cases h)
      refine ⟨_, _, retN X102 hx (t := .char) Bd.returns (by simp) (hb hby d10_32) hr, hrun, hended, _, _, rfl, ?_, ⟨_, rfl⟩, hW, hsame.mono (by decide) (by decide)⟩
      show Q_rm10 Z wV wI wC wF sI tI sC tC sF tF k_wV k_tI k_tC k_tF zC fm a1 cs i p2 p3 h0 n0 _ T102.heap _
      rw [e102]
      exact ⟨(by rw [own_i2c, own_nar (own_m255 _)]; simp [own_at, hc2, hc17']), N102, rfl⟩
theorem pd_5 : parseMethodDescriptor "(Ljava/lang/String;)Lcom/example/void_repeat/voidrepeat/jdbc/RowState;" = some ⟨[(.object "java/lang/String")], some (.object "com/example/void_repeat/voidrepeat/jdbc/RowState")⟩ := by decide +kernel
theorem pd_6 : parseMethodDescriptor "([C)V" = some ⟨[(.array .char)], none⟩ := by decide +kernel
theorem pd_7 : parseMethodDescriptor "(Ljava/lang/String;III)C" = some ⟨[(.object "java/lang/String"), .int, .int, .int], some .char⟩ := by decide +kernel
theorem pd_8 : parseMethodDescriptor "(II)I" = some ⟨[.int, .int], some .int⟩ := by decide +kernel
theorem ef_rm0 (m : MethodId) (p0 : Int32) (p1 : Int32) (p2 : Int32) (p3 : Int32) : entryFrame m #[(.int p0), (.int p1), (.int p2), (.int p3)] maxLocals = mkF m 0 #[.val (.int p0), .val (.int p1), .val (.int p2), .val (.int p3), .unset, .unset, .unset, .unset, .unset, .unset, .unset, .unset, .unset] [] := by first | (simp [entryFrame, mkF, argsToLocals, Value.category, maxLocals]; done) | rfl
def Q_rm0 (Z : State) (wV : Addr) (wI : Addr) (wC : Addr) (wF : Addr) (sI : Addr) (tI : Addr) (sC : Addr) (tC : Addr) (sF : Addr) (tF : Addr) (k_wV : ClassId) (k_tI : ClassId) (k_tC : ClassId) (k_tF : ClassId) (zC : Int32) (fm : Value) (p0 : Int32) (p1 : Int32) (p2 : Int32) (p3 : Int32) (h0 : Heap) (n0 : Nat) (v : Option Value) (h : Heap) (L : List Loc) : Prop := v = some (.int (1 : Int32)) ∧ Fr n0 L
set_option maxRecDepth 65536 in
set_option maxHeartbeats 40000000 in
theorem rm0 (l : Launch) (Z : State) (a0 : Array Value) (hw : ∀ d ∈ tables_1, d.before a0 Z = true) (ws : List Jvm.Cond) (wV : Addr) (wI : Addr) (wC : Addr) (wF : Addr) (sI : Addr) (tI : Addr) (sC : Addr) (tC : Addr) (sF : Addr) (tF : Addr) (k_wV : ClassId) (k_tI : ClassId) (k_tC : ClassId) (k_tF : ClassId) (zC : Int32) (fm : Value) (G : own_G Z wV wI wC wF sI tI sC tC sF tF k_wV k_tI k_tC k_tF zC fm) (p0 : Int32) (p1 : Int32) (p2 : Int32) (p3 : Int32) (h0 : Heap) (n0 : Nat) (Z0 : n0 ≤ h0.size) (O0 : Old Z n0 h0) :
    MetFree l x (head1 (Jvm.Cond.code x code maxLocals ret :: ws) room_1) (fun a U => a = #[(.int p0), (.int p1), (.int p2), (.int p3)] ∧ Z.Warmed39 U.vm ∧ U.heap = h0 ∧ CHv Z own_EL U.vm h0 ∧ ∀ x ∈ ([] : List Addr), Safe Z own_EL U.vm h0 x) (fun _ _ _ _ _ => True) (fun _ U o U' => ∃ v L, o = .returned v ∧ Q_rm0 Z wV wI wC wF sI tI sC tC sF tF k_wV k_tI k_tC k_tF zC fm p0 p1 p2 p3 h0 n0 v U'.heap L ∧ CHr Z own_EL U.vm U.heap U'.vm U'.heap ∧ ReturnedEndW U o U' L room_1.cells room_1.slots) := by
  refine MetFree.of_bodySF (plainFor_of_name pn_10) hisR ?_
  intro p e s m args below meth c s₁ Bd hml0 hP hK
  obtain ⟨rfl, hZ, hh, CH0, SL0⟩ := hP
  have hx := Bd.exec
  have hby := Bd.bytes
  have hml : c.maxLocals = 13 := hml0
  have hown : s.vm.findClass "com/example/void_repeat/voidrepeat/jdbc/RowStateOfPinLaw" = some m.cls := findClass_of_methodNamed Bd.named
  have hnm := (name_of_methodNamed Bd.named Bd.method).1
  have X0 : Stand p l e room_1 s m #[(.int p0), (.int p1), (.int p2), (.int p3)] below meth c s₁ [] 0 0 := Stand.of_body Bd
  have e0 : s₁.heap = h0 := by rw [← hh, Bd.state]; rfl
  have N0 := Fr.nil n0
  have K0 := Keep.refl h0 ([] : List Addr)
  have S0 : s.Since s.vm 0 := (State.WarmedH.refl s).since 0
  have CR0 := CHr.refl CH0
  have hEL := own_EW hw
  have wS := own_wS hw
  have G_ := G
  obtain ⟨S_RowState_VALUES, E_wV, S_RowState_IN_PROGRESS, E_wI, S_RowState_COMPLETED, E_wC, S_RowState_FAILED, E_wF, F_text_wI, E_sI, F_value_sI, F_text_wC, E_sC, F_value_sC, F_text_wF, E_sF, F_value_sF, F_coder_sI, F_coder_sC, F_coder_sF, V_wV, V_tI, V_tC, V_tF, S_String_COMPACT_STRINGS, hzC, S_Preconditions_SIOOBE_FORMATTER, hfm, Sx_sI, Sx_sC, Sx_sF, G_end⟩ := G_
  change own_Go p e below _ _
  refine own_go (B := s₁.setTop (mkF m 0 #[.val (.int p0), .val (.int p1), .val (.int p2), .val (.int p3), .unset, .unset, .unset, .unset, .unset, .unset, .unset, .unset, .unset] [])) (fun _ k => castTop (ef_rm0 m p0 p1 p2 p3) k) ?_
  refine own_go (B := s₁.setTop (mkF m 1 #[.val (.int p0), .val (.int p1), .val (.int p2), .val (.int p3), .unset, .unset, .unset, .unset, .unset, .unset, .unset, .unset, .unset] [(.int p0)])) (fun _ k => XS.iloadN X0.here hx rfl (hb hby at_0) rfl k) ?_
  refine own_go (B := s₁.setTop (mkF m 3 #[.val (.int p0), .val (.int p1), .val (.int p2), .val (.int p3), .unset, .unset, .unset, .unset, .unset, .unset, .unset, .unset, .unset] [(.int (2147483647 : Int32)), (.int p0)])) (X0.ldcInt hx hown (mvT hZ (hw _ (List.mem_of_getElem? (i := 0) rfl))) (g := (mkF m 1 #[.val (.int p0), .val (.int p1), .val (.int p2), .val (.int p3), .unset, .unset, .unset, .unset, .unset, .unset, .unset, .unset, .unset] [(.int p0)])) rfl (hb hby at_1)) ?_
  refine own_go (B := s₁.setTop (mkF m 4 #[.val (.int p0), .val (.int p1), .val (.int p2), .val (.int p3), .unset, .unset, .unset, .unset, .unset, .unset, .unset, .unset, .unset] [(.int (p0 &&& (2147483647 : Int32)))])) (fun _ k => XS.iand X0.here hx rfl (hb hby at_3) rfl k) ?_
  refine own_go (B := s₁.setTop (mkF m 5 #[.val (.int p0), .val (.int p1), .val (.int p2), .val (.int p3), .unset, .unset, .unset, .unset, .unset, .unset, .unset, .unset, .unset] [(.int (5 : Int32)), (.int (p0 &&& (2147483647 : Int32)))])) (fun _ k => XS.iconst X0.here hx rfl (hb hby at_4) k) ?_
  refine own_go (B := s₁.setTop (mkF m 6 #[.val (.int p0), .val (.int p1), .val (.int p2), .val (.int p3), .unset, .unset, .unset, .unset, .unset, .unset, .unset, .unset, .unset] [(.int ((p0 &&& (2147483647 : Int32)) - ((p0 &&& (2147483647 : Int32)) / (5 : Int32)) * (5 : Int32)))])) (fun _ k => XS.irem X0.here hx rfl (hb hby at_5) rfl (by decide) k) ?_
  rw [irem_eq_mod (p0 &&& (2147483647 : Int32)) (5 : Int32)]
  generalize hv6 : ((p0 &&& (2147483647 : Int32)) % (5 : Int32)) = v6
  refine own_go (B := s₁.setTop (mkF m 8 #[.val (.int p0), .val (.int p1), .val (.int p2), .val (.int p3), .val (.int v6), .unset, .unset, .unset, .unset, .unset, .unset, .unset, .unset] [])) (fun _ k => XS.istore X0.here hx rfl (hb hby at_6) rfl (l' := #[.val (.int p0), .val (.int p1), .val (.int p2), .val (.int p3), .val (.int v6), .unset, .unset, .unset, .unset, .unset, .unset, .unset, .unset]) rfl k) ?_
  refine own_go (B := s₁.setTop (mkF m 10 #[.val (.int p0), .val (.int p1), .val (.int p2), .val (.int p3), .val (.int v6), .unset, .unset, .unset, .unset, .unset, .unset, .unset, .unset] [(.int v6)])) (fun _ k => XS.iload X0.here hx rfl (hb hby at_8) rfl k) ?_
  refine own_go (B := s₁.setTop (mkF m 11 #[.val (.int p0), .val (.int p1), .val (.int p2), .val (.int p3), .val (.int v6), .unset, .unset, .unset, .unset, .unset, .unset, .unset, .unset] [(.int (4 : Int32)), (.int v6)])) (fun _ k => XS.iconst X0.here hx rfl (hb hby at_10) k) ?_
  by_cases hc11 : v6 = (4 : Int32)
  · refine own_go (B := s₁.setTop (mkF m 14 #[.val (.int p0), .val (.int p1), .val (.int p2), .val (.int p3), .val (.int v6), .unset, .unset, .unset, .unset, .unset, .unset, .unset, .unset] [])) (fun _ k => XS.icmpNo X0.here hx rfl (hb hby at_11) rfl (teq hc11).2 k) ?_
    refine own_go (B := s₁.setTop (mkF m 15 #[.val (.int p0), .val (.int p1), .val (.int p2), .val (.int p3), .val (.int v6), .unset, .unset, .unset, .unset, .unset, .unset, .unset, .unset] [.null])) (fun _ k => XS.aconstNull X0.here hx rfl (hb hby at_14) k) ?_
    obtain ⟨_, _, ⟨T101, L101, k101, n101⟩, -, X101, ⟨Lc101, hQ101, l101, y101, z101⟩, st101⟩ := Jvm.LawKit.callS X0 hx (y := (⟨"com/example/void_repeat/voidrepeat/jdbc/RowState", "of", "(Ljava/lang/String;)Lcom/example/void_repeat/voidrepeat/jdbc/RowState;"⟩ : MethodName)) hown (mvT hZ (hw _ (List.mem_of_getElem? (i := 47) rfl))) (mvT hZ (hw _ (List.mem_of_getElem? (i := 48) rfl))) (mvT hZ (hw _ (List.mem_of_getElem? (i := 49) rfl))) (mvT hZ (hw _ (List.mem_of_getElem? (i := 50) rfl))) (by decide) (backOf (W := 0) (rmOfN l Z a0 hw [] wV wI wC wF sI tI sC tC sF tF k_wV k_tI k_tC k_tF zC fm G  h0 n0 (Nat.le_trans Z0 K0.1) O0 ) hZ (hw _ (List.mem_of_getElem? (i := 50) rfl)) (hw _ (List.mem_of_getElem? (i := 49) rfl)) (by decide) (by decide)) (g := (mkF m 15 #[.val (.int p0), .val (.int p1), .val (.int p2), .val (.int p3), .val (.int v6), .unset, .unset, .unset, .unset, .unset, .unset, .unset, .unset] [.null])) rfl (by rw [hml]; rfl) (argsL := [.null]) (rest := []) (lenOf pd_5 rfl) rfl (by show 2 * 0 + _ ≤ _; exact Nat.le_of_eq rfl) (hb hby at_15) (fun _ _ => ⟨rfl, e0, (by decide : 0 + 1 ≤ 32), (by decide : 0 + 3 ≤ 5312)⟩)
    dsimp only [Pt.U, Pt.locs, Pt.cells, Pt.slots] at X101 l101 y101 z101 st101 hQ101
    subst l101 y101 z101
    obtain ⟨rfl, N101q, K101⟩ := hQ101
    have N101 := Fr.app N0 N101q
    have CH101 := CHv.keep K101 sf0 CH0
    have CR101 := CR0.trans (CHr.keep K101 sf0 CH0)
    have O101 := O0.keep K101 all0
    have K101' : Keep h0 T101.heap ([] : List Addr) := K0.trans K101 all0
    refine own_go (B := T101.setTop (mkF m 18 #[.val (.int p0), .val (.int p1), .val (.int p2), .val (.int p3), .val (.int v6), .unset, .unset, .unset, .unset, .unset, .unset, .unset, .unset] [.null])) (st101) ?_
    refine own_go (B := T101.setTop (mkF m 21 #[.val (.int p0), .val (.int p1), .val (.int p2), .val (.int p3), .val (.int v6), .unset, .unset, .unset, .unset, .unset, .unset, .unset, .unset] [])) (fun _ k => XS.ifnonnullNo X101.here hx rfl (hb hby at_18) rfl k) ?_
    refine own_go (B := T101.setTop (mkF m 22 #[.val (.int p0), .val (.int p1), .val (.int p2), .val (.int p3), .val (.int v6), .unset, .unset, .unset, .unset, .unset, .unset, .unset, .unset] [(.int (1 : Int32))])) (fun _ k => XS.iconst X101.here hx rfl (hb hby at_21) k) ?_
    refine own_go (B := T101.setTop (mkF m 26 #[.val (.int p0), .val (.int p1), .val (.int p2), .val (.int p3), .val (.int v6), .unset, .unset, .unset, .unset, .unset, .unset, .unset, .unset] [(.int (1 : Int32))])) (fun _ k => XS.goto X101.here hx rfl (pc0 := 22) (pc' := 26) rfl (hb hby at_22) (by decide) (by decide) k) ?_
    obtain ⟨fs, hr, hrun, hended, hW, hsame⟩ := X101.leave (v := some (.int (nar .boolean (1 : Int32)))) (fun h => by rw [Bd.returns] at h; cases h)
    obtain ⟨en1, en2, en3⟩ := State.Since.ended (s := s) (vm₁ := s.vm) S0 hW (by show _ ≤ T101.heap.size; exact (Nat.zero_le _)) hsame
    have CRe := CR101.trans (CHv.at (s := s) (vm0 := s.vm) X101 hZ hEL CH101)
    have CRf : CHr Z own_EL s.vm s.heap T101.vm T101.heap := by rw [hh]; exact CRe
    refine ⟨_, _, retN X101 hx (t := .boolean) Bd.returns (by simp) (hb hby at_26) hr, hrun, hended, _, _, rfl, ?_, CRf, ⟨_, rfl⟩, en1, en2, en3.mono (by decide) (by decide)⟩
    show Q_rm0 Z wV wI wC wF sI tI sC tC sF tF k_wV k_tI k_tC k_tF zC fm p0 p1 p2 p3 h0 n0 _ T101.heap _
    exact ⟨rfl, N101⟩
  · refine own_go (B := s₁.setTop (mkF m 27 #[.val (.int p0), .val (.int p1), .val (.int p2), .val (.int p3), .val (.int v6), .unset, .unset, .unset, .unset, .unset, .unset, .unset, .unset] [])) (fun _ k => XS.icmpYes X0.here hx rfl (pc0 := 11) (pc' := 27) rfl (hb hby at_11) rfl (feq hc11).2 (by decide) (by decide) k) ?_
    have jn61 : ∀ (hj61 : Heap) (Tj : State) (Lj61 : List Loc) (vm61 : Vm) (Xj : Stand p l e room_1 (s.setVm vm61) m #[(.int p0), (.int p1), (.int p2), (.int p3)] below meth c Tj Lj61 2 48) (ej : Tj.heap = hj61) (Nj61 : Fr n0 Lj61) (Oj61 : Old Z n0 hj61) (Kj61 : Keep h0 hj61 ([] : List Addr)) (kj61 : Nat) (SNj61 : s.Since vm61 kj61) (hZ : Z.Warmed39 (s.setVm vm61).vm) (hown : (s.setVm vm61).vm.findClass "com/example/void_repeat/voidrepeat/jdbc/RowStateOfPinLaw" = some m.cls) (CHj61 : CHv Z own_EL vm61 hj61) (CRj61 : CHr Z own_EL s.vm h0 vm61 hj61) (hkj61 : kj61 ≤ hj61.size) (ab : Addr) (cb : List Int32) (SB : own_Str Z hj61 ab cb) (hcb : cb.length ≤ 11), own_Go p e below (fun o U' => ∃ v L, o = .returned v ∧ Q_rm0 Z wV wI wC wF sI tI sC tC sF tF k_wV k_tI k_tC k_tF zC fm p0 p1 p2 p3 h0 n0 v U'.heap L ∧ CHr Z own_EL s.vm s.heap U'.vm U'.heap ∧ ReturnedEndW s o U' L room_1.cells room_1.slots) (Tj.setTop (mkF m 61 #[.val (.int p0), .val (.int p1), .val (.int p2), .val (.int p3), .val (.int v6), .unset, .unset, .unset, .unset, .unset, .unset, .unset, .unset] [(.ref ab)])) := by
      intro hj61 Tj Lj61 vm61 Xj ej Nj61 Oj61 Kj61 kj61 SNj61 hZ hown CHj61 CRj61 hkj61 ab cb SB hcb
      obtain ⟨t103, kb103, Nb103, vs103, Es103, Fv103, Fc103, Vb103, cd103, rg103, ln103⟩ := SB
      have hcb4 : cb.length ≤ 4000 := by omega
      refine own_go (B := Tj.setTop (mkF m 63 #[.val (.int p0), .val (.int p1), .val (.int p2), .val (.int p3), .val (.int v6), .val (.ref ab), .unset, .unset, .unset, .unset, .unset, .unset, .unset] [])) (fun _ k => XS.astore Xj.here hx rfl (hb hby at_61) rfl rfl (l' := #[.val (.int p0), .val (.int p1), .val (.int p2), .val (.int p3), .val (.int v6), .val (.ref ab), .unset, .unset, .unset, .unset, .unset, .unset, .unset]) rfl k) ?_
      refine own_go (B := Tj.setTop (mkF m 65 #[.val (.int p0), .val (.int p1), .val (.int p2), .val (.int p3), .val (.int v6), .val (.ref ab), .unset, .unset, .unset, .unset, .unset, .unset, .unset] [(.ref ab)])) (fun _ k => XS.aload Xj.here hx rfl (hb hby at_63) rfl rfl k) ?_
      obtain ⟨cq104, kq104, q104a, q104b, q104c⟩ := isOf hZ ej Es103
      obtain ⟨_, _, ⟨T104, L104, k104, n104⟩, -, X104, ⟨Lc104, hQ104, l104, y104, z104⟩, st104⟩ := Xj.virtualBack hx (y := (⟨"java/lang/String", "length", "()I"⟩ : MethodName)) (z := (⟨"java/lang/String", "length", "()I"⟩ : MethodName)) hown (mvT hZ (hw _ (List.mem_of_getElem? (i := 9) rfl))) (mvT hZ (hw _ (List.mem_of_getElem? (i := 10) rfl))) (notFace_of_selects (args := #[]) (mvT hZ (hw _ (List.mem_of_getElem? (i := 12) rfl)))) (mvT hZ (hw _ (List.mem_of_getElem? (i := 12) rfl))) (mvT hZ (hw _ (List.mem_of_getElem? (i := 11) rfl))) (by decide) (own_lenW (W := 0) hZ hw n0 (⟨t103, kb103, Nb103, vs103, Es103, Fv103, Fc103, Vb103, cd103, rg103, ln103⟩ : own_Str Z hj61 ab cb) (S_String_COMPACT_STRINGS.ext Oj61.2) hzC (by decide) (by decide)) q104a q104c (g := (mkF m 65 #[.val (.int p0), .val (.int p1), .val (.int p2), .val (.int p3), .val (.int v6), .val (.ref ab), .unset, .unset, .unset, .unset, .unset, .unset, .unset] [(.ref ab)])) rfl (by rw [hml]; rfl) (Steps.refl _) (argsL := []) (rest := []) (lenOf pd_3 rfl) rfl (by show 2 * 0 + _ ≤ _; exact Nat.le_of_eq rfl) (hb hby at_65) (fun _ _ => ⟨rfl, ej, (by decide : 2 + 0 ≤ 32), (by decide : 48 + 0 ≤ 5312)⟩)
      dsimp only [Pt.U, Pt.locs, Pt.cells, Pt.slots] at X104 l104 y104 z104 st104 hQ104
      subst l104 y104 z104
      obtain ⟨rfl, N104q, K104⟩ := hQ104
      have N104 := Fr.app Nj61 N104q
      have e104 : T104.heap = hj61 := K104
      refine own_go (B := T104.setTop (mkF m 68 #[.val (.int p0), .val (.int p1), .val (.int p2), .val (.int p3), .val (.int v6), .val (.ref ab), .unset, .unset, .unset, .unset, .unset, .unset, .unset] [(.int (Int32.ofNat (cb).length))])) (fun _ k => st104.trans k) ?_
      generalize hv68 : (Int32.ofNat (cb).length) = v68
      refine own_go (B := T104.setTop (mkF m 70 #[.val (.int p0), .val (.int p1), .val (.int p2), .val (.int p3), .val (.int v6), .val (.ref ab), .val (.int v68), .unset, .unset, .unset, .unset, .unset, .unset] [])) (fun _ k => XS.istore X104.here hx rfl (hb hby at_68) rfl (l' := #[.val (.int p0), .val (.int p1), .val (.int p2), .val (.int p3), .val (.int v6), .val (.ref ab), .val (.int v68), .unset, .unset, .unset, .unset, .unset, .unset]) rfl k) ?_
      refine own_go (B := T104.setTop (mkF m 71 #[.val (.int p0), .val (.int p1), .val (.int p2), .val (.int p3), .val (.int v6), .val (.ref ab), .val (.int v68), .unset, .unset, .unset, .unset, .unset, .unset] [(.int p1)])) (fun _ k => XS.iloadN X104.here hx rfl (hb hby at_70) rfl k) ?_
      refine own_go (B := T104.setTop (mkF m 72 #[.val (.int p0), .val (.int p1), .val (.int p2), .val (.int p3), .val (.int v6), .val (.ref ab), .val (.int v68), .unset, .unset, .unset, .unset, .unset, .unset] [(.int (3 : Int32)), (.int p1)])) (fun _ k => XS.iconst X104.here hx rfl (hb hby at_71) k) ?_
      refine own_go (B := T104.setTop (mkF m 73 #[.val (.int p0), .val (.int p1), .val (.int p2), .val (.int p3), .val (.int v6), .val (.ref ab), .val (.int v68), .unset, .unset, .unset, .unset, .unset, .unset] [(.int (p1 &&& (3 : Int32)))])) (fun _ k => XS.iand X104.here hx rfl (hb hby at_72) rfl k) ?_
      generalize hv73 : (p1 &&& (3 : Int32)) = v73
      refine own_go (B := T104.setTop (mkF m 75 #[.val (.int p0), .val (.int p1), .val (.int p2), .val (.int p3), .val (.int v6), .val (.ref ab), .val (.int v68), .val (.int v73), .unset, .unset, .unset, .unset, .unset] [])) (fun _ k => XS.istore X104.here hx rfl (hb hby at_73) rfl (l' := #[.val (.int p0), .val (.int p1), .val (.int p2), .val (.int p3), .val (.int v6), .val (.ref ab), .val (.int v68), .val (.int v73), .unset, .unset, .unset, .unset, .unset]) rfl k) ?_
      have jn121 : ∀ (Tj : State) (Lj121 : List Loc) (Xj : Stand p l e room_1 (s.setVm vm61) m #[(.int p0), (.int p1), (.int p2), (.int p3)] below meth c Tj Lj121 2 48) (Nj121 : Fr n0 Lj121) (ej : Tj.heap = hj61) (nn : Int32) (hnn : ¬ nn < 0 ∧ ¬ (12 : Int32) < nn), own_Go p e below (fun o U' => ∃ v L, o = .returned v ∧ Q_rm0 Z wV wI wC wF sI tI sC tC sF tF k_wV k_tI k_tC k_tF zC fm p0 p1 p2 p3 h0 n0 v U'.heap L ∧ CHr Z own_EL s.vm s.heap U'.vm U'.heap ∧ ReturnedEndW s o U' L room_1.cells room_1.slots) (Tj.setTop (mkF m 121 #[.val (.int p0), .val (.int p1), .val (.int p2), .val (.int p3), .val (.int v6), .val (.ref ab), .val (.int v68), .val (.int v73), .unset, .unset, .unset, .unset, .unset] [(.int nn)])) := by
        intro Tj Lj121 Xj Nj121 ej nn hnn
        refine own_go (B := Tj.setTop (mkF m 123 #[.val (.int p0), .val (.int p1), .val (.int p2), .val (.int p3), .val (.int v6), .val (.ref ab), .val (.int v68), .val (.int v73), .val (.int nn), .unset, .unset, .unset, .unset] [])) (fun _ k => XS.istore Xj.here hx rfl (hb hby at_121) rfl (l' := #[.val (.int p0), .val (.int p1), .val (.int p2), .val (.int p3), .val (.int v6), .val (.ref ab), .val (.int v68), .val (.int v73), .val (.int nn), .unset, .unset, .unset, .unset]) rfl k) ?_
        refine own_go (B := Tj.setTop (mkF m 124 #[.val (.int p0), .val (.int p1), .val (.int p2), .val (.int p3), .val (.int v6), .val (.ref ab), .val (.int v68), .val (.int v73), .val (.int nn), .unset, .unset, .unset, .unset] [(.int p2)])) (fun _ k => XS.iloadN Xj.here hx rfl (hb hby at_123) rfl k) ?_
        refine own_go (B := Tj.setTop (mkF m 126 #[.val (.int p0), .val (.int p1), .val (.int p2), .val (.int p3), .val (.int v6), .val (.ref ab), .val (.int v68), .val (.int v73), .val (.int nn), .unset, .unset, .unset, .unset] [(.int (15 : Int32)), (.int p2)])) (fun _ k => XS.bipush Xj.here hx rfl (hb hby at_124) k) ?_
        refine own_go (B := Tj.setTop (mkF m 127 #[.val (.int p0), .val (.int p1), .val (.int p2), .val (.int p3), .val (.int v6), .val (.ref ab), .val (.int v68), .val (.int v73), .val (.int nn), .unset, .unset, .unset, .unset] [(.int (p2 &&& (15 : Int32)))])) (fun _ k => XS.iand Xj.here hx rfl (hb hby at_126) rfl k) ?_
        generalize hv127 : (p2 &&& (15 : Int32)) = v127
        refine own_go (B := Tj.setTop (mkF m 129 #[.val (.int p0), .val (.int p1), .val (.int p2), .val (.int p3), .val (.int v6), .val (.ref ab), .val (.int v68), .val (.int v73), .val (.int nn), .val (.int v127), .unset, .unset, .unset] [])) (fun _ k => XS.istore Xj.here hx rfl (hb hby at_127) rfl (l' := #[.val (.int p0), .val (.int p1), .val (.int p2), .val (.int p3), .val (.int v6), .val (.ref ab), .val (.int v68), .val (.int v73), .val (.int nn), .val (.int v127), .unset, .unset, .unset]) rfl k) ?_
        refine own_go (B := Tj.setTop (mkF m 131 #[.val (.int p0), .val (.int p1), .val (.int p2), .val (.int p3), .val (.int v6), .val (.ref ab), .val (.int v68), .val (.int v73), .val (.int nn), .val (.int v127), .unset, .unset, .unset] [(.int nn)])) (fun _ k => XS.iload Xj.here hx rfl (hb hby at_129) rfl k) ?_
        obtain ⟨T106, h106, k106, X106, e106, E106, A106, st106⟩ := newP Xj hx hZ (hw _ (List.mem_of_getElem? (i := 22) rfl)) ej (g := (mkF m 131 #[.val (.int p0), .val (.int p1), .val (.int p2), .val (.int p3), .val (.int v6), .val (.ref ab), .val (.int v68), .val (.int v73), .val (.int nn), .val (.int v127), .unset, .unset, .unset] [(.int nn)])) rfl (hb hby at_131) rfl hnn.1 (cap := 12) (own_cap hnn) (by decide) (by decide) (by decide)
        obtain ⟨b106, g106⟩ : ∃ z, z = hj61.size := ⟨_, rfl⟩
        rw [← g106] at A106 st106
        have g_b106 : n0 ≤ b106 := Nat.le_trans (Nat.le_trans Z0 Kj61.1) (Nat.le_of_eq g106.symm)
        have sz_b106 : h0.size ≤ b106 := Nat.le_trans Kj61.1 (Nat.le_of_eq g106.symm)
        have ne106_1 : ab ≠ b106 := Nat.ne_of_lt (Nat.lt_of_lt_of_le Es103.lt (Nat.le_of_eq g106.symm))
        have ne106_2 : t103 ≠ b106 := Nat.ne_of_lt (Nat.lt_of_lt_of_le Vb103.lt (Nat.le_of_eq g106.symm))
        have CH106 := CHv.ext E106 CHj61
        have CR106 := CRj61.trans (CHr.ext E106 CHj61)
        have Sf_b106 := Safe.ext E106 CHj61 (Safe.new (Nat.le_of_eq g106.symm))
        have O106 := Oj61.ext E106
        have K106' : Keep h0 h106 ([] : List Addr) := Kj61.ext E106
        have V_b106 := Arv.new A106 hnn.1
        refine own_go (B := T106.setTop (mkF m 133 #[.val (.int p0), .val (.int p1), .val (.int p2), .val (.int p3), .val (.int v6), .val (.ref ab), .val (.int v68), .val (.int v73), .val (.int nn), .val (.int v127), .unset, .unset, .unset] [(.ref b106)])) (st106) ?_
        have V12 : Arv Z h106 b106 k106 .char nn [(.int (0 : Int32)), (.int (0 : Int32)), (.int (0 : Int32)), (.int (0 : Int32)), (.int (0 : Int32)), (.int (0 : Int32)), (.int (0 : Int32)), (.int (0 : Int32)), (.int (0 : Int32)), (.int (0 : Int32)), (.int (0 : Int32)), (.int (0 : Int32))] (.int (0 : Int32)) := V_b106.pad (pad_rep [] _ 12)
        refine own_go (B := T106.setTop (mkF m 135 #[.val (.int p0), .val (.int p1), .val (.int p2), .val (.int p3), .val (.int v6), .val (.ref ab), .val (.int v68), .val (.int v73), .val (.int nn), .val (.int v127), .val (.ref b106), .unset, .unset] [])) (fun _ k => XS.astore X106.here hx rfl (hb hby at_133) rfl rfl (l' := #[.val (.int p0), .val (.int p1), .val (.int p2), .val (.int p3), .val (.int v6), .val (.ref ab), .val (.int v68), .val (.int v73), .val (.int nn), .val (.int v127), .val (.ref b106), .unset, .unset]) rfl k) ?_
        have jn153 : ∀ (hj153 : Heap) (Tj : State) (Lj153 : List Loc) (Xj : Stand p l e room_1 (s.setVm vm61) m #[(.int p0), (.int p1), (.int p2), (.int p3)] below meth c Tj Lj153 3 60) (ej : Tj.heap = hj153) (Nj153 : Fr n0 Lj153) (Oj153 : Old Z n0 hj153) (Kj153 : Keep h0 hj153 ([] : List Addr)) (CHj153 : CHv Z own_EL vm61 hj153) (CRj153 : CHr Z own_EL s.vm h0 vm61 hj153) (hkj153 : kj61 ≤ hj153.size) (Va0 : Arv Z hj153 b106 k106 .char nn [(.int (own_at cb 0 v127 p3)), (.int (0 : Int32)), (.int (0 : Int32)), (.int (0 : Int32)), (.int (0 : Int32)), (.int (0 : Int32)), (.int (0 : Int32)), (.int (0 : Int32)), (.int (0 : Int32)), (.int (0 : Int32)), (.int (0 : Int32)), (.int (0 : Int32))] (.int (0 : Int32))) (Eb0 : Exa Z hj153 ab "java/lang/String") (Fb0 : Fld Z hj153 ab "java/lang/String" "value" "[B" (.ref t103)) (Gb0 : Fld Z hj153 ab "java/lang/String" "coder" "B" (.int (0 : Int32))) (Ub0 : Arv Z hj153 t103 kb103 .byte Nb103 vs103 (.int 0)), own_Go p e below (fun o U' => ∃ v L, o = .returned v ∧ Q_rm0 Z wV wI wC wF sI tI sC tC sF tF k_wV k_tI k_tC k_tF zC fm p0 p1 p2 p3 h0 n0 v U'.heap L ∧ CHr Z own_EL s.vm s.heap U'.vm U'.heap ∧ ReturnedEndW s o U' L room_1.cells room_1.slots) (Tj.setTop (mkF m 153 #[.val (.int p0), .val (.int p1), .val (.int p2), .val (.int p3), .val (.int v6), .val (.ref ab), .val (.int v68), .val (.int v73), .val (.int nn), .val (.int v127), .val (.ref b106), .unset, .unset] [])) := by
          intro hj153 Tj Lj153  Xj ej Nj153 Oj153 Kj153 CHj153 CRj153 hkj153 Va0 Eb0 Fb0 Gb0 Ub0
          have jn172 : ∀ (hj172 : Heap) (Tj : State) (Lj172 : List Loc) (Xj : Stand p l e room_1 (s.setVm vm61) m #[(.int p0), (.int p1), (.int p2), (.int p3)] below meth c Tj Lj172 3 60) (ej : Tj.heap = hj172) (Nj172 : Fr n0 Lj172) (Oj172 : Old Z n0 hj172) (Kj172 : Keep h0 hj172 ([] : List Addr)) (CHj172 : CHv Z own_EL vm61 hj172) (CRj172 : CHr Z own_EL s.vm h0 vm61 hj172) (hkj172 : kj61 ≤ hj172.size) (Va1 : Arv Z hj172 b106 k106 .char nn [(.int (own_at cb 0 v127 p3)), (.int (own_at cb 1 v127 p3)), (.int (0 : Int32)), (.int (0 : Int32)), (.int (0 : Int32)), (.int (0 : Int32)), (.int (0 : Int32)), (.int (0 : Int32)), (.int (0 : Int32)), (.int (0 : Int32)), (.int (0 : Int32)), (.int (0 : Int32))] (.int (0 : Int32))) (Eb1 : Exa Z hj172 ab "java/lang/String") (Fb1 : Fld Z hj172 ab "java/lang/String" "value" "[B" (.ref t103)) (Gb1 : Fld Z hj172 ab "java/lang/String" "coder" "B" (.int (0 : Int32))) (Ub1 : Arv Z hj172 t103 kb103 .byte Nb103 vs103 (.int 0)), own_Go p e below (fun o U' => ∃ v L, o = .returned v ∧ Q_rm0 Z wV wI wC wF sI tI sC tC sF tF k_wV k_tI k_tC k_tF zC fm p0 p1 p2 p3 h0 n0 v U'.heap L ∧ CHr Z own_EL s.vm s.heap U'.vm U'.heap ∧ ReturnedEndW s o U' L room_1.cells room_1.slots) (Tj.setTop (mkF m 172 #[.val (.int p0), .val (.int p1), .val (.int p2), .val (.int p3), .val (.int v6), .val (.ref ab), .val (.int v68), .val (.int v73), .val (.int nn), .val (.int v127), .val (.ref b106), .unset, .unset] [])) := by
            intro hj172 Tj Lj172  Xj ej Nj172 Oj172 Kj172 CHj172 CRj172 hkj172 Va1 Eb1 Fb1 Gb1 Ub1
            have jn191 : ∀ (hj191 : Heap) (Tj : State) (Lj191 : List Loc) (Xj : Stand p l e room_1 (s.setVm vm61) m #[(.int p0), (.int p1), (.int p2), (.int p3)] below meth c Tj Lj191 3 60) (ej : Tj.heap = hj191) (Nj191 : Fr n0 Lj191) (Oj191 : Old Z n0 hj191) (Kj191 : Keep h0 hj191 ([] : List Addr)) (CHj191 : CHv Z own_EL vm61 hj191) (CRj191 : CHr Z own_EL s.vm h0 vm61 hj191) (hkj191 : kj61 ≤ hj191.size) (Va2 : Arv Z hj191 b106 k106 .char nn [(.int (own_at cb 0 v127 p3)), (.int (own_at cb 1 v127 p3)), (.int (own_at cb 2 v127 p3)), (.int (0 : Int32)), (.int (0 : Int32)), (.int (0 : Int32)), (.int (0 : Int32)), (.int (0 : Int32)), (.int (0 : Int32)), (.int (0 : Int32)), (.int (0 : Int32)), (.int (0 : Int32))] (.int (0 : Int32))) (Eb2 : Exa Z hj191 ab "java/lang/String") (Fb2 : Fld Z hj191 ab "java/lang/String" "value" "[B" (.ref t103)) (Gb2 : Fld Z hj191 ab "java/lang/String" "coder" "B" (.int (0 : Int32))) (Ub2 : Arv Z hj191 t103 kb103 .byte Nb103 vs103 (.int 0)), own_Go p e below (fun o U' => ∃ v L, o = .returned v ∧ Q_rm0 Z wV wI wC wF sI tI sC tC sF tF k_wV k_tI k_tC k_tF zC fm p0 p1 p2 p3 h0 n0 v U'.heap L ∧ CHr Z own_EL s.vm s.heap U'.vm U'.heap ∧ ReturnedEndW s o U' L room_1.cells room_1.slots) (Tj.setTop (mkF m 191 #[.val (.int p0), .val (.int p1), .val (.int p2), .val (.int p3), .val (.int v6), .val (.ref ab), .val (.int v68), .val (.int v73), .val (.int nn), .val (.int v127), .val (.ref b106), .unset, .unset] [])) := by
              intro hj191 Tj Lj191  Xj ej Nj191 Oj191 Kj191 CHj191 CRj191 hkj191 Va2 Eb2 Fb2 Gb2 Ub2
              have jn210 : ∀ (hj210 : Heap) (Tj : State) (Lj210 : List Loc) (Xj : Stand p l e room_1 (s.setVm vm61) m #[(.int p0), (.int p1), (.int p2), (.int p3)] below meth c Tj Lj210 3 60) (ej : Tj.heap = hj210) (Nj210 : Fr n0 Lj210) (Oj210 : Old Z n0 hj210) (Kj210 : Keep h0 hj210 ([] : List Addr)) (CHj210 : CHv Z own_EL vm61 hj210) (CRj210 : CHr Z own_EL s.vm h0 vm61 hj210) (hkj210 : kj61 ≤ hj210.size) (Va3 : Arv Z hj210 b106 k106 .char nn [(.int (own_at cb 0 v127 p3)), (.int (own_at cb 1 v127 p3)), (.int (own_at cb 2 v127 p3)), (.int (own_at cb 3 v127 p3)), (.int (0 : Int32)), (.int (0 : Int32)), (.int (0 : Int32)), (.int (0 : Int32)), (.int (0 : Int32)), (.int (0 : Int32)), (.int (0 : Int32)), (.int (0 : Int32))] (.int (0 : Int32))) (Eb3 : Exa Z hj210 ab "java/lang/String") (Fb3 : Fld Z hj210 ab "java/lang/String" "value" "[B" (.ref t103)) (Gb3 : Fld Z hj210 ab "java/lang/String" "coder" "B" (.int (0 : Int32))) (Ub3 : Arv Z hj210 t103 kb103 .byte Nb103 vs103 (.int 0)), own_Go p e below (fun o U' => ∃ v L, o = .returned v ∧ Q_rm0 Z wV wI wC wF sI tI sC tC sF tF k_wV k_tI k_tC k_tF zC fm p0 p1 p2 p3 h0 n0 v U'.heap L ∧ CHr Z own_EL s.vm s.heap U'.vm U'.heap ∧ ReturnedEndW s o U' L room_1.cells room_1.slots) (Tj.setTop (mkF m 210 #[.val (.int p0), .val (.int p1), .val (.int p2), .val (.int p3), .val (.int v6), .val (.ref ab), .val (.int v68), .val (.int v73), .val (.int nn), .val (.int v127), .val (.ref b106), .unset, .unset] [])) := by
                intro hj210 Tj Lj210  Xj ej Nj210 Oj210 Kj210 CHj210 CRj210 hkj210 Va3 Eb3 Fb3 Gb3 Ub3
                have jn229 : ∀ (hj229 : Heap) (Tj : State) (Lj229 : List Loc) (Xj : Stand p l e room_1 (s.setVm vm61) m #[(.int p0), (.int p1), (.int p2), (.int p3)] below meth c Tj Lj229 3 60) (ej : Tj.heap = hj229) (Nj229 : Fr n0 Lj229) (Oj229 : Old Z n0 hj229) (Kj229 : Keep h0 hj229 ([] : List Addr)) (CHj229 : CHv Z own_EL vm61 hj229) (CRj229 : CHr Z own_EL s.vm h0 vm61 hj229) (hkj229 : kj61 ≤ hj229.size) (Va4 : Arv Z hj229 b106 k106 .char nn [(.int (own_at cb 0 v127 p3)), (.int (own_at cb 1 v127 p3)), (.int (own_at cb 2 v127 p3)), (.int (own_at cb 3 v127 p3)), (.int (own_at cb 4 v127 p3)), (.int (0 : Int32)), (.int (0 : Int32)), (.int (0 : Int32)), (.int (0 : Int32)), (.int (0 : Int32)), (.int (0 : Int32)), (.int (0 : Int32))] (.int (0 : Int32))) (Eb4 : Exa Z hj229 ab "java/lang/String") (Fb4 : Fld Z hj229 ab "java/lang/String" "value" "[B" (.ref t103)) (Gb4 : Fld Z hj229 ab "java/lang/String" "coder" "B" (.int (0 : Int32))) (Ub4 : Arv Z hj229 t103 kb103 .byte Nb103 vs103 (.int 0)), own_Go p e below (fun o U' => ∃ v L, o = .returned v ∧ Q_rm0 Z wV wI wC wF sI tI sC tC sF tF k_wV k_tI k_tC k_tF zC fm p0 p1 p2 p3 h0 n0 v U'.heap L ∧ CHr Z own_EL s.vm s.heap U'.vm U'.heap ∧ ReturnedEndW s o U' L room_1.cells room_1.slots) (Tj.setTop (mkF m 229 #[.val (.int p0), .val (.int p1), .val (.int p2), .val (.int p3), .val (.int v6), .val (.ref ab), .val (.int v68), .val (.int v73), .val (.int nn), .val (.int v127), .val (.ref b106), .unset, .unset] [])) := by
                  intro hj229 Tj Lj229  Xj ej Nj229 Oj229 Kj229 CHj229 CRj229 hkj229 Va4 Eb4 Fb4 Gb4 Ub4
                  have jn248 : ∀ (hj248 : Heap) (Tj : State) (Lj248 : List Loc) (Xj : Stand p l e room_1 (s.setVm vm61) m #[(.int p0), (.int p1), (.int p2), (.int p3)] below meth c Tj Lj248 3 60) (ej : Tj.heap = hj248) (Nj248 : Fr n0 Lj248) (Oj248 : Old Z n0 hj248) (Kj248 : Keep h0 hj248 ([] : List Addr)) (CHj248 : CHv Z own_EL vm61 hj248) (CRj248 : CHr Z own_EL s.vm h0 vm61 hj248) (hkj248 : kj61 ≤ hj248.size) (Va5 : Arv Z hj248 b106 k106 .char nn [(.int (own_at cb 0 v127 p3)), (.int (own_at cb 1 v127 p3)), (.int (own_at cb 2 v127 p3)), (.int (own_at cb 3 v127 p3)), (.int (own_at cb 4 v127 p3)), (.int (own_at cb 5 v127 p3)), (.int (0 : Int32)), (.int (0 : Int32)), (.int (0 : Int32)), (.int (0 : Int32)), (.int (0 : Int32)), (.int (0 : Int32))] (.int (0 : Int32))) (Eb5 : Exa Z hj248 ab "java/lang/String") (Fb5 : Fld Z hj248 ab "java/lang/String" "value" "[B" (.ref t103)) (Gb5 : Fld Z hj248 ab "java/lang/String" "coder" "B" (.int (0 : Int32))) (Ub5 : Arv Z hj248 t103 kb103 .byte Nb103 vs103 (.int 0)), own_Go p e below (fun o U' => ∃ v L, o = .returned v ∧ Q_rm0 Z wV wI wC wF sI tI sC tC sF tF k_wV k_tI k_tC k_tF zC fm p0 p1 p2 p3 h0 n0 v U'.heap L ∧ CHr Z own_EL s.vm s.heap U'.vm U'.heap ∧ ReturnedEndW s o U' L room_1.cells room_1.slots) (Tj.setTop (mkF m 248 #[.val (.int p0), .val (.int p1), .val (.int p2), .val (.int p3), .val (.int v6), .val (.ref ab), .val (.int v68), .val (.int v73), .val (.int nn), .val (.int v127), .val (.ref b106), .unset, .unset] [])) := by
                    intro hj248 Tj Lj248  Xj ej Nj248 Oj248 Kj248 CHj248 CRj248 hkj248 Va5 Eb5 Fb5 Gb5 Ub5
                    have jn270 : ∀ (hj270 : Heap) (Tj : State) (Lj270 : List Loc) (Xj : Stand p l e room_1 (s.setVm vm61) m #[(.int p0), (.int p1), (.int p2), (.int p3)] below meth c Tj Lj270 3 60) (ej : Tj.heap = hj270) (Nj270 : Fr n0 Lj270) (Oj270 : Old Z n0 hj270) (Kj270 : Keep h0 hj270 ([] : List Addr)) (CHj270 : CHv Z own_EL vm61 hj270) (CRj270 : CHr Z own_EL s.vm h0 vm61 hj270) (hkj270 : kj61 ≤ hj270.size) (Va6 : Arv Z hj270 b106 k106 .char nn [(.int (own_at cb 0 v127 p3)), (.int (own_at cb 1 v127 p3)), (.int (own_at cb 2 v127 p3)), (.int (own_at cb 3 v127 p3)), (.int (own_at cb 4 v127 p3)), (.int (own_at cb 5 v127 p3)), (.int (own_at cb 6 v127 p3)), (.int (0 : Int32)), (.int (0 : Int32)), (.int (0 : Int32)), (.int (0 : Int32)), (.int (0 : Int32))] (.int (0 : Int32))) (Eb6 : Exa Z hj270 ab "java/lang/String") (Fb6 : Fld Z hj270 ab "java/lang/String" "value" "[B" (.ref t103)) (Gb6 : Fld Z hj270 ab "java/lang/String" "coder" "B" (.int (0 : Int32))) (Ub6 : Arv Z hj270 t103 kb103 .byte Nb103 vs103 (.int 0)), own_Go p e below (fun o U' => ∃ v L, o = .returned v ∧ Q_rm0 Z wV wI wC wF sI tI sC tC sF tF k_wV k_tI k_tC k_tF zC fm p0 p1 p2 p3 h0 n0 v U'.heap L ∧ CHr Z own_EL s.vm s.heap U'.vm U'.heap ∧ ReturnedEndW s o U' L room_1.cells room_1.slots) (Tj.setTop (mkF m 270 #[.val (.int p0), .val (.int p1), .val (.int p2), .val (.int p3), .val (.int v6), .val (.ref ab), .val (.int v68), .val (.int v73), .val (.int nn), .val (.int v127), .val (.ref b106), .unset, .unset] [])) := by
                      intro hj270 Tj Lj270  Xj ej Nj270 Oj270 Kj270 CHj270 CRj270 hkj270 Va6 Eb6 Fb6 Gb6 Ub6
                      have jn292 : ∀ (hj292 : Heap) (Tj : State) (Lj292 : List Loc) (Xj : Stand p l e room_1 (s.setVm vm61) m #[(.int p0), (.int p1), (.int p2), (.int p3)] below meth c Tj Lj292 3 60) (ej : Tj.heap = hj292) (Nj292 : Fr n0 Lj292) (Oj292 : Old Z n0 hj292) (Kj292 : Keep h0 hj292 ([] : List Addr)) (CHj292 : CHv Z own_EL vm61 hj292) (CRj292 : CHr Z own_EL s.vm h0 vm61 hj292) (hkj292 : kj61 ≤ hj292.size) (Va7 : Arv Z hj292 b106 k106 .char nn [(.int (own_at cb 0 v127 p3)), (.int (own_at cb 1 v127 p3)), (.int (own_at cb 2 v127 p3)), (.int (own_at cb 3 v127 p3)), (.int (own_at cb 4 v127 p3)), (.int (own_at cb 5 v127 p3)), (.int (own_at cb 6 v127 p3)), (.int (own_at cb 7 v127 p3)), (.int (0 : Int32)), (.int (0 : Int32)), (.int (0 : Int32)), (.int (0 : Int32))] (.int (0 : Int32))) (Eb7 : Exa Z hj292 ab "java/lang/String") (Fb7 : Fld Z hj292 ab "java/lang/String" "value" "[B" (.ref t103)) (Gb7 : Fld Z hj292 ab "java/lang/String" "coder" "B" (.int (0 : Int32))) (Ub7 : Arv Z hj292 t103 kb103 .byte Nb103 vs103 (.int 0)), own_Go p e below (fun o U' => ∃ v L, o = .returned v ∧ Q_rm0 Z wV wI wC wF sI tI sC tC sF tF k_wV k_tI k_tC k_tF zC fm p0 p1 p2 p3 h0 n0 v U'.heap L ∧ CHr Z own_EL s.vm s.heap U'.vm U'.heap ∧ ReturnedEndW s o U' L room_1.cells room_1.slots) (Tj.setTop (mkF m 292 #[.val (.int p0), .val (.int p1), .val (.int p2), .val (.int p3), .val (.int v6), .val (.ref ab), .val (.int v68), .val (.int v73), .val (.int nn), .val (.int v127), .val (.ref b106), .unset, .unset] [])) := by
                        intro hj292 Tj Lj292  Xj ej Nj292 Oj292 Kj292 CHj292 CRj292 hkj292 Va7 Eb7 Fb7 Gb7 Ub7
                        have jn314 : ∀ (hj314 : Heap) (Tj : State) (Lj314 : List Loc) (Xj : Stand p l e room_1 (s.setVm vm61) m #[(.int p0), (.int p1), (.int p2), (.int p3)] below meth c Tj Lj314 3 60) (ej : Tj.heap = hj314) (Nj314 : Fr n0 Lj314) (Oj314 : Old Z n0 hj314) (Kj314 : Keep h0 hj314 ([] : List Addr)) (CHj314 : CHv Z own_EL vm61 hj314) (CRj314 : CHr Z own_EL s.vm h0 vm61 hj314) (hkj314 : kj61 ≤ hj314.size) (Va8 : Arv Z hj314 b106 k106 .char nn [(.int (own_at cb 0 v127 p3)), (.int (own_at cb 1 v127 p3)), (.int (own_at cb 2 v127 p3)), (.int (own_at cb 3 v127 p3)), (.int (own_at cb 4 v127 p3)), (.int (own_at cb 5 v127 p3)), (.int (own_at cb 6 v127 p3)), (.int (own_at cb 7 v127 p3)), (.int (own_at cb 8 v127 p3)), (.int (0 : Int32)), (.int (0 : Int32)), (.int (0 : Int32))] (.int (0 : Int32))) (Eb8 : Exa Z hj314 ab "java/lang/String") (Fb8 : Fld Z hj314 ab "java/lang/String" "value" "[B" (.ref t103)) (Gb8 : Fld Z hj314 ab "java/lang/String" "coder" "B" (.int (0 : Int32))) (Ub8 : Arv Z hj314 t103 kb103 .byte Nb103 vs103 (.int 0)), own_Go p e below (fun o U' => ∃ v L, o = .returned v ∧ Q_rm0 Z wV wI wC wF sI tI sC tC sF tF k_wV k_tI k_tC k_tF zC fm p0 p1 p2 p3 h0 n0 v U'.heap L ∧ CHr Z own_EL s.vm s.heap U'.vm U'.heap ∧ ReturnedEndW s o U' L room_1.cells room_1.slots) (Tj.setTop (mkF m 314 #[.val (.int p0), .val (.int p1), .val (.int p2), .val (.int p3), .val (.int v6), .val (.ref ab), .val (.int v68), .val (.int v73), .val (.int nn), .val (.int v127), .val (.ref b106), .unset, .unset] [])) := by
                          intro hj314 Tj Lj314  Xj ej Nj314 Oj314 Kj314 CHj314 CRj314 hkj314 Va8 Eb8 Fb8 Gb8 Ub8
                          have jn336 : ∀ (hj336 : Heap) (Tj : State) (Lj336 : List Loc) (Xj : Stand p l e room_1 (s.setVm vm61) m #[(.int p0), (.int p1), (.int p2), (.int p3)] below meth c Tj Lj336 3 60) (ej : Tj.heap = hj336) (Nj336 : Fr n0 Lj336) (Oj336 : Old Z n0 hj336) (Kj336 : Keep h0 hj336 ([] : List Addr)) (CHj336 : CHv Z own_EL vm61 hj336) (CRj336 : CHr Z own_EL s.vm h0 vm61 hj336) (hkj336 : kj61 ≤ hj336.size) (Va9 : Arv Z hj336 b106 k106 .char nn [(.int (own_at cb 0 v127 p3)), (.int (own_at cb 1 v127 p3)), (.int (own_at cb 2 v127 p3)), (.int (own_at cb 3 v127 p3)), (.int (own_at cb 4 v127 p3)), (.int (own_at cb 5 v127 p3)), (.int (own_at cb 6 v127 p3)), (.int (own_at cb 7 v127 p3)), (.int (own_at cb 8 v127 p3)), (.int (own_at cb 9 v127 p3)), (.int (0 : Int32)), (.int (0 : Int32))] (.int (0 : Int32))) (Eb9 : Exa Z hj336 ab "java/lang/String") (Fb9 : Fld Z hj336 ab "java/lang/String" "value" "[B" (.ref t103)) (Gb9 : Fld Z hj336 ab "java/lang/String" "coder" "B" (.int (0 : Int32))) (Ub9 : Arv Z hj336 t103 kb103 .byte Nb103 vs103 (.int 0)), own_Go p e below (fun o U' => ∃ v L, o = .returned v ∧ Q_rm0 Z wV wI wC wF sI tI sC tC sF tF k_wV k_tI k_tC k_tF zC fm p0 p1 p2 p3 h0 n0 v U'.heap L ∧ CHr Z own_EL s.vm s.heap U'.vm U'.heap ∧ ReturnedEndW s o U' L room_1.cells room_1.slots) (Tj.setTop (mkF m 336 #[.val (.int p0), .val (.int p1), .val (.int p2), .val (.int p3), .val (.int v6), .val (.ref ab), .val (.int v68), .val (.int v73), .val (.int nn), .val (.int v127), .val (.ref b106), .unset, .unset] [])) := by
                            intro hj336 Tj Lj336  Xj ej Nj336 Oj336 Kj336 CHj336 CRj336 hkj336 Va9 Eb9 Fb9 Gb9 Ub9
                            have jn358 : ∀ (hj358 : Heap) (Tj : State) (Lj358 : List Loc) (Xj : Stand p l e room_1 (s.setVm vm61) m #[(.int p0), (.int p1), (.int p2), (.int p3)] below meth c Tj Lj358 3 60) (ej : Tj.heap = hj358) (Nj358 : Fr n0 Lj358) (Oj358 : Old Z n0 hj358) (Kj358 : Keep h0 hj358 ([] : List Addr)) (CHj358 : CHv Z own_EL vm61 hj358) (CRj358 : CHr Z own_EL s.vm h0 vm61 hj358) (hkj358 : kj61 ≤ hj358.size) (Va10 : Arv Z hj358 b106 k106 .char nn [(.int (own_at cb 0 v127 p3)), (.int (own_at cb 1 v127 p3)), (.int (own_at cb 2 v127 p3)), (.int (own_at cb 3 v127 p3)), (.int (own_at cb 4 v127 p3)), (.int (own_at cb 5 v127 p3)), (.int (own_at cb 6 v127 p3)), (.int (own_at cb 7 v127 p3)), (.int (own_at cb 8 v127 p3)), (.int (own_at cb 9 v127 p3)), (.int (own_at cb 10 v127 p3)), (.int (0 : Int32))] (.int (0 : Int32))) (Eb10 : Exa Z hj358 ab "java/lang/String") (Fb10 : Fld Z hj358 ab "java/lang/String" "value" "[B" (.ref t103)) (Gb10 : Fld Z hj358 ab "java/lang/String" "coder" "B" (.int (0 : Int32))) (Ub10 : Arv Z hj358 t103 kb103 .byte Nb103 vs103 (.int 0)), own_Go p e below (fun o U' => ∃ v L, o = .returned v ∧ Q_rm0 Z wV wI wC wF sI tI sC tC sF tF k_wV k_tI k_tC k_tF zC fm p0 p1 p2 p3 h0 n0 v U'.heap L ∧ CHr Z own_EL s.vm s.heap U'.vm U'.heap ∧ ReturnedEndW s o U' L room_1.cells room_1.slots) (Tj.setTop (mkF m 358 #[.val (.int p0), .val (.int p1), .val (.int p2), .val (.int p3), .val (.int v6), .val (.ref ab), .val (.int v68), .val (.int v73), .val (.int nn), .val (.int v127), .val (.ref b106), .unset, .unset] [])) := by
                              intro hj358 Tj Lj358  Xj ej Nj358 Oj358 Kj358 CHj358 CRj358 hkj358 Va10 Eb10 Fb10 Gb10 Ub10
                              have jn380 : ∀ (hj380 : Heap) (Tj : State) (Lj380 : List Loc) (Xj : Stand p l e room_1 (s.setVm vm61) m #[(.int p0), (.int p1), (.int p2), (.int p3)] below meth c Tj Lj380 3 60) (ej : Tj.heap = hj380) (Nj380 : Fr n0 Lj380) (Oj380 : Old Z n0 hj380) (Kj380 : Keep h0 hj380 ([] : List Addr)) (CHj380 : CHv Z own_EL vm61 hj380) (CRj380 : CHr Z own_EL s.vm h0 vm61 hj380) (hkj380 : kj61 ≤ hj380.size) (Va11 : Arv Z hj380 b106 k106 .char nn [(.int (own_at cb 0 v127 p3)), (.int (own_at cb 1 v127 p3)), (.int (own_at cb 2 v127 p3)), (.int (own_at cb 3 v127 p3)), (.int (own_at cb 4 v127 p3)), (.int (own_at cb 5 v127 p3)), (.int (own_at cb 6 v127 p3)), (.int (own_at cb 7 v127 p3)), (.int (own_at cb 8 v127 p3)), (.int (own_at cb 9 v127 p3)), (.int (own_at cb 10 v127 p3)), (.int (own_at cb 11 v127 p3))] (.int (0 : Int32))), own_Go p e below (fun o U' => ∃ v L, o = .returned v ∧ Q_rm0 Z wV wI wC wF sI tI sC tC sF tF k_wV k_tI k_tC k_tF zC fm p0 p1 p2 p3 h0 n0 v U'.heap L ∧ CHr Z own_EL s.vm s.heap U'.vm U'.heap ∧ ReturnedEndW s o U' L room_1.cells room_1.slots) (Tj.setTop (mkF m 380 #[.val (.int p0), .val (.int p1), .val (.int p2), .val (.int p3), .val (.int v6), .val (.ref ab), .val (.int v68), .val (.int v73), .val (.int nn), .val (.int v127), .val (.ref b106), .unset, .unset] [])) := by
                                intro hj380 Tj Lj380  Xj ej Nj380 Oj380 Kj380 CHj380 CRj380 hkj380 Va11
                                by_cases hn0 : nn = 0
                                · subst hn0
                                  have V0 : Arv Z hj380 b106 k106 .char (0 : Int32) [] (.int (0 : Int32)) := own_short Va11
                                  obtain ⟨T119, h119, X119, e119, E119, A119, D119, -, st119⟩ := newO Xj hx hZ hown (hw _ (List.mem_of_getElem? (i := 23) rfl)) (hw _ (List.mem_of_getElem? (i := 3) rfl)) (hw _ (List.mem_of_getElem? (i := 2) rfl)) ej (g := (mkF m 380 #[.val (.int p0), .val (.int p1), .val (.int p2), .val (.int p3), .val (.int v6), .val (.ref ab), .val (.int v68), .val (.int v73), .val (.int (0 : Int32)), .val (.int v127), .val (.ref b106), .unset, .unset] [])) rfl (hb hby at_380) (by decide) (by decide)
                                  obtain ⟨b119, g119⟩ : ∃ z, z = hj380.size := ⟨_, rfl⟩
                                  rw [← g119] at A119 D119 st119
                                  have g_b119 : n0 ≤ b119 := Nat.le_trans (Nat.le_trans Z0 Kj380.1) (Nat.le_of_eq g119.symm)
                                  have sz_b119 : h0.size ≤ b119 := Nat.le_trans Kj380.1 (Nat.le_of_eq g119.symm)
                                  have ne119_1 : b106 ≠ b119 := Nat.ne_of_lt (Nat.lt_of_lt_of_le V0.lt (Nat.le_of_eq g119.symm))
                                  have CH119 := CHv.ext E119 CHj380
                                  have CR119 := CRj380.trans (CHr.ext E119 CHj380)
                                  have Sf_b119 := Safe.ext E119 CHj380 (Safe.new (Nat.le_of_eq g119.symm))
                                  have O119 := Oj380.ext E119
                                  have K119' : Keep h0 h119 ([] : List Addr) := Kj380.ext E119
                                  have F_value_b119 : Fld Z h119 b119 "java/lang/String" "value" "[B" .null := D119 (Or.inr (hw _ (List.mem_of_getElem? (i := 5) rfl))) (ty := (.array .byte)) (by decide)
                                  have F_coder_b119 : Fld Z h119 b119 "java/lang/String" "coder" "B" (.int (0 : Int32)) := D119 (Or.inr (hw _ (List.mem_of_getElem? (i := 6) rfl))) (ty := .byte) (by decide)
                                  refine own_go (B := T119.setTop (mkF m 383 #[.val (.int p0), .val (.int p1), .val (.int p2), .val (.int p3), .val (.int v6), .val (.ref ab), .val (.int v68), .val (.int v73), .val (.int (0 : Int32)), .val (.int v127), .val (.ref b106), .unset, .unset] [(.ref b119)])) (st119) ?_
                                  refine own_go (B := T119.setTop (mkF m 384 #[.val (.int p0), .val (.int p1), .val (.int p2), .val (.int p3), .val (.int v6), .val (.ref ab), .val (.int v68), .val (.int v73), .val (.int (0 : Int32)), .val (.int v127), .val (.ref b106), .unset, .unset] [(.ref b119), (.ref b119)])) (fun _ k => XS.dup X119.here hx rfl (hb hby at_383) rfl rfl k) ?_
                                  refine own_go (B := T119.setTop (mkF m 386 #[.val (.int p0), .val (.int p1), .val (.int p2), .val (.int p3), .val (.int v6), .val (.ref ab), .val (.int v68), .val (.int v73), .val (.int (0 : Int32)), .val (.int v127), .val (.ref b106), .unset, .unset] [(.ref b106), (.ref b119), (.ref b119)])) (fun _ k => XS.aload X119.here hx rfl (hb hby at_384) rfl rfl k) ?_
                                  obtain ⟨_, _, ⟨T120, L120, k120, n120⟩, -, X120, SN120, gr120, ⟨Lc120, hQ120, l120, y120, z120, CRq120⟩, st120⟩ := X119.specialBackS hx (y := (⟨"java/lang/String", "<init>", "([C)V"⟩ : MethodName)) rfl hown (mvT hZ (hw _ (List.mem_of_getElem? (i := 24) rfl))) (mvT hZ (hw _ (List.mem_of_getElem? (i := 25) rfl))) (mvT hZ (hw _ (List.mem_of_getElem? (i := 26) rfl))) (by decide) (own_backSH (s := s) (vm0 := vm61) (SL := [b119]) (W := 1) (rmS1 l Z a0 hw [] wV wI wC wF sI tI sC tC sF tF k_wV k_tI k_tC k_tF zC fm G b119 b106 k106 .null h119 n0 (Nat.le_trans Z0 K119'.1) O119 A119 F_value_b119 F_coder_b119 g_b119 (V0.ext E119)) hZ (hw _ (List.mem_of_getElem? (i := 26) rfl)) (hw _ (List.mem_of_getElem? (i := 2) rfl)) (by decide) (by decide) hEL CH119 (allS ⟨Sf_b119, A119.lt⟩ all0)) (g := (mkF m 386 #[.val (.int p0), .val (.int p1), .val (.int p2), .val (.int p3), .val (.int v6), .val (.ref ab), .val (.int v68), .val (.int v73), .val (.int (0 : Int32)), .val (.int v127), .val (.ref b106), .unset, .unset] [(.ref b106), (.ref b119), (.ref b119)])) rfl (by rw [hml]; rfl) (Steps.refl _) (a := b119) (argsL := [(.ref b106)]) (rest := [(.ref b119)]) (lenOf pd_6 rfl) rfl (by show 2 * 0 + _ ≤ _; exact Nat.le_of_eq rfl) (hb hby at_386) (fun _ _ => ⟨rfl, e119, (by decide : 4 + 4 ≤ 32), (by decide : 64 + 8 ≤ 5312)⟩)
                                  dsimp only [Pt.U, Pt.locs, Pt.cells, Pt.slots] at X120 l120 y120 z120 st120 hQ120 SN120 gr120 CRq120
                                  subst l120 y120 z120
                                  obtain ⟨X120, SN120, hZ, hown⟩ := rebS (s := s) (vm0 := vm61) SNj61 (by rw [e119]; exact (Nat.le_trans hkj380 E119.1)) X120 SN120 gr120 hZ hown
                                  have CH120 := CRq120.1
                                  have CR120 := CR119.trans CRq120
                                  obtain ⟨rfl, N120q, K120, Str_120⟩ := hQ120
                                  have N120 := Fr.app Nj380 N120q
                                  have O120 := O119.keep K120 (allS g_b119 all0)
                                  have K120' : Keep h0 T120.heap ([] : List Addr) := K119'.trans K120 (allS (Or.inr sz_b119) all0)
                                  obtain ⟨t121, kb121, Nb121, vs121, Es121, Fv121, Fc121, Vb121, cd121, rg121, ln121⟩ := Str_120
                                  refine own_go (B := T120.setTop (mkF m 389 #[.val (.int p0), .val (.int p1), .val (.int p2), .val (.int p3), .val (.int v6), .val (.ref ab), .val (.int v68), .val (.int v73), .val (.int (0 : Int32)), .val (.int v127), .val (.ref b106), .unset, .unset] [(.ref b119)])) (fun _ k => st120.trans k) ?_
                                  refine own_go (B := T120.setTop (mkF m 391 #[.val (.int p0), .val (.int p1), .val (.int p2), .val (.int p3), .val (.int v6), .val (.ref ab), .val (.int v68), .val (.int v73), .val (.int (0 : Int32)), .val (.int v127), .val (.ref b106), .val (.ref b119), .unset] [])) (fun _ k => XS.astore X120.here hx rfl (hb hby at_389) rfl rfl (l' := #[.val (.int p0), .val (.int p1), .val (.int p2), .val (.int p3), .val (.int v6), .val (.ref ab), .val (.int v68), .val (.int v73), .val (.int (0 : Int32)), .val (.int v127), .val (.ref b106), .val (.ref b119), .unset]) rfl k) ?_
                                  refine own_go (B := T120.setTop (mkF m 392 #[.val (.int p0), .val (.int p1), .val (.int p2), .val (.int p3), .val (.int v6), .val (.ref ab), .val (.int v68), .val (.int v73), .val (.int (0 : Int32)), .val (.int v127), .val (.ref b106), .val (.ref b119), .unset] [.null])) (fun _ k => XS.aconstNull X120.here hx rfl (hb hby at_391) k) ?_
                                  refine own_go (B := T120.setTop (mkF m 394 #[.val (.int p0), .val (.int p1), .val (.int p2), .val (.int p3), .val (.int v6), .val (.ref ab), .val (.int v68), .val (.int v73), .val (.int (0 : Int32)), .val (.int v127), .val (.ref b106), .val (.ref b119), .val .null] [])) (fun _ k => XS.astore X120.here hx rfl (hb hby at_392) rfl rfl (l' := #[.val (.int p0), .val (.int p1), .val (.int p2), .val (.int p3), .val (.int v6), .val (.ref ab), .val (.int v68), .val (.int v73), .val (.int (0 : Int32)), .val (.int v127), .val (.ref b106), .val (.ref b119), .val .null]) rfl k) ?_
                                  refine own_go (B := T120.setTop (mkF m 396 #[.val (.int p0), .val (.int p1), .val (.int p2), .val (.int p3), .val (.int v6), .val (.ref ab), .val (.int v68), .val (.int v73), .val (.int (0 : Int32)), .val (.int v127), .val (.ref b106), .val (.ref b119), .val .null] [(.ref b119)])) (fun _ k => XS.aload X120.here hx rfl (hb hby at_394) rfl rfl k) ?_
                                  obtain ⟨la122, T122, h122, k122, tb122, kb122, X122, e122, E122, SN122, hk122, hZ, hown, Ex122, Fc122, Fv122, Vb122, -, -, CRq122, -, Ne122, st122⟩ := ldcCH (s := s) (vm0 := T120.vm) X120 hx hZ hown (hw _ (List.mem_of_getElem? (i := 1) rfl)) wS rfl SN120 (Nat.le_refl _) hEL (by decide) CH120 (vs := [(.int (105 : Int32)), (.int (110 : Int32)), (.int (45 : Int32)), (.int (112 : Int32)), (.int (114 : Int32)), (.int (111 : Int32)), (.int (103 : Int32)), (.int (114 : Int32)), (.int (101 : Int32)), (.int (115 : Int32)), (.int (115 : Int32))]) (z := (11 : Int32)) ⟨by decide, rfl⟩ (by decide) rfl (g := (mkF m 396 #[.val (.int p0), .val (.int p1), .val (.int p2), .val (.int p3), .val (.int v6), .val (.ref ab), .val (.int v68), .val (.int v73), .val (.int (0 : Int32)), .val (.int v127), .val (.ref b106), .val (.ref b119), .val .null] [(.ref b119)])) rfl (hb hby at_396) (n := 44) (by decide) (by decide) (by decide) (by decide)
                                  have O122 := O120.ext E122
                                  have K122' : Keep h0 h122 ([] : List Addr) := K120'.ext E122
                                  have CH122 := CRq122.1
                                  have CR122 := CR120.trans CRq122
                                  have nl122_b119 := Ne122 b119 (CHr.safe CRq122 Es121.lt (CHr.safe CRq120 A119.lt Sf_b119))
                                  refine own_go (B := T122.setTop (mkF m 398 #[.val (.int p0), .val (.int p1), .val (.int p2), .val (.int p3), .val (.int v6), .val (.ref ab), .val (.int v68), .val (.int v73), .val (.int (0 : Int32)), .val (.int v127), .val (.ref b106), .val (.ref b119), .val .null] [(.ref la122), (.ref b119)])) (st122) ?_
                                  obtain ⟨cq123, kq123, q123a, q123b, q123c⟩ := isOf hZ e122 (Es121.ext E122)
                                  obtain ⟨_, _, ⟨T123, L123, k123, n123⟩, -, X123, ⟨Lc123, hQ123, l123, y123, z123⟩, st123⟩ := X122.virtualBack hx (y := (⟨"java/lang/String", "equals", "(Ljava/lang/Object;)Z"⟩ : MethodName)) (z := (⟨"java/lang/String", "equals", "(Ljava/lang/Object;)Z"⟩ : MethodName)) hown (mvT hZ (hw _ (List.mem_of_getElem? (i := 35) rfl))) (mvT hZ (hw _ (List.mem_of_getElem? (i := 36) rfl))) (notFace_of_selects (args := #[]) (mvT hZ (hw _ (List.mem_of_getElem? (i := 38) rfl)))) (mvT hZ (hw _ (List.mem_of_getElem? (i := 38) rfl))) (mvT hZ (hw _ (List.mem_of_getElem? (i := 37) rfl))) (by decide) (own_eqW (W := 0) hZ hw n0 (⟨t121, kb121, Nb121, vs121, (Es121.ext E122), (Fv121.ext E122), (Fc121.ext E122), (Vb121.ext E122), cd121, rg121, ln121⟩ : own_Str Z h122 b119 []) (⟨tb122, kb122, (11 : Int32), [(.int (105 : Int32)), (.int (110 : Int32)), (.int (45 : Int32)), (.int (112 : Int32)), (.int (114 : Int32)), (.int (111 : Int32)), (.int (103 : Int32)), (.int (114 : Int32)), (.int (101 : Int32)), (.int (115 : Int32)), (.int (115 : Int32))], Ex122, Fv122, Fc122, Vb122, (Or.inl ⟨rfl, rfl, rfl, by decide⟩), (by decide), (by decide)⟩ : own_Str Z h122 la122 [(105 : Int32), (110 : Int32), (45 : Int32), (112 : Int32), (114 : Int32), (111 : Int32), (103 : Int32), (114 : Int32), (101 : Int32), (115 : Int32), (115 : Int32)]) (S_String_COMPACT_STRINGS.ext O122.2) hzC (by decide) (by decide)) q123a q123c (g := (mkF m 398 #[.val (.int p0), .val (.int p1), .val (.int p2), .val (.int p3), .val (.int v6), .val (.ref ab), .val (.int v68), .val (.int v73), .val (.int (0 : Int32)), .val (.int v127), .val (.ref b106), .val (.ref b119), .val .null] [(.ref la122), (.ref b119)])) rfl (by rw [hml]; rfl) (Steps.refl _) (argsL := [(.ref la122)]) (rest := []) (lenOf pd_2 rfl) rfl (by show 2 * 0 + _ ≤ _; exact Nat.le_of_eq rfl) (hb hby at_398) (fun _ _ => ⟨rfl, e122, (by decide : 10 + 0 ≤ 32), (by decide : 120 + 0 ≤ 5312)⟩)
                                  dsimp only [Pt.U, Pt.locs, Pt.cells, Pt.slots] at X123 l123 y123 z123 st123 hQ123
                                  subst l123 y123 z123
                                  obtain ⟨rfl, N123q, K123⟩ := hQ123
                                  have N123 := Fr.app N120 N123q
                                  have e123 : T123.heap = h122 := K123
                                  refine own_go (B := T123.setTop (mkF m 401 #[.val (.int p0), .val (.int p1), .val (.int p2), .val (.int p3), .val (.int v6), .val (.ref ab), .val (.int v68), .val (.int v73), .val (.int (0 : Int32)), .val (.int v127), .val (.ref b106), .val (.ref b119), .val .null] [(.int (own_eqs [] [(105 : Int32), (110 : Int32), (45 : Int32), (112 : Int32), (114 : Int32), (111 : Int32), (103 : Int32), (114 : Int32), (101 : Int32), (115 : Int32), (115 : Int32)]))])) (fun _ k => st123.trans k) ?_
                                  by_cases hc401 : (own_eqs [] [(105 : Int32), (110 : Int32), (45 : Int32), (112 : Int32), (114 : Int32), (111 : Int32), (103 : Int32), (114 : Int32), (101 : Int32), (115 : Int32), (115 : Int32)]) = (0 : Int32)
                                  · refine own_go (B := T123.setTop (mkF m 409 #[.val (.int p0), .val (.int p1), .val (.int p2), .val (.int p3), .val (.int v6), .val (.ref ab), .val (.int v68), .val (.int v73), .val (.int (0 : Int32)), .val (.int v127), .val (.ref b106), .val (.ref b119), .val .null] [])) (fun _ k => XS.ifYes X123.here hx rfl (pc0 := 401) (pc' := 409) rfl (hb hby at_401) rfl ((if0 _ _).trans (teq hc401).1) (by decide) (by decide) k) ?_
                                    refine own_go (B := T123.setTop (mkF m 411 #[.val (.int p0), .val (.int p1), .val (.int p2), .val (.int p3), .val (.int v6), .val (.ref ab), .val (.int v68), .val (.int v73), .val (.int (0 : Int32)), .val (.int v127), .val (.ref b106), .val (.ref b119), .val .null] [(.ref b119)])) (fun _ k => XS.aload X123.here hx rfl (hb hby at_409) rfl rfl k) ?_
                                    obtain ⟨la124, T124, h124, k124, tb124, kb124, X124, e124, E124, SN124, hk124, hZ, hown, Ex124, Fc124, Fv124, Vb124, -, -, CRq124, -, Ne124, st124⟩ := ldcCH (s := s) (vm0 := T122.vm) X123 hx hZ hown (hw _ (List.mem_of_getElem? (i := 45) rfl)) wS e123 SN122 hk122 hEL (by decide) CH122 (vs := [(.int (99 : Int32)), (.int (111 : Int32)), (.int (109 : Int32)), (.int (112 : Int32)), (.int (108 : Int32)), (.int (101 : Int32)), (.int (116 : Int32)), (.int (101 : Int32)), (.int (100 : Int32))]) (z := (9 : Int32)) ⟨by decide, rfl⟩ (by decide) rfl (g := (mkF m 411 #[.val (.int p0), .val (.int p1), .val (.int p2), .val (.int p3), .val (.int v6), .val (.ref ab), .val (.int v68), .val (.int v73), .val (.int (0 : Int32)), .val (.int v127), .val (.ref b106), .val (.ref b119), .val .null] [(.ref b119)])) rfl (hb hby at_411) (n := 36) (by decide) (by decide) (by decide) (by decide)
                                    have O124 := O122.ext E124
                                    have K124' : Keep h0 h124 ([] : List Addr) := K122'.ext E124
                                    have CH124 := CRq124.1
                                    have CR124 := CR122.trans CRq124
                                    have nl124_b119 := Ne124 b119 (CHr.safe CRq124 (Es121.ext E122).lt (CHr.safe CRq122 Es121.lt (CHr.safe CRq120 A119.lt Sf_b119)))
                                    refine own_go (B := T124.setTop (mkF m 413 #[.val (.int p0), .val (.int p1), .val (.int p2), .val (.int p3), .val (.int v6), .val (.ref ab), .val (.int v68), .val (.int v73), .val (.int (0 : Int32)), .val (.int v127), .val (.ref b106), .val (.ref b119), .val .null] [(.ref la124), (.ref b119)])) (st124) ?_
                                    obtain ⟨cq125, kq125, q125a, q125b, q125c⟩ := isOf hZ e124 ((Es121.ext E122).ext E124)
                                    obtain ⟨_, _, ⟨T125, L125, k125, n125⟩, -, X125, ⟨Lc125, hQ125, l125, y125, z125⟩, st125⟩ := X124.virtualBack hx (y := (⟨"java/lang/String", "equals", "(Ljava/lang/Object;)Z"⟩ : MethodName)) (z := (⟨"java/lang/String", "equals", "(Ljava/lang/Object;)Z"⟩ : MethodName)) hown (mvT hZ (hw _ (List.mem_of_getElem? (i := 35) rfl))) (mvT hZ (hw _ (List.mem_of_getElem? (i := 36) rfl))) (notFace_of_selects (args := #[]) (mvT hZ (hw _ (List.mem_of_getElem? (i := 38) rfl)))) (mvT hZ (hw _ (List.mem_of_getElem? (i := 38) rfl))) (mvT hZ (hw _ (List.mem_of_getElem? (i := 37) rfl))) (by decide) (own_eqW (W := 0) hZ hw n0 (⟨t121, kb121, Nb121, vs121, ((Es121.ext E122).ext E124), ((Fv121.ext E122).ext E124), ((Fc121.ext E122).ext E124), ((Vb121.ext E122).ext E124), cd121, rg121, ln121⟩ : own_Str Z h124 b119 []) (⟨tb124, kb124, (9 : Int32), [(.int (99 : Int32)), (.int (111 : Int32)), (.int (109 : Int32)), (.int (112 : Int32)), (.int (108 : Int32)), (.int (101 : Int32)), (.int (116 : Int32)), (.int (101 : Int32)), (.int (100 : Int32))], Ex124, Fv124, Fc124, Vb124, (Or.inl ⟨rfl, rfl, rfl, by decide⟩), (by decide), (by decide)⟩ : own_Str Z h124 la124 [(99 : Int32), (111 : Int32), (109 : Int32), (112 : Int32), (108 : Int32), (101 : Int32), (116 : Int32), (101 : Int32), (100 : Int32)]) (S_String_COMPACT_STRINGS.ext O124.2) hzC (by decide) (by decide)) q125a q125c (g := (mkF m 413 #[.val (.int p0), .val (.int p1), .val (.int p2), .val (.int p3), .val (.int v6), .val (.ref ab), .val (.int v68), .val (.int v73), .val (.int (0 : Int32)), .val (.int v127), .val (.ref b106), .val (.ref b119), .val .null] [(.ref la124), (.ref b119)])) rfl (by rw [hml]; rfl) (Steps.refl _) (argsL := [(.ref la124)]) (rest := []) (lenOf pd_2 rfl) rfl (by show 2 * 0 + _ ≤ _; exact Nat.le_of_eq rfl) (hb hby at_413) (fun _ _ => ⟨rfl, e124, (by decide : 12 + 0 ≤ 32), (by decide : 160 + 0 ≤ 5312)⟩)
                                    dsimp only [Pt.U, Pt.locs, Pt.cells, Pt.slots] at X125 l125 y125 z125 st125 hQ125
                                    subst l125 y125 z125
                                    obtain ⟨rfl, N125q, K125⟩ := hQ125
                                    have N125 := Fr.app N123 N125q
                                    have e125 : T125.heap = h124 := K125
                                    refine own_go (B := T125.setTop (mkF m 416 #[.val (.int p0), .val (.int p1), .val (.int p2), .val (.int p3), .val (.int v6), .val (.ref ab), .val (.int v68), .val (.int v73), .val (.int (0 : Int32)), .val (.int v127), .val (.ref b106), .val (.ref b119), .val .null] [(.int (own_eqs [] [(99 : Int32), (111 : Int32), (109 : Int32), (112 : Int32), (108 : Int32), (101 : Int32), (116 : Int32), (101 : Int32), (100 : Int32)]))])) (fun _ k => st125.trans k) ?_
                                    by_cases hc416 : (own_eqs [] [(99 : Int32), (111 : Int32), (109 : Int32), (112 : Int32), (108 : Int32), (101 : Int32), (116 : Int32), (101 : Int32), (100 : Int32)]) = (0 : Int32)
                                    · refine own_go (B := T125.setTop (mkF m 424 #[.val (.int p0), .val (.int p1), .val (.int p2), .val (.int p3), .val (.int v6), .val (.ref ab), .val (.int v68), .val (.int v73), .val (.int (0 : Int32)), .val (.int v127), .val (.ref b106), .val (.ref b119), .val .null] [])) (fun _ k => XS.ifYes X125.here hx rfl (pc0 := 416) (pc' := 424) rfl (hb hby at_416) rfl ((if0 _ _).trans (teq hc416).1) (by decide) (by decide) k) ?_
                                      refine own_go (B := T125.setTop (mkF m 426 #[.val (.int p0), .val (.int p1), .val (.int p2), .val (.int p3), .val (.int v6), .val (.ref ab), .val (.int v68), .val (.int v73), .val (.int (0 : Int32)), .val (.int v127), .val (.ref b106), .val (.ref b119), .val .null] [(.ref b119)])) (fun _ k => XS.aload X125.here hx rfl (hb hby at_424) rfl rfl k) ?_
                                      obtain ⟨la126, T126, h126, k126, tb126, kb126, X126, e126, E126, SN126, hk126, hZ, hown, Ex126, Fc126, Fv126, Vb126, -, -, CRq126, -, Ne126, st126⟩ := ldcCH (s := s) (vm0 := T124.vm) X125 hx hZ hown (hw _ (List.mem_of_getElem? (i := 46) rfl)) wS e125 SN124 hk124 hEL (by decide) CH124 (vs := [(.int (102 : Int32)), (.int (97 : Int32)), (.int (105 : Int32)), (.int (108 : Int32)), (.int (101 : Int32)), (.int (100 : Int32))]) (z := (6 : Int32)) ⟨by decide, rfl⟩ (by decide) rfl (g := (mkF m 426 #[.val (.int p0), .val (.int p1), .val (.int p2), .val (.int p3), .val (.int v6), .val (.ref ab), .val (.int v68), .val (.int v73), .val (.int (0 : Int32)), .val (.int v127), .val (.ref b106), .val (.ref b119), .val .null] [(.ref b119)])) rfl (hb hby at_426) (n := 24) (by decide) (by decide) (by decide) (by decide)
                                      have O126 := O124.ext E126
                                      have K126' : Keep h0 h126 ([] : List Addr) := K124'.ext E126
                                      have CH126 := CRq126.1
                                      have CR126 := CR124.trans CRq126
                                      have nl126_b119 := Ne126 b119 (CHr.safe CRq126 ((Es121.ext E122).ext E124).lt (CHr.safe CRq124 (Es121.ext E122).lt (CHr.safe CRq122 Es121.lt (CHr.safe CRq120 A119.lt Sf_b119))))
                                      refine own_go (B := T126.setTop (mkF m 428 #[.val (.int p0), .val (.int p1), .val (.int p2), .val (.int p3), .val (.int v6), .val (.ref ab), .val (.int v68), .val (.int v73), .val (.int (0 : Int32)), .val (.int v127), .val (.ref b106), .val (.ref b119), .val .null] [(.ref la126), (.ref b119)])) (st126) ?_
                                      obtain ⟨cq127, kq127, q127a, q127b, q127c⟩ := isOf hZ e126 (((Es121.ext E122).ext E124).ext E126)
                                      obtain ⟨_, _, ⟨T127, L127, k127, n127⟩, -, X127, ⟨Lc127, hQ127, l127, y127, z127⟩, st127⟩ := X126.virtualBack hx (y := (⟨"java/lang/String", "equals", "(Ljava/lang/Object;)Z"⟩ : MethodName)) (z := (⟨"java/lang/String", "equals", "(Ljava/lang/Object;)Z"⟩ : MethodName)) hown (mvT hZ (hw _ (List.mem_of_getElem? (i := 35) rfl))) (mvT hZ (hw _ (List.mem_of_getElem? (i := 36) rfl))) (notFace_of_selects (args := #[]) (mvT hZ (hw _ (List.mem_of_getElem? (i := 38) rfl)))) (mvT hZ (hw _ (List.mem_of_getElem? (i := 38) rfl))) (mvT hZ (hw _ (List.mem_of_getElem? (i := 37) rfl))) (by decide) (own_eqW (W := 0) hZ hw n0 (⟨t121, kb121, Nb121, vs121, (((Es121.ext E122).ext E124).ext E126), (((Fv121.ext E122).ext E124).ext E126), (((Fc121.ext E122).ext E124).ext E126), (((Vb121.ext E122).ext E124).ext E126), cd121, rg121, ln121⟩ : own_Str Z h126 b119 []) (⟨tb126, kb126, (6 : Int32), [(.int (102 : Int32)), (.int (97 : Int32)), (.int (105 : Int32)), (.int (108 : Int32)), (.int (101 : Int32)), (.int (100 : Int32))], Ex126, Fv126, Fc126, Vb126, (Or.inl ⟨rfl, rfl, rfl, by decide⟩), (by decide), (by decide)⟩ : own_Str Z h126 la126 [(102 : Int32), (97 : Int32), (105 : Int32), (108 : Int32), (101 : Int32), (100 : Int32)]) (S_String_COMPACT_STRINGS.ext O126.2) hzC (by decide) (by decide)) q127a q127c (g := (mkF m 428 #[.val (.int p0), .val (.int p1), .val (.int p2), .val (.int p3), .val (.int v6), .val (.ref ab), .val (.int v68), .val (.int v73), .val (.int (0 : Int32)), .val (.int v127), .val (.ref b106), .val (.ref b119), .val .null] [(.ref la126), (.ref b119)])) rfl (by rw [hml]; rfl) (Steps.refl _) (argsL := [(.ref la126)]) (rest := []) (lenOf pd_2 rfl) rfl (by show 2 * 0 + _ ≤ _; exact Nat.le_of_eq rfl) (hb hby at_428) (fun _ _ => ⟨rfl, e126, (by decide : 14 + 0 ≤ 32), (by decide : 188 + 0 ≤ 5312)⟩)
                                      dsimp only [Pt.U, Pt.locs, Pt.cells, Pt.slots] at X127 l127 y127 z127 st127 hQ127
                                      subst l127 y127 z127
                                      obtain ⟨rfl, N127q, K127⟩ := hQ127
                                      have N127 := Fr.app N125 N127q
                                      have e127 : T127.heap = h126 := K127
                                      refine own_go (B := T127.setTop (mkF m 431 #[.val (.int p0), .val (.int p1), .val (.int p2), .val (.int p3), .val (.int v6), .val (.ref ab), .val (.int v68), .val (.int v73), .val (.int (0 : Int32)), .val (.int v127), .val (.ref b106), .val (.ref b119), .val .null] [(.int (own_eqs [] [(102 : Int32), (97 : Int32), (105 : Int32), (108 : Int32), (101 : Int32), (100 : Int32)]))])) (fun _ k => st127.trans k) ?_
                                      by_cases hc431 : (own_eqs [] [(102 : Int32), (97 : Int32), (105 : Int32), (108 : Int32), (101 : Int32), (100 : Int32)]) = (0 : Int32)
                                      · refine own_go (B := T127.setTop (mkF m 439 #[.val (.int p0), .val (.int p1), .val (.int p2), .val (.int p3), .val (.int v6), .val (.ref ab), .val (.int v68), .val (.int v73), .val (.int (0 : Int32)), .val (.int v127), .val (.ref b106), .val (.ref b119), .val .null] [])) (fun _ k => XS.ifYes X127.here hx rfl (pc0 := 431) (pc' := 439) rfl (hb hby at_431) rfl ((if0 _ _).trans (teq hc431).1) (by decide) (by decide) k) ?_
                                        refine own_go (B := T127.setTop (mkF m 441 #[.val (.int p0), .val (.int p1), .val (.int p2), .val (.int p3), .val (.int v6), .val (.ref ab), .val (.int v68), .val (.int v73), .val (.int (0 : Int32)), .val (.int v127), .val (.ref b106), .val (.ref b119), .val .null] [(.ref b119)])) (fun _ k => XS.aload X127.here hx rfl (hb hby at_439) rfl rfl k) ?_
                                        obtain ⟨_, _, ⟨T128, L128, k128, n128⟩, -, X128, ⟨Lc128, hQ128, l128, y128, z128⟩, st128⟩ := Jvm.LawKit.callS X127 hx (y := (⟨"com/example/void_repeat/voidrepeat/jdbc/RowState", "of", "(Ljava/lang/String;)Lcom/example/void_repeat/voidrepeat/jdbc/RowState;"⟩ : MethodName)) hown (mvT hZ (hw _ (List.mem_of_getElem? (i := 47) rfl))) (mvT hZ (hw _ (List.mem_of_getElem? (i := 48) rfl))) (mvT hZ (hw _ (List.mem_of_getElem? (i := 49) rfl))) (mvT hZ (hw _ (List.mem_of_getElem? (i := 50) rfl))) (by decide) (backOf (W := 0) (rmOfS l Z a0 hw [] wV wI wC wF sI tI sC tC sF tF k_wV k_tI k_tC k_tF zC fm G b119 [] h126 n0 (Nat.le_trans Z0 K126'.1) O126 (⟨t121, kb121, Nb121, vs121, (((Es121.ext E122).ext E124).ext E126), (((Fv121.ext E122).ext E124).ext E126), (((Fc121.ext E122).ext E124).ext E126), (((Vb121.ext E122).ext E124).ext E126), cd121, rg121, ln121⟩ : own_Str Z h126 b119 [])) hZ (hw _ (List.mem_of_getElem? (i := 50) rfl)) (hw _ (List.mem_of_getElem? (i := 49) rfl)) (by decide) (by decide)) (g := (mkF m 441 #[.val (.int p0), .val (.int p1), .val (.int p2), .val (.int p3), .val (.int v6), .val (.ref ab), .val (.int v68), .val (.int v73), .val (.int (0 : Int32)), .val (.int v127), .val (.ref b106), .val (.ref b119), .val .null] [(.ref b119)])) rfl (by rw [hml]; rfl) (argsL := [(.ref b119)]) (rest := []) (lenOf pd_5 rfl) rfl (by show 2 * 0 + _ ≤ _; exact Nat.le_of_eq rfl) (hb hby at_441) (fun _ _ => ⟨rfl, e127, (by decide : 14 + 1 ≤ 32), (by decide : 188 + 3 ≤ 5312)⟩)
                                        dsimp only [Pt.U, Pt.locs, Pt.cells, Pt.slots] at X128 l128 y128 z128 st128 hQ128
                                        subst l128 y128 z128
                                        obtain ⟨rfl, N128q, K128⟩ := hQ128
                                        have N128 := Fr.app N127 N128q
                                        have CH128 := CHv.keep K128 sf0 CH126
                                        have CR128 := CR126.trans (CHr.keep K128 sf0 CH126)
                                        have O128 := O126.keep K128 all0
                                        have K128' : Keep h0 T128.heap ([] : List Addr) := K126'.trans K128 all0
                                        refine own_go (B := T128.setTop (mkF m 444 #[.val (.int p0), .val (.int p1), .val (.int p2), .val (.int p3), .val (.int v6), .val (.ref ab), .val (.int v68), .val (.int v73), .val (.int (0 : Int32)), .val (.int v127), .val (.ref b106), .val (.ref b119), .val .null] [(own_st [] wI wC wF)])) (st128) ?_
                                        refine own_go (B := T128.setTop (mkF m 446 #[.val (.int p0), .val (.int p1), .val (.int p2), .val (.int p3), .val (.int v6), .val (.ref ab), .val (.int v68), .val (.int v73), .val (.int (0 : Int32)), .val (.int v127), .val (.ref b106), .val (.ref b119), .val .null] [.null, (own_st [] wI wC wF)])) (fun _ k => XS.aload X128.here hx rfl (hb hby at_444) rfl rfl k) ?_
                                        refine own_go (B := T128.setTop (mkF m 449 #[.val (.int p0), .val (.int p1), .val (.int p2), .val (.int p3), .val (.int v6), .val (.ref ab), .val (.int v68), .val (.int v73), .val (.int (0 : Int32)), .val (.int v127), .val (.ref b106), .val (.ref b119), .val .null] [])) (fun _ k => Jvm.RoadKit.acmp (g := (mkF m 446 #[.val (.int p0), .val (.int p1), .val (.int p2), .val (.int p3), .val (.int v6), .val (.ref ab), .val (.int v68), .val (.int v73), .val (.int (0 : Int32)), .val (.int v127), .val (.ref b106), .val (.ref b119), .val .null] [.null, (own_st [] wI wC wF)])) X128 hx rfl (own_st_ref [] wI wC wF) rfl (pc0 := 446) (pc' := 449) (same := true) rfl (hb hby at_446) rfl (decide_eq_true (by have q1 := own_eqs_eq hc401; have q2 := own_eqs_eq hc416; have q3 := own_eqs_eq hc431; simp only [own_st]; rw [if_neg (fun q => q1 q.symm), if_neg (fun q => q2 q.symm), if_neg (fun q => q3 q.symm)])) (by decide) (by decide) k) ?_
                                        refine own_go (B := T128.setTop (mkF m 450 #[.val (.int p0), .val (.int p1), .val (.int p2), .val (.int p3), .val (.int v6), .val (.ref ab), .val (.int v68), .val (.int v73), .val (.int (0 : Int32)), .val (.int v127), .val (.ref b106), .val (.ref b119), .val .null] [(.int (1 : Int32))])) (fun _ k => XS.iconst X128.here hx rfl (hb hby at_449) k) ?_
                                        refine own_go (B := T128.setTop (mkF m 454 #[.val (.int p0), .val (.int p1), .val (.int p2), .val (.int p3), .val (.int v6), .val (.ref ab), .val (.int v68), .val (.int v73), .val (.int (0 : Int32)), .val (.int v127), .val (.ref b106), .val (.ref b119), .val .null] [(.int (1 : Int32))])) (fun _ k => XS.goto X128.here hx rfl (pc0 := 450) (pc' := 454) rfl (hb hby at_450) (by decide) (by decide) k) ?_
                                        obtain ⟨fs, hr, hrun, hended, hW, hsame⟩ := X128.leave (v := some (.int (nar .boolean (1 : Int32)))) (fun h => by rw [Bd.returns] at h; cases h)
                                        obtain ⟨en1, en2, en3⟩ := State.Since.ended (s := s) (vm₁ := T126.vm) SN126 hW (by show _ ≤ T128.heap.size; exact (Nat.le_trans hk126 K128.1)) hsame
                                        have CRe := CR128.trans (CHv.at (s := s) (vm0 := T126.vm) X128 hZ hEL CH128)
                                        have CRf : CHr Z own_EL s.vm s.heap T128.vm T128.heap := by rw [hh]; exact CRe
                                        refine ⟨_, _, retN X128 hx (t := .boolean) Bd.returns (by simp) (hb hby at_454) hr, hrun, hended, _, _, rfl, ?_, CRf, ⟨_, rfl⟩, en1, en2, en3.mono (by decide) (by decide)⟩
                                        show Q_rm0 Z wV wI wC wF sI tI sC tC sF tF k_wV k_tI k_tC k_tF zC fm p0 p1 p2 p3 h0 n0 _ T128.heap _
                                        exact ⟨rfl, N128⟩
                                      · refine own_go (B := T127.setTop (mkF m 434 #[.val (.int p0), .val (.int p1), .val (.int p2), .val (.int p3), .val (.int v6), .val (.ref ab), .val (.int v68), .val (.int v73), .val (.int (0 : Int32)), .val (.int v127), .val (.ref b106), .val (.ref b119), .val .null] [])) (fun _ k => XS.ifNo X127.here hx rfl (hb hby at_431) rfl ((if0 _ _).trans (feq hc431).1) k) ?_
                                        obtain ⟨T129, X129, e129, st129⟩ := getS2 X127 hx hZ hown (host := "") (Or.inl (hw _ (List.mem_of_getElem? (i := 114) rfl))) Via.refl e127 (S_RowState_FAILED.ext O126.2) (g := (mkF m 434 #[.val (.int p0), .val (.int p1), .val (.int p2), .val (.int p3), .val (.int v6), .val (.ref ab), .val (.int v68), .val (.int v73), .val (.int (0 : Int32)), .val (.int v127), .val (.ref b106), .val (.ref b119), .val .null] [])) rfl (hb hby at_434)
                                        refine own_go (B := T129.setTop (mkF m 437 #[.val (.int p0), .val (.int p1), .val (.int p2), .val (.int p3), .val (.int v6), .val (.ref ab), .val (.int v68), .val (.int v73), .val (.int (0 : Int32)), .val (.int v127), .val (.ref b106), .val (.ref b119), .val .null] [(.ref wF)])) (st129) ?_
                                        refine own_go (B := T129.setTop (mkF m 439 #[.val (.int p0), .val (.int p1), .val (.int p2), .val (.int p3), .val (.int v6), .val (.ref ab), .val (.int v68), .val (.int v73), .val (.int (0 : Int32)), .val (.int v127), .val (.ref b106), .val (.ref b119), .val (.ref wF)] [])) (fun _ k => XS.astore X129.here hx rfl (hb hby at_437) rfl rfl (l' := #[.val (.int p0), .val (.int p1), .val (.int p2), .val (.int p3), .val (.int v6), .val (.ref ab), .val (.int v68), .val (.int v73), .val (.int (0 : Int32)), .val (.int v127), .val (.ref b106), .val (.ref b119), .val (.ref wF)]) rfl k) ?_
                                        refine own_go (B := T129.setTop (mkF m 441 #[.val (.int p0), .val (.int p1), .val (.int p2), .val (.int p3), .val (.int v6), .val (.ref ab), .val (.int v68), .val (.int v73), .val (.int (0 : Int32)), .val (.int v127), .val (.ref b106), .val (.ref b119), .val (.ref wF)] [(.ref b119)])) (fun _ k => XS.aload X129.here hx rfl (hb hby at_439) rfl rfl k) ?_
                                        obtain ⟨_, _, ⟨T130, L130, k130, n130⟩, -, X130, ⟨Lc130, hQ130, l130, y130, z130⟩, st130⟩ := Jvm.LawKit.callS X129 hx (y := (⟨"com/example/void_repeat/voidrepeat/jdbc/RowState", "of", "(Ljava/lang/String;)Lcom/example/void_repeat/voidrepeat/jdbc/RowState;"⟩ : MethodName)) hown (mvT hZ (hw _ (List.mem_of_getElem? (i := 47) rfl))) (mvT hZ (hw _ (List.mem_of_getElem? (i := 48) rfl))) (mvT hZ (hw _ (List.mem_of_getElem? (i := 49) rfl))) (mvT hZ (hw _ (List.mem_of_getElem? (i := 50) rfl))) (by decide) (backOf (W := 0) (rmOfS l Z a0 hw [] wV wI wC wF sI tI sC tC sF tF k_wV k_tI k_tC k_tF zC fm G b119 [] h126 n0 (Nat.le_trans Z0 K126'.1) O126 (⟨t121, kb121, Nb121, vs121, (((Es121.ext E122).ext E124).ext E126), (((Fv121.ext E122).ext E124).ext E126), (((Fc121.ext E122).ext E124).ext E126), (((Vb121.ext E122).ext E124).ext E126), cd121, rg121, ln121⟩ : own_Str Z h126 b119 [])) hZ (hw _ (List.mem_of_getElem? (i := 50) rfl)) (hw _ (List.mem_of_getElem? (i := 49) rfl)) (by decide) (by decide)) (g := (mkF m 441 #[.val (.int p0), .val (.int p1), .val (.int p2), .val (.int p3), .val (.int v6), .val (.ref ab), .val (.int v68), .val (.int v73), .val (.int (0 : Int32)), .val (.int v127), .val (.ref b106), .val (.ref b119), .val (.ref wF)] [(.ref b119)])) rfl (by rw [hml]; rfl) (argsL := [(.ref b119)]) (rest := []) (lenOf pd_5 rfl) rfl (by show 2 * 0 + _ ≤ _; exact Nat.le_of_eq rfl) (hb hby at_441) (fun _ _ => ⟨rfl, e129, (by decide : 14 + 1 ≤ 32), (by decide : 188 + 3 ≤ 5312)⟩)
                                        dsimp only [Pt.U, Pt.locs, Pt.cells, Pt.slots] at X130 l130 y130 z130 st130 hQ130
                                        subst l130 y130 z130
                                        obtain ⟨rfl, N130q, K130⟩ := hQ130
                                        have N130 := Fr.app N127 N130q
                                        have CH130 := CHv.keep K130 sf0 CH126
                                        have CR130 := CR126.trans (CHr.keep K130 sf0 CH126)
                                        have O130 := O126.keep K130 all0
                                        have K130' : Keep h0 T130.heap ([] : List Addr) := K126'.trans K130 all0
                                        refine own_go (B := T130.setTop (mkF m 444 #[.val (.int p0), .val (.int p1), .val (.int p2), .val (.int p3), .val (.int v6), .val (.ref ab), .val (.int v68), .val (.int v73), .val (.int (0 : Int32)), .val (.int v127), .val (.ref b106), .val (.ref b119), .val (.ref wF)] [(own_st [] wI wC wF)])) (st130) ?_
                                        refine own_go (B := T130.setTop (mkF m 446 #[.val (.int p0), .val (.int p1), .val (.int p2), .val (.int p3), .val (.int v6), .val (.ref ab), .val (.int v68), .val (.int v73), .val (.int (0 : Int32)), .val (.int v127), .val (.ref b106), .val (.ref b119), .val (.ref wF)] [(.ref wF), (own_st [] wI wC wF)])) (fun _ k => XS.aload X130.here hx rfl (hb hby at_444) rfl rfl k) ?_
                                        refine own_go (B := T130.setTop (mkF m 449 #[.val (.int p0), .val (.int p1), .val (.int p2), .val (.int p3), .val (.int v6), .val (.ref ab), .val (.int v68), .val (.int v73), .val (.int (0 : Int32)), .val (.int v127), .val (.ref b106), .val (.ref b119), .val (.ref wF)] [])) (fun _ k => Jvm.RoadKit.acmp (g := (mkF m 446 #[.val (.int p0), .val (.int p1), .val (.int p2), .val (.int p3), .val (.int v6), .val (.ref ab), .val (.int v68), .val (.int v73), .val (.int (0 : Int32)), .val (.int v127), .val (.ref b106), .val (.ref b119), .val (.ref wF)] [(.ref wF), (own_st [] wI wC wF)])) X130 hx rfl (own_st_ref [] wI wC wF) rfl (pc0 := 446) (pc' := 449) (same := true) rfl (hb hby at_446) rfl (decide_eq_true (by rw [show [] = [(102 : Int32), (97 : Int32), (105 : Int32), (108 : Int32), (101 : Int32), (100 : Int32)] from own_eqs_ne hc431]; simp [own_st])) (by decide) (by decide) k) ?_
                                        refine own_go (B := T130.setTop (mkF m 450 #[.val (.int p0), .val (.int p1), .val (.int p2), .val (.int p3), .val (.int v6), .val (.ref ab), .val (.int v68), .val (.int v73), .val (.int (0 : Int32)), .val (.int v127), .val (.ref b106), .val (.ref b119), .val (.ref wF)] [(.int (1 : Int32))])) (fun _ k => XS.iconst X130.here hx rfl (hb hby at_449) k) ?_
                                        refine own_go (B := T130.setTop (mkF m 454 #[.val (.int p0), .val (.int p1), .val (.int p2), .val (.int p3), .val (.int v6), .val (.ref ab), .val (.int v68), .val (.int v73), .val (.int (0 : Int32)), .val (.int v127), .val (.ref b106), .val (.ref b119), .val (.ref wF)] [(.int (1 : Int32))])) (fun _ k => XS.goto X130.here hx rfl (pc0 := 450) (pc' := 454) rfl (hb hby at_450) (by decide) (by decide) k) ?_
                                        obtain ⟨fs, hr, hrun, hended, hW, hsame⟩ := X130.leave (v := some (.int (nar .boolean (1 : Int32)))) (fun h => by rw [Bd.returns] at h; cases h)
                                        obtain ⟨en1, en2, en3⟩ := State.Since.ended (s := s) (vm₁ := T126.vm) SN126 hW (by show _ ≤ T130.heap.size; exact (Nat.le_trans hk126 K130.1)) hsame
                                        have CRe := CR130.trans (CHv.at (s := s) (vm0 := T126.vm) X130 hZ hEL CH130)
                                        have CRf : CHr Z own_EL s.vm s.heap T130.vm T130.heap := by rw [hh]; exact CRe
                                        refine ⟨_, _, retN X130 hx (t := .boolean) Bd.returns (by simp) (hb hby at_454) hr, hrun, hended, _, _, rfl, ?_, CRf, ⟨_, rfl⟩, en1, en2, en3.mono (by decide) (by decide)⟩
                                        show Q_rm0 Z wV wI wC wF sI tI sC tC sF tF k_wV k_tI k_tC k_tF zC fm p0 p1 p2 p3 h0 n0 _ T130.heap _
                                        exact ⟨rfl, N130⟩
                                    · refine own_go (B := T125.setTop (mkF m 419 #[.val (.int p0), .val (.int p1), .val (.int p2), .val (.int p3), .val (.int v6), .val (.ref ab), .val (.int v68), .val (.int v73), .val (.int (0 : Int32)), .val (.int v127), .val (.ref b106), .val (.ref b119), .val .null] [])) (fun _ k => XS.ifNo X125.here hx rfl (hb hby at_416) rfl ((if0 _ _).trans (feq hc416).1) k) ?_
                                      obtain ⟨T131, X131, e131, st131⟩ := getS2 X125 hx hZ hown (host := "") (Or.inl (hw _ (List.mem_of_getElem? (i := 107) rfl))) Via.refl e125 (S_RowState_COMPLETED.ext O124.2) (g := (mkF m 419 #[.val (.int p0), .val (.int p1), .val (.int p2), .val (.int p3), .val (.int v6), .val (.ref ab), .val (.int v68), .val (.int v73), .val (.int (0 : Int32)), .val (.int v127), .val (.ref b106), .val (.ref b119), .val .null] [])) rfl (hb hby at_419)
                                      refine own_go (B := T131.setTop (mkF m 422 #[.val (.int p0), .val (.int p1), .val (.int p2), .val (.int p3), .val (.int v6), .val (.ref ab), .val (.int v68), .val (.int v73), .val (.int (0 : Int32)), .val (.int v127), .val (.ref b106), .val (.ref b119), .val .null] [(.ref wC)])) (st131) ?_
                                      refine own_go (B := T131.setTop (mkF m 424 #[.val (.int p0), .val (.int p1), .val (.int p2), .val (.int p3), .val (.int v6), .val (.ref ab), .val (.int v68), .val (.int v73), .val (.int (0 : Int32)), .val (.int v127), .val (.ref b106), .val (.ref b119), .val (.ref wC)] [])) (fun _ k => XS.astore X131.here hx rfl (hb hby at_422) rfl rfl (l' := #[.val (.int p0), .val (.int p1), .val (.int p2), .val (.int p3), .val (.int v6), .val (.ref ab), .val (.int v68), .val (.int v73), .val (.int (0 : Int32)), .val (.int v127), .val (.ref b106), .val (.ref b119), .val (.ref wC)]) rfl k) ?_
                                      refine own_go (B := T131.setTop (mkF m 426 #[.val (.int p0), .val (.int p1), .val (.int p2), .val (.int p3), .val (.int v6), .val (.ref ab), .val (.int v68), .val (.int v73), .val (.int (0 : Int32)), .val (.int v127), .val (.ref b106), .val (.ref b119), .val (.ref wC)] [(.ref b119)])) (fun _ k => XS.aload X131.here hx rfl (hb hby at_424) rfl rfl k) ?_
                                      obtain ⟨la132, T132, h132, k132, tb132, kb132, X132, e132, E132, SN132, hk132, hZ, hown, Ex132, Fc132, Fv132, Vb132, -, -, CRq132, -, Ne132, st132⟩ := ldcCH (s := s) (vm0 := T124.vm) X131 hx hZ hown (hw _ (List.mem_of_getElem? (i := 46) rfl)) wS e131 SN124 hk124 hEL (by decide) CH124 (vs := [(.int (102 : Int32)), (.int (97 : Int32)), (.int (105 : Int32)), (.int (108 : Int32)), (.int (101 : Int32)), (.int (100 : Int32))]) (z := (6 : Int32)) ⟨by decide, rfl⟩ (by decide) rfl (g := (mkF m 426 #[.val (.int p0), .val (.int p1), .val (.int p2), .val (.int p3), .val (.int v6), .val (.ref ab), .val (.int v68), .val (.int v73), .val (.int (0 : Int32)), .val (.int v127), .val (.ref b106), .val (.ref b119), .val (.ref wC)] [(.ref b119)])) rfl (hb hby at_426) (n := 24) (by decide) (by decide) (by decide) (by decide)
                                      have O132 := O124.ext E132
                                      have K132' : Keep h0 h132 ([] : List Addr) := K124'.ext E132
                                      have CH132 := CRq132.1
                                      have CR132 := CR124.trans CRq132
                                      have nl132_b119 := Ne132 b119 (CHr.safe CRq132 ((Es121.ext E122).ext E124).lt (CHr.safe CRq124 (Es121.ext E122).lt (CHr.safe CRq122 Es121.lt (CHr.safe CRq120 A119.lt Sf_b119))))
                                      refine own_go (B := T132.setTop (mkF m 428 #[.val (.int p0), .val (.int p1), .val (.int p2), .val (.int p3), .val (.int v6), .val (.ref ab), .val (.int v68), .val (.int v73), .val (.int (0 : Int32)), .val (.int v127), .val (.ref b106), .val (.ref b119), .val (.ref wC)] [(.ref la132), (.ref b119)])) (st132) ?_
                                      obtain ⟨cq133, kq133, q133a, q133b, q133c⟩ := isOf hZ e132 (((Es121.ext E122).ext E124).ext E132)
                                      obtain ⟨_, _, ⟨T133, L133, k133, n133⟩, -, X133, ⟨Lc133, hQ133, l133, y133, z133⟩, st133⟩ := X132.virtualBack hx (y := (⟨"java/lang/String", "equals", "(Ljava/lang/Object;)Z"⟩ : MethodName)) (z := (⟨"java/lang/String", "equals", "(Ljava/lang/Object;)Z"⟩ : MethodName)) hown (mvT hZ (hw _ (List.mem_of_getElem? (i := 35) rfl))) (mvT hZ (hw _ (List.mem_of_getElem? (i := 36) rfl))) (notFace_of_selects (args := #[]) (mvT hZ (hw _ (List.mem_of_getElem? (i := 38) rfl)))) (mvT hZ (hw _ (List.mem_of_getElem? (i := 38) rfl))) (mvT hZ (hw _ (List.mem_of_getElem? (i := 37) rfl))) (by decide) (own_eqW (W := 0) hZ hw n0 (⟨t121, kb121, Nb121, vs121, (((Es121.ext E122).ext E124).ext E132), (((Fv121.ext E122).ext E124).ext E132), (((Fc121.ext E122).ext E124).ext E132), (((Vb121.ext E122).ext E124).ext E132), cd121, rg121, ln121⟩ : own_Str Z h132 b119 []) (⟨tb132, kb132, (6 : Int32), [(.int (102 : Int32)), (.int (97 : Int32)), (.int (105 : Int32)), (.int (108 : Int32)), (.int (101 : Int32)), (.int (100 : Int32))], Ex132, Fv132, Fc132, Vb132, (Or.inl ⟨rfl, rfl, rfl, by decide⟩), (by decide), (by decide)⟩ : own_Str Z h132 la132 [(102 : Int32), (97 : Int32), (105 : Int32), (108 : Int32), (101 : Int32), (100 : Int32)]) (S_String_COMPACT_STRINGS.ext O132.2) hzC (by decide) (by decide)) q133a q133c (g := (mkF m 428 #[.val (.int p0), .val (.int p1), .val (.int p2), .val (.int p3), .val (.int v6), .val (.ref ab), .val (.int v68), .val (.int v73), .val (.int (0 : Int32)), .val (.int v127), .val (.ref b106), .val (.ref b119), .val (.ref wC)] [(.ref la132), (.ref b119)])) rfl (by rw [hml]; rfl) (Steps.refl _) (argsL := [(.ref la132)]) (rest := []) (lenOf pd_2 rfl) rfl (by show 2 * 0 + _ ≤ _; exact Nat.le_of_eq rfl) (hb hby at_428) (fun _ _ => ⟨rfl, e132, (by decide : 14 + 0 ≤ 32), (by decide : 188 + 0 ≤ 5312)⟩)
                                      dsimp only [Pt.U, Pt.locs, Pt.cells, Pt.slots] at X133 l133 y133 z133 st133 hQ133
                                      subst l133 y133 z133
                                      obtain ⟨rfl, N133q, K133⟩ := hQ133
                                      have N133 := Fr.app N125 N133q
                                      have e133 : T133.heap = h132 := K133
                                      refine own_go (B := T133.setTop (mkF m 431 #[.val (.int p0), .val (.int p1), .val (.int p2), .val (.int p3), .val (.int v6), .val (.ref ab), .val (.int v68), .val (.int v73), .val (.int (0 : Int32)), .val (.int v127), .val (.ref b106), .val (.ref b119), .val (.ref wC)] [(.int (own_eqs [] [(102 : Int32), (97 : Int32), (105 : Int32), (108 : Int32), (101 : Int32), (100 : Int32)]))])) (fun _ k => st133.trans k) ?_
                                      refine own_go (B := T133.setTop (mkF m 439 #[.val (.int p0), .val (.int p1), .val (.int p2), .val (.int p3), .val (.int v6), .val (.ref ab), .val (.int v68), .val (.int v73), .val (.int (0 : Int32)), .val (.int v127), .val (.ref b106), .val (.ref b119), .val (.ref wC)] [])) (fun _ k => XS.ifYes X133.here hx rfl (pc0 := 431) (pc' := 439) rfl (hb hby at_431) rfl ((if0 _ _).trans (teq (own_eqs_no (fun q => absurd (q.symm.trans (own_eqs_ne hc416)) (by decide)))).1) (by decide) (by decide) k) ?_
                                      refine own_go (B := T133.setTop (mkF m 441 #[.val (.int p0), .val (.int p1), .val (.int p2), .val (.int p3), .val (.int v6), .val (.ref ab), .val (.int v68), .val (.int v73), .val (.int (0 : Int32)), .val (.int v127), .val (.ref b106), .val (.ref b119), .val (.ref wC)] [(.ref b119)])) (fun _ k => XS.aload X133.here hx rfl (hb hby at_439) rfl rfl k) ?_
                                      obtain ⟨_, _, ⟨T134, L134, k134, n134⟩, -, X134, ⟨Lc134, hQ134, l134, y134, z134⟩, st134⟩ := Jvm.LawKit.callS X133 hx (y := (⟨"com/example/void_repeat/voidrepeat/jdbc/RowState", "of", "(Ljava/lang/String;)Lcom/example/void_repeat/voidrepeat/jdbc/RowState;"⟩ : MethodName)) hown (mvT hZ (hw _ (List.mem_of_getElem? (i := 47) rfl))) (mvT hZ (hw _ (List.mem_of_getElem? (i := 48) rfl))) (mvT hZ (hw _ (List.mem_of_getElem? (i := 49) rfl))) (mvT hZ (hw _ (List.mem_of_getElem? (i := 50) rfl))) (by decide) (backOf (W := 0) (rmOfS l Z a0 hw [] wV wI wC wF sI tI sC tC sF tF k_wV k_tI k_tC k_tF zC fm G b119 [] h132 n0 (Nat.le_trans Z0 K132'.1) O132 (⟨t121, kb121, Nb121, vs121, (((Es121.ext E122).ext E124).ext E132), (((Fv121.ext E122).ext E124).ext E132), (((Fc121.ext E122).ext E124).ext E132), (((Vb121.ext E122).ext E124).ext E132), cd121, rg121, ln121⟩ : own_Str Z h132 b119 [])) hZ (hw _ (List.mem_of_getElem? (i := 50) rfl)) (hw _ (List.mem_of_getElem? (i := 49) rfl)) (by decide) (by decide)) (g := (mkF m 441 #[.val (.int p0), .val (.int p1), .val (.int p2), .val (.int p3), .val (.int v6), .val (.ref ab), .val (.int v68), .val (.int v73), .val (.int (0 : Int32)), .val (.int v127), .val (.ref b106), .val (.ref b119), .val (.ref wC)] [(.ref b119)])) rfl (by rw [hml]; rfl) (argsL := [(.ref b119)]) (rest := []) (lenOf pd_5 rfl) rfl (by show 2 * 0 + _ ≤ _; exact Nat.le_of_eq rfl) (hb hby at_441) (fun _ _ => ⟨rfl, e133, (by decide : 14 + 1 ≤ 32), (by decide : 188 + 3 ≤ 5312)⟩)
                                      dsimp only [Pt.U, Pt.locs, Pt.cells, Pt.slots] at X134 l134 y134 z134 st134 hQ134
                                      subst l134 y134 z134
                                      obtain ⟨rfl, N134q, K134⟩ := hQ134
                                      have N134 := Fr.app N133 N134q
                                      have CH134 := CHv.keep K134 sf0 CH132
                                      have CR134 := CR132.trans (CHr.keep K134 sf0 CH132)
                                      have O134 := O132.keep K134 all0
                                      have K134' : Keep h0 T134.heap ([] : List Addr) := K132'.trans K134 all0
                                      refine own_go (B := T134.setTop (mkF m 444 #[.val (.int p0), .val (.int p1), .val (.int p2), .val (.int p3), .val (.int v6), .val (.ref ab), .val (.int v68), .val (.int v73), .val (.int (0 : Int32)), .val (.int v127), .val (.ref b106), .val (.ref b119), .val (.ref wC)] [(own_st [] wI wC wF)])) (st134) ?_
                                      refine own_go (B := T134.setTop (mkF m 446 #[.val (.int p0), .val (.int p1), .val (.int p2), .val (.int p3), .val (.int v6), .val (.ref ab), .val (.int v68), .val (.int v73), .val (.int (0 : Int32)), .val (.int v127), .val (.ref b106), .val (.ref b119), .val (.ref wC)] [(.ref wC), (own_st [] wI wC wF)])) (fun _ k => XS.aload X134.here hx rfl (hb hby at_444) rfl rfl k) ?_
                                      refine own_go (B := T134.setTop (mkF m 449 #[.val (.int p0), .val (.int p1), .val (.int p2), .val (.int p3), .val (.int v6), .val (.ref ab), .val (.int v68), .val (.int v73), .val (.int (0 : Int32)), .val (.int v127), .val (.ref b106), .val (.ref b119), .val (.ref wC)] [])) (fun _ k => Jvm.RoadKit.acmp (g := (mkF m 446 #[.val (.int p0), .val (.int p1), .val (.int p2), .val (.int p3), .val (.int v6), .val (.ref ab), .val (.int v68), .val (.int v73), .val (.int (0 : Int32)), .val (.int v127), .val (.ref b106), .val (.ref b119), .val (.ref wC)] [(.ref wC), (own_st [] wI wC wF)])) X134 hx rfl (own_st_ref [] wI wC wF) rfl (pc0 := 446) (pc' := 449) (same := true) rfl (hb hby at_446) rfl (decide_eq_true (by rw [show [] = [(99 : Int32), (111 : Int32), (109 : Int32), (112 : Int32), (108 : Int32), (101 : Int32), (116 : Int32), (101 : Int32), (100 : Int32)] from own_eqs_ne hc416]; simp [own_st])) (by decide) (by decide) k) ?_
                                      refine own_go (B := T134.setTop (mkF m 450 #[.val (.int p0), .val (.int p1), .val (.int p2), .val (.int p3), .val (.int v6), .val (.ref ab), .val (.int v68), .val (.int v73), .val (.int (0 : Int32)), .val (.int v127), .val (.ref b106), .val (.ref b119), .val (.ref wC)] [(.int (1 : Int32))])) (fun _ k => XS.iconst X134.here hx rfl (hb hby at_449) k) ?_
                                      refine own_go (B := T134.setTop (mkF m 454 #[.val (.int p0), .val (.int p1), .val (.int p2), .val (.int p3), .val (.int v6), .val (.ref ab), .val (.int v68), .val (.int v73), .val (.int (0 : Int32)), .val (.int v127), .val (.ref b106), .val (.ref b119), .val (.ref wC)] [(.int (1 : Int32))])) (fun _ k => XS.goto X134.here hx rfl (pc0 := 450) (pc' := 454) rfl (hb hby at_450) (by decide) (by decide) k) ?_
                                      obtain ⟨fs, hr, hrun, hended, hW, hsame⟩ := X134.leave (v := some (.int (nar .boolean (1 : Int32)))) (fun h => by rw [Bd.returns] at h; cases h)
                                      obtain ⟨en1, en2, en3⟩ := State.Since.ended (s := s) (vm₁ := T132.vm) SN132 hW (by show _ ≤ T134.heap.size; exact (Nat.le_trans hk132 K134.1)) hsame
                                      have CRe := CR134.trans (CHv.at (s := s) (vm0 := T132.vm) X134 hZ hEL CH134)
                                      have CRf : CHr Z own_EL s.vm s.heap T134.vm T134.heap := by rw [hh]; exact CRe
                                      refine ⟨_, _, retN X134 hx (t := .boolean) Bd.returns (by simp) (hb hby at_454) hr, hrun, hended, _, _, rfl, ?_, CRf, ⟨_, rfl⟩, en1, en2, en3.mono (by decide) (by decide)⟩
                                      show Q_rm0 Z wV wI wC wF sI tI sC tC sF tF k_wV k_tI k_tC k_tF zC fm p0 p1 p2 p3 h0 n0 _ T134.heap _
                                      exact ⟨rfl, N134⟩
                                  · refine own_go (B := T123.setTop (mkF m 404 #[.val (.int p0), .val (.int p1), .val (.int p2), .val (.int p3), .val (.int v6), .val (.ref ab), .val (.int v68), .val (.int v73), .val (.int (0 : Int32)), .val (.int v127), .val (.ref b106), .val (.ref b119), .val .null] [])) (fun _ k => XS.ifNo X123.here hx rfl (hb hby at_401) rfl ((if0 _ _).trans (feq hc401).1) k) ?_
                                    obtain ⟨T135, X135, e135, st135⟩ := getS2 X123 hx hZ hown (host := "") (Or.inl (hw _ (List.mem_of_getElem? (i := 113) rfl))) Via.refl e123 (S_RowState_IN_PROGRESS.ext O122.2) (g := (mkF m 404 #[.val (.int p0), .val (.int p1), .val (.int p2), .val (.int p3), .val (.int v6), .val (.ref ab), .val (.int v68), .val (.int v73), .val (.int (0 : Int32)), .val (.int v127), .val (.ref b106), .val (.ref b119), .val .null] [])) rfl (hb hby at_404)
                                    refine own_go (B := T135.setTop (mkF m 407 #[.val (.int p0), .val (.int p1), .val (.int p2), .val (.int p3), .val (.int v6), .val (.ref ab), .val (.int v68), .val (.int v73), .val (.int (0 : Int32)), .val (.int v127), .val (.ref b106), .val (.ref b119), .val .null] [(.ref wI)])) (st135) ?_
                                    refine own_go (B := T135.setTop (mkF m 409 #[.val (.int p0), .val (.int p1), .val (.int p2), .val (.int p3), .val (.int v6), .val (.ref ab), .val (.int v68), .val (.int v73), .val (.int (0 : Int32)), .val (.int v127), .val (.ref b106), .val (.ref b119), .val (.ref wI)] [])) (fun _ k => XS.astore X135.here hx rfl (hb hby at_407) rfl rfl (l' := #[.val (.int p0), .val (.int p1), .val (.int p2), .val (.int p3), .val (.int v6), .val (.ref ab), .val (.int v68), .val (.int v73), .val (.int (0 : Int32)), .val (.int v127), .val (.ref b106), .val (.ref b119), .val (.ref wI)]) rfl k) ?_
                                    refine own_go (B := T135.setTop (mkF m 411 #[.val (.int p0), .val (.int p1), .val (.int p2), .val (.int p3), .val (.int v6), .val (.ref ab), .val (.int v68), .val (.int v73), .val (.int (0 : Int32)), .val (.int v127), .val (.ref b106), .val (.ref b119), .val (.ref wI)] [(.ref b119)])) (fun _ k => XS.aload X135.here hx rfl (hb hby at_409) rfl rfl k) ?_
                                    obtain ⟨la136, T136, h136, k136, tb136, kb136, X136, e136, E136, SN136, hk136, hZ, hown, Ex136, Fc136, Fv136, Vb136, -, -, CRq136, -, Ne136, st136⟩ := ldcCH (s := s) (vm0 := T122.vm) X135 hx hZ hown (hw _ (List.mem_of_getElem? (i := 45) rfl)) wS e135 SN122 hk122 hEL (by decide) CH122 (vs := [(.int (99 : Int32)), (.int (111 : Int32)), (.int (109 : Int32)), (.int (112 : Int32)), (.int (108 : Int32)), (.int (101 : Int32)), (.int (116 : Int32)), (.int (101 : Int32)), (.int (100 : Int32))]) (z := (9 : Int32)) ⟨by decide, rfl⟩ (by decide) rfl (g := (mkF m 411 #[.val (.int p0), .val (.int p1), .val (.int p2), .val (.int p3), .val (.int v6), .val (.ref ab), .val (.int v68), .val (.int v73), .val (.int (0 : Int32)), .val (.int v127), .val (.ref b106), .val (.ref b119), .val (.ref wI)] [(.ref b119)])) rfl (hb hby at_411) (n := 36) (by decide) (by decide) (by decide) (by decide)
                                    have O136 := O122.ext E136
                                    have K136' : Keep h0 h136 ([] : List Addr) := K122'.ext E136
                                    have CH136 := CRq136.1
                                    have CR136 := CR122.trans CRq136
                                    have nl136_b119 := Ne136 b119 (CHr.safe CRq136 (Es121.ext E122).lt (CHr.safe CRq122 Es121.lt (CHr.safe CRq120 A119.lt Sf_b119)))
                                    refine own_go (B := T136.setTop (mkF m 413 #[.val (.int p0), .val (.int p1), .val (.int p2), .val (.int p3), .val (.int v6), .val (.ref ab), .val (.int v68), .val (.int v73), .val (.int (0 : Int32)), .val (.int v127), .val (.ref b106), .val (.ref b119), .val (.ref wI)] [(.ref la136), (.ref b119)])) (st136) ?_
                                    obtain ⟨cq137, kq137, q137a, q137b, q137c⟩ := isOf hZ e136 ((Es121.ext E122).ext E136)
                                    obtain ⟨_, _, ⟨T137, L137, k137, n137⟩, -, X137, ⟨Lc137, hQ137, l137, y137, z137⟩, st137⟩ := X136.virtualBack hx (y := (⟨"java/lang/String", "equals", "(Ljava/lang/Object;)Z"⟩ : MethodName)) (z := (⟨"java/lang/String", "equals", "(Ljava/lang/Object;)Z"⟩ : MethodName)) hown (mvT hZ (hw _ (List.mem_of_getElem? (i := 35) rfl))) (mvT hZ (hw _ (List.mem_of_getElem? (i := 36) rfl))) (notFace_of_selects (args := #[]) (mvT hZ (hw _ (List.mem_of_getElem? (i := 38) rfl)))) (mvT hZ (hw _ (List.mem_of_getElem? (i := 38) rfl))) (mvT hZ (hw _ (List.mem_of_getElem? (i := 37) rfl))) (by decide) (own_eqW (W := 0) hZ hw n0 (⟨t121, kb121, Nb121, vs121, ((Es121.ext E122).ext E136), ((Fv121.ext E122).ext E136), ((Fc121.ext E122).ext E136), ((Vb121.ext E122).ext E136), cd121, rg121, ln121⟩ : own_Str Z h136 b119 []) (⟨tb136, kb136, (9 : Int32), [(.int (99 : Int32)), (.int (111 : Int32)), (.int (109 : Int32)), (.int (112 : Int32)), (.int (108 : Int32)), (.int (101 : Int32)), (.int (116 : Int32)), (.int (101 : Int32)), (.int (100 : Int32))], Ex136, Fv136, Fc136, Vb136, (Or.inl ⟨rfl, rfl, rfl, by decide⟩), (by decide), (by decide)⟩ : own_Str Z h136 la136 [(99 : Int32), (111 : Int32), (109 : Int32), (112 : Int32), (108 : Int32), (101 : Int32), (116 : Int32), (101 : Int32), (100 : Int32)]) (S_String_COMPACT_STRINGS.ext O136.2) hzC (by decide) (by decide)) q137a q137c (g := (mkF m 413 #[.val (.int p0), .val (.int p1), .val (.int p2), .val (.int p3), .val (.int v6), .val (.ref ab), .val (.int v68), .val (.int v73), .val (.int (0 : Int32)), .val (.int v127), .val (.ref b106), .val (.ref b119), .val (.ref wI)] [(.ref la136), (.ref b119)])) rfl (by rw [hml]; rfl) (Steps.refl _) (argsL := [(.ref la136)]) (rest := []) (lenOf pd_2 rfl) rfl (by show 2 * 0 + _ ≤ _; exact Nat.le_of_eq rfl) (hb hby at_413) (fun _ _ => ⟨rfl, e136, (by decide : 12 + 0 ≤ 32), (by decide : 160 + 0 ≤ 5312)⟩)
                                    dsimp only [Pt.U, Pt.locs, Pt.cells, Pt.slots] at X137 l137 y137 z137 st137 hQ137
                                    subst l137 y137 z137
                                    obtain ⟨rfl, N137q, K137⟩ := hQ137
                                    have N137 := Fr.app N123 N137q
                                    have e137 : T137.heap = h136 := K137
                                    refine own_go (B := T137.setTop (mkF m 416 #[.val (.int p0), .val (.int p1), .val (.int p2), .val (.int p3), .val (.int v6), .val (.ref ab), .val (.int v68), .val (.int v73), .val (.int (0 : Int32)), .val (.int v127), .val (.ref b106), .val (.ref b119), .val (.ref wI)] [(.int (own_eqs [] [(99 : Int32), (111 : Int32), (109 : Int32), (112 : Int32), (108 : Int32), (101 : Int32), (116 : Int32), (101 : Int32), (100 : Int32)]))])) (fun _ k => st137.trans k) ?_
                                    refine own_go (B := T137.setTop (mkF m 424 #[.val (.int p0), .val (.int p1), .val (.int p2), .val (.int p3), .val (.int v6), .val (.ref ab), .val (.int v68), .val (.int v73), .val (.int (0 : Int32)), .val (.int v127), .val (.ref b106), .val (.ref b119), .val (.ref wI)] [])) (fun _ k => XS.ifYes X137.here hx rfl (pc0 := 416) (pc' := 424) rfl (hb hby at_416) rfl ((if0 _ _).trans (teq (own_eqs_no (fun q => absurd (q.symm.trans (own_eqs_ne hc401)) (by decide)))).1) (by decide) (by decide) k) ?_
                                    refine own_go (B := T137.setTop (mkF m 426 #[.val (.int p0), .val (.int p1), .val (.int p2), .val (.int p3), .val (.int v6), .val (.ref ab), .val (.int v68), .val (.int v73), .val (.int (0 : Int32)), .val (.int v127), .val (.ref b106), .val (.ref b119), .val (.ref wI)] [(.ref b119)])) (fun _ k => XS.aload X137.here hx rfl (hb hby at_424) rfl rfl k) ?_
                                    obtain ⟨la138, T138, h138, k138, tb138, kb138, X138, e138, E138, SN138, hk138, hZ, hown, Ex138, Fc138, Fv138, Vb138, -, -, CRq138, -, Ne138, st138⟩ := ldcCH (s := s) (vm0 := T136.vm) X137 hx hZ hown (hw _ (List.mem_of_getElem? (i := 46) rfl)) wS e137 SN136 hk136 hEL (by decide) CH136 (vs := [(.int (102 : Int32)), (.int (97 : Int32)), (.int (105 : Int32)), (.int (108 : Int32)), (.int (101 : Int32)), (.int (100 : Int32))]) (z := (6 : Int32)) ⟨by decide, rfl⟩ (by decide) rfl (g := (mkF m 426 #[.val (.int p0), .val (.int p1), .val (.int p2), .val (.int p3), .val (.int v6), .val (.ref ab), .val (.int v68), .val (.int v73), .val (.int (0 : Int32)), .val (.int v127), .val (.ref b106), .val (.ref b119), .val (.ref wI)] [(.ref b119)])) rfl (hb hby at_426) (n := 24) (by decide) (by decide) (by decide) (by decide)
                                    have O138 := O136.ext E138
                                    have K138' : Keep h0 h138 ([] : List Addr) := K136'.ext E138
                                    have CH138 := CRq138.1
                                    have CR138 := CR136.trans CRq138
                                    have nl138_b119 := Ne138 b119 (CHr.safe CRq138 ((Es121.ext E122).ext E136).lt (CHr.safe CRq136 (Es121.ext E122).lt (CHr.safe CRq122 Es121.lt (CHr.safe CRq120 A119.lt Sf_b119))))
                                    refine own_go (B := T138.setTop (mkF m 428 #[.val (.int p0), .val (.int p1), .val (.int p2), .val (.int p3), .val (.int v6), .val (.ref ab), .val (.int v68), .val (.int v73), .val (.int (0 : Int32)), .val (.int v127), .val (.ref b106), .val (.ref b119), .val (.ref wI)] [(.ref la138), (.ref b119)])) (st138) ?_
                                    obtain ⟨cq139, kq139, q139a, q139b, q139c⟩ := isOf hZ e138 (((Es121.ext E122).ext E136).ext E138)
                                    obtain ⟨_, _, ⟨T139, L139, k139, n139⟩, -, X139, ⟨Lc139, hQ139, l139, y139, z139⟩, st139⟩ := X138.virtualBack hx (y := (⟨"java/lang/String", "equals", "(Ljava/lang/Object;)Z"⟩ : MethodName)) (z := (⟨"java/lang/String", "equals", "(Ljava/lang/Object;)Z"⟩ : MethodName)) hown (mvT hZ (hw _ (List.mem_of_getElem? (i := 35) rfl))) (mvT hZ (hw _ (List.mem_of_getElem? (i := 36) rfl))) (notFace_of_selects (args := #[]) (mvT hZ (hw _ (List.mem_of_getElem? (i := 38) rfl)))) (mvT hZ (hw _ (List.mem_of_getElem? (i := 38) rfl))) (mvT hZ (hw _ (List.mem_of_getElem? (i := 37) rfl))) (by decide) (own_eqW (W := 0) hZ hw n0 (⟨t121, kb121, Nb121, vs121, (((Es121.ext E122).ext E136).ext E138), (((Fv121.ext E122).ext E136).ext E138), (((Fc121.ext E122).ext E136).ext E138), (((Vb121.ext E122).ext E136).ext E138), cd121, rg121, ln121⟩ : own_Str Z h138 b119 []) (⟨tb138, kb138, (6 : Int32), [(.int (102 : Int32)), (.int (97 : Int32)), (.int (105 : Int32)), (.int (108 : Int32)), (.int (101 : Int32)), (.int (100 : Int32))], Ex138, Fv138, Fc138, Vb138, (Or.inl ⟨rfl, rfl, rfl, by decide⟩), (by decide), (by decide)⟩ : own_Str Z h138 la138 [(102 : Int32), (97 : Int32), (105 : Int32), (108 : Int32), (101 : Int32), (100 : Int32)]) (S_String_COMPACT_STRINGS.ext O138.2) hzC (by decide) (by decide)) q139a q139c (g := (mkF m 428 #[.val (.int p0), .val (.int p1), .val (.int p2), .val (.int p3), .val (.int v6), .val (.ref ab), .val (.int v68), .val (.int v73), .val (.int (0 : Int32)), .val (.int v127), .val (.ref b106), .val (.ref b119), .val (.ref wI)] [(.ref la138), (.ref b119)])) rfl (by rw [hml]; rfl) (Steps.refl _) (argsL := [(.ref la138)]) (rest := []) (lenOf pd_2 rfl) rfl (by show 2 * 0 + _ ≤ _; exact Nat.le_of_eq rfl) (hb hby at_428) (fun _ _ => ⟨rfl, e138, (by decide : 14 + 0 ≤ 32), (by decide : 188 + 0 ≤ 5312)⟩)
                                    dsimp only [Pt.U, Pt.locs, Pt.cells, Pt.slots] at X139 l139 y139 z139 st139 hQ139
                                    subst l139 y139 z139
                                    obtain ⟨rfl, N139q, K139⟩ := hQ139
                                    have N139 := Fr.app N137 N139q
                                    have e139 : T139.heap = h138 := K139
                                    refine own_go (B := T139.setTop (mkF m 431 #[.val (.int p0), .val (.int p1), .val (.int p2), .val (.int p3), .val (.int v6), .val (.ref ab), .val (.int v68), .val (.int v73), .val (.int (0 : Int32)), .val (.int v127), .val (.ref b106), .val (.ref b119), .val (.ref wI)] [(.int (own_eqs [] [(102 : Int32), (97 : Int32), (105 : Int32), (108 : Int32), (101 : Int32), (100 : Int32)]))])) (fun _ k => st139.trans k) ?_
                                    refine own_go (B := T139.setTop (mkF m 439 #[.val (.int p0), .val (.int p1), .val (.int p2), .val (.int p3), .val (.int v6), .val (.ref ab), .val (.int v68), .val (.int v73), .val (.int (0 : Int32)), .val (.int v127), .val (.ref b106), .val (.ref b119), .val (.ref wI)] [])) (fun _ k => XS.ifYes X139.here hx rfl (pc0 := 431) (pc' := 439) rfl (hb hby at_431) rfl ((if0 _ _).trans (teq (own_eqs_no (fun q => absurd (q.symm.trans (own_eqs_ne hc401)) (by decide)))).1) (by decide) (by decide) k) ?_
                                    refine own_go (B := T139.setTop (mkF m 441 #[.val (.int p0), .val (.int p1), .val (.int p2), .val (.int p3), .val (.int v6), .val (.ref ab), .val (.int v68), .val (.int v73), .val (.int (0 : Int32)), .val (.int v127), .val (.ref b106), .val (.ref b119), .val (.ref wI)] [(.ref b119)])) (fun _ k => XS.aload X139.here hx rfl (hb hby at_439) rfl rfl k) ?_
                                    obtain ⟨_, _, ⟨T140, L140, k140, n140⟩, -, X140, ⟨Lc140, hQ140, l140, y140, z140⟩, st140⟩ := Jvm.LawKit.callS X139 hx (y := (⟨"com/example/void_repeat/voidrepeat/jdbc/RowState", "of", "(Ljava/lang/String;)Lcom/example/void_repeat/voidrepeat/jdbc/RowState;"⟩ : MethodName)) hown (mvT hZ (hw _ (List.mem_of_getElem? (i := 47) rfl))) (mvT hZ (hw _ (List.mem_of_getElem? (i := 48) rfl))) (mvT hZ (hw _ (List.mem_of_getElem? (i := 49) rfl))) (mvT hZ (hw _ (List.mem_of_getElem? (i := 50) rfl))) (by decide) (backOf (W := 0) (rmOfS l Z a0 hw [] wV wI wC wF sI tI sC tC sF tF k_wV k_tI k_tC k_tF zC fm G b119 [] h138 n0 (Nat.le_trans Z0 K138'.1) O138 (⟨t121, kb121, Nb121, vs121, (((Es121.ext E122).ext E136).ext E138), (((Fv121.ext E122).ext E136).ext E138), (((Fc121.ext E122).ext E136).ext E138), (((Vb121.ext E122).ext E136).ext E138), cd121, rg121, ln121⟩ : own_Str Z h138 b119 [])) hZ (hw _ (List.mem_of_getElem? (i := 50) rfl)) (hw _ (List.mem_of_getElem? (i := 49) rfl)) (by decide) (by decide)) (g := (mkF m 441 #[.val (.int p0), .val (.int p1), .val (.int p2), .val (.int p3), .val (.int v6), .val (.ref ab), .val (.int v68), .val (.int v73), .val (.int (0 : Int32)), .val (.int v127), .val (.ref b106), .val (.ref b119), .val (.ref wI)] [(.ref b119)])) rfl (by rw [hml]; rfl) (argsL := [(.ref b119)]) (rest := []) (lenOf pd_5 rfl) rfl (by show 2 * 0 + _ ≤ _; exact Nat.le_of_eq rfl) (hb hby at_441) (fun _ _ => ⟨rfl, e139, (by decide : 14 + 1 ≤ 32), (by decide : 188 + 3 ≤ 5312)⟩)
                                    dsimp only [Pt.U, Pt.locs, Pt.cells, Pt.slots] at X140 l140 y140 z140 st140 hQ140
                                    subst l140 y140 z140
                                    obtain ⟨rfl, N140q, K140⟩ := hQ140
                                    have N140 := Fr.app N139 N140q
                                    have CH140 := CHv.keep K140 sf0 CH138
                                    have CR140 := CR138.trans (CHr.keep K140 sf0 CH138)
                                    have O140 := O138.keep K140 all0
                                    have K140' : Keep h0 T140.heap ([] : List Addr) := K138'.trans K140 all0
                                    refine own_go (B := T140.setTop (mkF m 444 #[.val (.int p0), .val (.int p1), .val (.int p2), .val (.int p3), .val (.int v6), .val (.ref ab), .val (.int v68), .val (.int v73), .val (.int (0 : Int32)), .val (.int v127), .val (.ref b106), .val (.ref b119), .val (.ref wI)] [(own_st [] wI wC wF)])) (st140) ?_
                                    refine own_go (B := T140.setTop (mkF m 446 #[.val (.int p0), .val (.int p1), .val (.int p2), .val (.int p3), .val (.int v6), .val (.ref ab), .val (.int v68), .val (.int v73), .val (.int (0 : Int32)), .val (.int v127), .val (.ref b106), .val (.ref b119), .val (.ref wI)] [(.ref wI), (own_st [] wI wC wF)])) (fun _ k => XS.aload X140.here hx rfl (hb hby at_444) rfl rfl k) ?_
                                    refine own_go (B := T140.setTop (mkF m 449 #[.val (.int p0), .val (.int p1), .val (.int p2), .val (.int p3), .val (.int v6), .val (.ref ab), .val (.int v68), .val (.int v73), .val (.int (0 : Int32)), .val (.int v127), .val (.ref b106), .val (.ref b119), .val (.ref wI)] [])) (fun _ k => Jvm.RoadKit.acmp (g := (mkF m 446 #[.val (.int p0), .val (.int p1), .val (.int p2), .val (.int p3), .val (.int v6), .val (.ref ab), .val (.int v68), .val (.int v73), .val (.int (0 : Int32)), .val (.int v127), .val (.ref b106), .val (.ref b119), .val (.ref wI)] [(.ref wI), (own_st [] wI wC wF)])) X140 hx rfl (own_st_ref [] wI wC wF) rfl (pc0 := 446) (pc' := 449) (same := true) rfl (hb hby at_446) rfl (decide_eq_true (by rw [show [] = [(105 : Int32), (110 : Int32), (45 : Int32), (112 : Int32), (114 : Int32), (111 : Int32), (103 : Int32), (114 : Int32), (101 : Int32), (115 : Int32), (115 : Int32)] from own_eqs_ne hc401]; simp [own_st])) (by decide) (by decide) k) ?_
                                    refine own_go (B := T140.setTop (mkF m 450 #[.val (.int p0), .val (.int p1), .val (.int p2), .val (.int p3), .val (.int v6), .val (.ref ab), .val (.int v68), .val (.int v73), .val (.int (0 : Int32)), .val (.int v127), .val (.ref b106), .val (.ref b119), .val (.ref wI)] [(.int (1 : Int32))])) (fun _ k => XS.iconst X140.here hx rfl (hb hby at_449) k) ?_
                                    refine own_go (B := T140.setTop (mkF m 454 #[.val (.int p0), .val (.int p1), .val (.int p2), .val (.int p3), .val (.int v6), .val (.ref ab), .val (.int v68), .val (.int v73), .val (.int (0 : Int32)), .val (.int v127), .val (.ref b106), .val (.ref b119), .val (.ref wI)] [(.int (1 : Int32))])) (fun _ k => XS.goto X140.here hx rfl (pc0 := 450) (pc' := 454) rfl (hb hby at_450) (by decide) (by decide) k) ?_
                                    obtain ⟨fs, hr, hrun, hended, hW, hsame⟩ := X140.leave (v := some (.int (nar .boolean (1 : Int32)))) (fun h => by rw [Bd.returns] at h; cases h)
                                    obtain ⟨en1, en2, en3⟩ := State.Since.ended (s := s) (vm₁ := T138.vm) SN138 hW (by show _ ≤ T140.heap.size; exact (Nat.le_trans hk138 K140.1)) hsame
                                    have CRe := CR140.trans (CHv.at (s := s) (vm0 := T138.vm) X140 hZ hEL CH140)
                                    have CRf : CHr Z own_EL s.vm s.heap T140.vm T140.heap := by rw [hh]; exact CRe
                                    refine ⟨_, _, retN X140 hx (t := .boolean) Bd.returns (by simp) (hb hby at_454) hr, hrun, hended, _, _, rfl, ?_, CRf, ⟨_, rfl⟩, en1, en2, en3.mono (by decide) (by decide)⟩
                                    show Q_rm0 Z wV wI wC wF sI tI sC tC sF tF k_wV k_tI k_tC k_tF zC fm p0 p1 p2 p3 h0 n0 _ T140.heap _
                                    exact ⟨rfl, N140⟩
                                · have hnn' := hnn
                                  obtain ⟨T141, h141, X141, e141, E141, A141, D141, -, st141⟩ := newO Xj hx hZ hown (hw _ (List.mem_of_getElem? (i := 23) rfl)) (hw _ (List.mem_of_getElem? (i := 3) rfl)) (hw _ (List.mem_of_getElem? (i := 2) rfl)) ej (g := (mkF m 380 #[.val (.int p0), .val (.int p1), .val (.int p2), .val (.int p3), .val (.int v6), .val (.ref ab), .val (.int v68), .val (.int v73), .val (.int nn), .val (.int v127), .val (.ref b106), .unset, .unset] [])) rfl (hb hby at_380) (by decide) (by decide)
                                  obtain ⟨b141, g141⟩ : ∃ z, z = hj380.size := ⟨_, rfl⟩
                                  rw [← g141] at A141 D141 st141
                                  have g_b141 : n0 ≤ b141 := Nat.le_trans (Nat.le_trans Z0 Kj380.1) (Nat.le_of_eq g141.symm)
                                  have sz_b141 : h0.size ≤ b141 := Nat.le_trans Kj380.1 (Nat.le_of_eq g141.symm)
                                  have ne141_1 : b106 ≠ b141 := Nat.ne_of_lt (Nat.lt_of_lt_of_le Va11.lt (Nat.le_of_eq g141.symm))
                                  have CH141 := CHv.ext E141 CHj380
                                  have CR141 := CRj380.trans (CHr.ext E141 CHj380)
                                  have Sf_b141 := Safe.ext E141 CHj380 (Safe.new (Nat.le_of_eq g141.symm))
                                  have O141 := Oj380.ext E141
                                  have K141' : Keep h0 h141 ([] : List Addr) := Kj380.ext E141
                                  have F_value_b141 : Fld Z h141 b141 "java/lang/String" "value" "[B" .null := D141 (Or.inr (hw _ (List.mem_of_getElem? (i := 5) rfl))) (ty := (.array .byte)) (by decide)
                                  have F_coder_b141 : Fld Z h141 b141 "java/lang/String" "coder" "B" (.int (0 : Int32)) := D141 (Or.inr (hw _ (List.mem_of_getElem? (i := 6) rfl))) (ty := .byte) (by decide)
                                  refine own_go (B := T141.setTop (mkF m 383 #[.val (.int p0), .val (.int p1), .val (.int p2), .val (.int p3), .val (.int v6), .val (.ref ab), .val (.int v68), .val (.int v73), .val (.int nn), .val (.int v127), .val (.ref b106), .unset, .unset] [(.ref b141)])) (st141) ?_
                                  refine own_go (B := T141.setTop (mkF m 384 #[.val (.int p0), .val (.int p1), .val (.int p2), .val (.int p3), .val (.int v6), .val (.ref ab), .val (.int v68), .val (.int v73), .val (.int nn), .val (.int v127), .val (.ref b106), .unset, .unset] [(.ref b141), (.ref b141)])) (fun _ k => XS.dup X141.here hx rfl (hb hby at_383) rfl rfl k) ?_
                                  refine own_go (B := T141.setTop (mkF m 386 #[.val (.int p0), .val (.int p1), .val (.int p2), .val (.int p3), .val (.int v6), .val (.ref ab), .val (.int v68), .val (.int v73), .val (.int nn), .val (.int v127), .val (.ref b106), .unset, .unset] [(.ref b106), (.ref b141), (.ref b141)])) (fun _ k => XS.aload X141.here hx rfl (hb hby at_384) rfl rfl k) ?_
                                  obtain ⟨_, _, ⟨T142, L142, k142, n142⟩, -, X142, ⟨Lc142, hQ142, l142, y142, z142⟩, st142⟩ := X141.specialBack hx (y := (⟨"java/lang/String", "<init>", "([C)V"⟩ : MethodName)) rfl hown (mvT hZ (hw _ (List.mem_of_getElem? (i := 24) rfl))) (mvT hZ (hw _ (List.mem_of_getElem? (i := 25) rfl))) (mvT hZ (hw _ (List.mem_of_getElem? (i := 26) rfl))) (by decide) (own_newSn (W := 1) hZ hw n0 g_b141 (Nat.le_trans Z0 K141'.1) A141 F_value_b141 F_coder_b141 (Va11.ext E141) (cs := [(own_at cb 0 v127 p3), (own_at cb 1 v127 p3), (own_at cb 2 v127 p3), (own_at cb 3 v127 p3), (own_at cb 4 v127 p3), (own_at cb 5 v127 p3), (own_at cb 6 v127 p3), (own_at cb 7 v127 p3), (own_at cb 8 v127 p3), (own_at cb 9 v127 p3), (own_at cb 10 v127 p3), (own_at cb 11 v127 p3)]) rfl rfl (S_String_COMPACT_STRINGS.ext O141.2) hzC hnn hn0 (fun _ hc => by simp only [List.mem_cons, List.not_mem_nil, or_false] at hc; rcases hc with rfl | rfl | rfl | rfl | rfl | rfl | rfl | rfl | rfl | rfl | rfl | rfl <;> exact own_at_rg rg103 _ _ _) (by decide) (by decide)) (g := (mkF m 386 #[.val (.int p0), .val (.int p1), .val (.int p2), .val (.int p3), .val (.int v6), .val (.ref ab), .val (.int v68), .val (.int v73), .val (.int nn), .val (.int v127), .val (.ref b106), .unset, .unset] [(.ref b106), (.ref b141), (.ref b141)])) rfl (by rw [hml]; rfl) (Steps.refl _) (a := b141) (argsL := [(.ref b106)]) (rest := [(.ref b141)]) (lenOf pd_6 rfl) rfl (by show 2 * 0 + _ ≤ _; exact Nat.le_of_eq rfl) (hb hby at_386) (fun _ _ => ⟨rfl, e141, (by decide : 4 + 1 ≤ 32), (by decide : 64 + 12 ≤ 5312)⟩)
                                  dsimp only [Pt.U, Pt.locs, Pt.cells, Pt.slots] at X142 l142 y142 z142 st142 hQ142
                                  subst l142 y142 z142
                                  obtain ⟨rfl, N142q, K142, Str_142⟩ := hQ142
                                  have N142 := Fr.app Nj380 N142q
                                  have CH142 := CHv.keep K142 (sfS Sf_b141 sf0) CH141
                                  have CR142 := CR141.trans (CHr.keep K142 (sfS Sf_b141 sf0) CH141)
                                  have O142 := O141.keep K142 (allS g_b141 all0)
                                  have K142' : Keep h0 T142.heap ([] : List Addr) := K141'.trans K142 (allS (Or.inr sz_b141) all0)
                                  obtain ⟨t143, kb143, Nb143, vs143, Es143, Fv143, Fc143, Vb143, cd143, rg143, ln143⟩ := Str_142
                                  refine own_go (B := T142.setTop (mkF m 389 #[.val (.int p0), .val (.int p1), .val (.int p2), .val (.int p3), .val (.int v6), .val (.ref ab), .val (.int v68), .val (.int v73), .val (.int nn), .val (.int v127), .val (.ref b106), .unset, .unset] [(.ref b141)])) (fun _ k => st142.trans k) ?_
                                  refine own_go (B := T142.setTop (mkF m 391 #[.val (.int p0), .val (.int p1), .val (.int p2), .val (.int p3), .val (.int v6), .val (.ref ab), .val (.int v68), .val (.int v73), .val (.int nn), .val (.int v127), .val (.ref b106), .val (.ref b141), .unset] [])) (fun _ k => XS.astore X142.here hx rfl (hb hby at_389) rfl rfl (l' := #[.val (.int p0), .val (.int p1), .val (.int p2), .val (.int p3), .val (.int v6), .val (.ref ab), .val (.int v68), .val (.int v73), .val (.int nn), .val (.int v127), .val (.ref b106), .val (.ref b141), .unset]) rfl k) ?_
                                  refine own_go (B := T142.setTop (mkF m 392 #[.val (.int p0), .val (.int p1), .val (.int p2), .val (.int p3), .val (.int v6), .val (.ref ab), .val (.int v68), .val (.int v73), .val (.int nn), .val (.int v127), .val (.ref b106), .val (.ref b141), .unset] [.null])) (fun _ k => XS.aconstNull X142.here hx rfl (hb hby at_391) k) ?_
                                  refine own_go (B := T142.setTop (mkF m 394 #[.val (.int p0), .val (.int p1), .val (.int p2), .val (.int p3), .val (.int v6), .val (.ref ab), .val (.int v68), .val (.int v73), .val (.int nn), .val (.int v127), .val (.ref b106), .val (.ref b141), .val .null] [])) (fun _ k => XS.astore X142.here hx rfl (hb hby at_392) rfl rfl (l' := #[.val (.int p0), .val (.int p1), .val (.int p2), .val (.int p3), .val (.int v6), .val (.ref ab), .val (.int v68), .val (.int v73), .val (.int nn), .val (.int v127), .val (.ref b106), .val (.ref b141), .val .null]) rfl k) ?_
                                  refine own_go (B := T142.setTop (mkF m 396 #[.val (.int p0), .val (.int p1), .val (.int p2), .val (.int p3), .val (.int v6), .val (.ref ab), .val (.int v68), .val (.int v73), .val (.int nn), .val (.int v127), .val (.ref b106), .val (.ref b141), .val .null] [(.ref b141)])) (fun _ k => XS.aload X142.here hx rfl (hb hby at_394) rfl rfl k) ?_
                                  obtain ⟨la144, T144, h144, k144, tb144, kb144, X144, e144, E144, SN144, hk144, hZ, hown, Ex144, Fc144, Fv144, Vb144, -, -, CRq144, -, Ne144, st144⟩ := ldcCH (s := s) (vm0 := vm61) X142 hx hZ hown (hw _ (List.mem_of_getElem? (i := 1) rfl)) wS rfl SNj61 (Nat.le_trans (Nat.le_trans hkj380 E141.1) K142.1) hEL (by decide) CH142 (vs := [(.int (105 : Int32)), (.int (110 : Int32)), (.int (45 : Int32)), (.int (112 : Int32)), (.int (114 : Int32)), (.int (111 : Int32)), (.int (103 : Int32)), (.int (114 : Int32)), (.int (101 : Int32)), (.int (115 : Int32)), (.int (115 : Int32))]) (z := (11 : Int32)) ⟨by decide, rfl⟩ (by decide) rfl (g := (mkF m 396 #[.val (.int p0), .val (.int p1), .val (.int p2), .val (.int p3), .val (.int v6), .val (.ref ab), .val (.int v68), .val (.int v73), .val (.int nn), .val (.int v127), .val (.ref b106), .val (.ref b141), .val .null] [(.ref b141)])) rfl (hb hby at_396) (n := 44) (by decide) (by decide) (by decide) (by decide)
                                  have O144 := O142.ext E144
                                  have K144' : Keep h0 h144 ([] : List Addr) := K142'.ext E144
                                  have CH144 := CRq144.1
                                  have CR144 := CR142.trans CRq144
                                  have nl144_b141 := Ne144 b141 (CHr.safe CRq144 Es143.lt (Safe.keep K142 (sfS Sf_b141 sf0) CH141 Sf_b141))
                                  refine own_go (B := T144.setTop (mkF m 398 #[.val (.int p0), .val (.int p1), .val (.int p2), .val (.int p3), .val (.int v6), .val (.ref ab), .val (.int v68), .val (.int v73), .val (.int nn), .val (.int v127), .val (.ref b106), .val (.ref b141), .val .null] [(.ref la144), (.ref b141)])) (st144) ?_
                                  obtain ⟨cq145, kq145, q145a, q145b, q145c⟩ := isOf hZ e144 (Es143.ext E144)
                                  obtain ⟨_, _, ⟨T145, L145, k145, n145⟩, -, X145, ⟨Lc145, hQ145, l145, y145, z145⟩, st145⟩ := X144.virtualBack hx (y := (⟨"java/lang/String", "equals", "(Ljava/lang/Object;)Z"⟩ : MethodName)) (z := (⟨"java/lang/String", "equals", "(Ljava/lang/Object;)Z"⟩ : MethodName)) hown (mvT hZ (hw _ (List.mem_of_getElem? (i := 35) rfl))) (mvT hZ (hw _ (List.mem_of_getElem? (i := 36) rfl))) (notFace_of_selects (args := #[]) (mvT hZ (hw _ (List.mem_of_getElem? (i := 38) rfl)))) (mvT hZ (hw _ (List.mem_of_getElem? (i := 38) rfl))) (mvT hZ (hw _ (List.mem_of_getElem? (i := 37) rfl))) (by decide) (own_eqW (W := 0) hZ hw n0 (⟨t143, kb143, Nb143, vs143, (Es143.ext E144), (Fv143.ext E144), (Fc143.ext E144), (Vb143.ext E144), cd143, rg143, ln143⟩ : own_Str Z h144 b141 (List.take nn.toNatClampNeg [(own_at cb 0 v127 p3), (own_at cb 1 v127 p3), (own_at cb 2 v127 p3), (own_at cb 3 v127 p3), (own_at cb 4 v127 p3), (own_at cb 5 v127 p3), (own_at cb 6 v127 p3), (own_at cb 7 v127 p3), (own_at cb 8 v127 p3), (own_at cb 9 v127 p3), (own_at cb 10 v127 p3), (own_at cb 11 v127 p3)])) (⟨tb144, kb144, (11 : Int32), [(.int (105 : Int32)), (.int (110 : Int32)), (.int (45 : Int32)), (.int (112 : Int32)), (.int (114 : Int32)), (.int (111 : Int32)), (.int (103 : Int32)), (.int (114 : Int32)), (.int (101 : Int32)), (.int (115 : Int32)), (.int (115 : Int32))], Ex144, Fv144, Fc144, Vb144, (Or.inl ⟨rfl, rfl, rfl, by decide⟩), (by decide), (by decide)⟩ : own_Str Z h144 la144 [(105 : Int32), (110 : Int32), (45 : Int32), (112 : Int32), (114 : Int32), (111 : Int32), (103 : Int32), (114 : Int32), (101 : Int32), (115 : Int32), (115 : Int32)]) (S_String_COMPACT_STRINGS.ext O144.2) hzC (by decide) (by decide)) q145a q145c (g := (mkF m 398 #[.val (.int p0), .val (.int p1), .val (.int p2), .val (.int p3), .val (.int v6), .val (.ref ab), .val (.int v68), .val (.int v73), .val (.int nn), .val (.int v127), .val (.ref b106), .val (.ref b141), .val .null] [(.ref la144), (.ref b141)])) rfl (by rw [hml]; rfl) (Steps.refl _) (argsL := [(.ref la144)]) (rest := []) (lenOf pd_2 rfl) rfl (by show 2 * 0 + _ ≤ _; exact Nat.le_of_eq rfl) (hb hby at_398) (fun _ _ => ⟨rfl, e144, (by decide : 7 + 0 ≤ 32), (by decide : 124 + 0 ≤ 5312)⟩)
                                  dsimp only [Pt.U, Pt.locs, Pt.cells, Pt.slots] at X145 l145 y145 z145 st145 hQ145
                                  subst l145 y145 z145
                                  obtain ⟨rfl, N145q, K145⟩ := hQ145
                                  have N145 := Fr.app N142 N145q
                                  have e145 : T145.heap = h144 := K145
                                  refine own_go (B := T145.setTop (mkF m 401 #[.val (.int p0), .val (.int p1), .val (.int p2), .val (.int p3), .val (.int v6), .val (.ref ab), .val (.int v68), .val (.int v73), .val (.int nn), .val (.int v127), .val (.ref b106), .val (.ref b141), .val .null] [(.int (own_eqs (List.take nn.toNatClampNeg [(own_at cb 0 v127 p3), (own_at cb 1 v127 p3), (own_at cb 2 v127 p3), (own_at cb 3 v127 p3), (own_at cb 4 v127 p3), (own_at cb 5 v127 p3), (own_at cb 6 v127 p3), (own_at cb 7 v127 p3), (own_at cb 8 v127 p3), (own_at cb 9 v127 p3), (own_at cb 10 v127 p3), (own_at cb 11 v127 p3)]) [(105 : Int32), (110 : Int32), (45 : Int32), (112 : Int32), (114 : Int32), (111 : Int32), (103 : Int32), (114 : Int32), (101 : Int32), (115 : Int32), (115 : Int32)]))])) (fun _ k => st145.trans k) ?_
                                  by_cases hc401 : (own_eqs (List.take nn.toNatClampNeg [(own_at cb 0 v127 p3), (own_at cb 1 v127 p3), (own_at cb 2 v127 p3), (own_at cb 3 v127 p3), (own_at cb 4 v127 p3), (own_at cb 5 v127 p3), (own_at cb 6 v127 p3), (own_at cb 7 v127 p3), (own_at cb 8 v127 p3), (own_at cb 9 v127 p3), (own_at cb 10 v127 p3), (own_at cb 11 v127 p3)]) [(105 : Int32), (110 : Int32), (45 : Int32), (112 : Int32), (114 : Int32), (111 : Int32), (103 : Int32), (114 : Int32), (101 : Int32), (115 : Int32), (115 : Int32)]) = (0 : Int32)
                                  · refine own_go (B := T145.setTop (mkF m 409 #[.val (.int p0), .val (.int p1), .val (.int p2), .val (.int p3), .val (.int v6), .val (.ref ab), .val (.int v68), .val (.int v73), .val (.int nn), .val (.int v127), .val (.ref b106), .val (.ref b141), .val .null] [])) (fun _ k => XS.ifYes X145.here hx rfl (pc0 := 401) (pc' := 409) rfl (hb hby at_401) rfl ((if0 _ _).trans (teq hc401).1) (by decide) (by decide) k) ?_
                                    refine own_go (B := T145.setTop (mkF m 411 #[.val (.int p0), .val (.int p1), .val (.int p2), .val (.int p3), .val (.int v6), .val (.ref ab), .val (.int v68), .val (.int v73), .val (.int nn), .val (.int v127), .val (.ref b106), .val (.ref b141), .val .null] [(.ref b141)])) (fun _ k => XS.aload X145.here hx rfl (hb hby at_409) rfl rfl k) ?_
                                    obtain ⟨la146, T146, h146, k146, tb146, kb146, X146, e146, E146, SN146, hk146, hZ, hown, Ex146, Fc146, Fv146, Vb146, -, -, CRq146, -, Ne146, st146⟩ := ldcCH (s := s) (vm0 := T144.vm) X145 hx hZ hown (hw _ (List.mem_of_getElem? (i := 45) rfl)) wS e145 SN144 hk144 hEL (by decide) CH144 (vs := [(.int (99 : Int32)), (.int (111 : Int32)), (.int (109 : Int32)), (.int (112 : Int32)), (.int (108 : Int32)), (.int (101 : Int32)), (.int (116 : Int32)), (.int (101 : Int32)), (.int (100 : Int32))]) (z := (9 : Int32)) ⟨by decide, rfl⟩ (by decide) rfl (g := (mkF m 411 #[.val (.int p0), .val (.int p1), .val (.int p2), .val (.int p3), .val (.int v6), .val (.ref ab), .val (.int v68), .val (.int v73), .val (.int nn), .val (.int v127), .val (.ref b106), .val (.ref b141), .val .null] [(.ref b141)])) rfl (hb hby at_411) (n := 36) (by decide) (by decide) (by decide) (by decide)
                                    have O146 := O144.ext E146
                                    have K146' : Keep h0 h146 ([] : List Addr) := K144'.ext E146
                                    have CH146 := CRq146.1
                                    have CR146 := CR144.trans CRq146
                                    have nl146_b141 := Ne146 b141 (CHr.safe CRq146 (Es143.ext E144).lt (CHr.safe CRq144 Es143.lt (Safe.keep K142 (sfS Sf_b141 sf0) CH141 Sf_b141)))
                                    refine own_go (B := T146.setTop (mkF m 413 #[.val (.int p0), .val (.int p1), .val (.int p2), .val (.int p3), .val (.int v6), .val (.ref ab), .val (.int v68), .val (.int v73), .val (.int nn), .val (.int v127), .val (.ref b106), .val (.ref b141), .val .null] [(.ref la146), (.ref b141)])) (st146) ?_
                                    obtain ⟨cq147, kq147, q147a, q147b, q147c⟩ := isOf hZ e146 ((Es143.ext E144).ext E146)
                                    obtain ⟨_, _, ⟨T147, L147, k147, n147⟩, -, X147, ⟨Lc147, hQ147, l147, y147, z147⟩, st147⟩ := X146.virtualBack hx (y := (⟨"java/lang/String", "equals", "(Ljava/lang/Object;)Z"⟩ : MethodName)) (z := (⟨"java/lang/String", "equals", "(Ljava/lang/Object;)Z"⟩ : MethodName)) hown (mvT hZ (hw _ (List.mem_of_getElem? (i := 35) rfl))) (mvT hZ (hw _ (List.mem_of_getElem? (i := 36) rfl))) (notFace_of_selects (args := #[]) (mvT hZ (hw _ (List.mem_of_getElem? (i := 38) rfl)))) (mvT hZ (hw _ (List.mem_of_getElem? (i := 38) rfl))) (mvT hZ (hw _ (List.mem_of_getElem? (i := 37) rfl))) (by decide) (own_eqW (W := 0) hZ hw n0 (⟨t143, kb143, Nb143, vs143, ((Es143.ext E144).ext E146), ((Fv143.ext E144).ext E146), ((Fc143.ext E144).ext E146), ((Vb143.ext E144).ext E146), cd143, rg143, ln143⟩ : own_Str Z h146 b141 (List.take nn.toNatClampNeg [(own_at cb 0 v127 p3), (own_at cb 1 v127 p3), (own_at cb 2 v127 p3), (own_at cb 3 v127 p3), (own_at cb 4 v127 p3), (own_at cb 5 v127 p3), (own_at cb 6 v127 p3), (own_at cb 7 v127 p3), (own_at cb 8 v127 p3), (own_at cb 9 v127 p3), (own_at cb 10 v127 p3), (own_at cb 11 v127 p3)])) (⟨tb146, kb146, (9 : Int32), [(.int (99 : Int32)), (.int (111 : Int32)), (.int (109 : Int32)), (.int (112 : Int32)), (.int (108 : Int32)), (.int (101 : Int32)), (.int (116 : Int32)), (.int (101 : Int32)), (.int (100 : Int32))], Ex146, Fv146, Fc146, Vb146, (Or.inl ⟨rfl, rfl, rfl, by decide⟩), (by decide), (by decide)⟩ : own_Str Z h146 la146 [(99 : Int32), (111 : Int32), (109 : Int32), (112 : Int32), (108 : Int32), (101 : Int32), (116 : Int32), (101 : Int32), (100 : Int32)]) (S_String_COMPACT_STRINGS.ext O146.2) hzC (by decide) (by decide)) q147a q147c (g := (mkF m 413 #[.val (.int p0), .val (.int p1), .val (.int p2), .val (.int p3), .val (.int v6), .val (.ref ab), .val (.int v68), .val (.int v73), .val (.int nn), .val (.int v127), .val (.ref b106), .val (.ref b141), .val .null] [(.ref la146), (.ref b141)])) rfl (by rw [hml]; rfl) (Steps.refl _) (argsL := [(.ref la146)]) (rest := []) (lenOf pd_2 rfl) rfl (by show 2 * 0 + _ ≤ _; exact Nat.le_of_eq rfl) (hb hby at_413) (fun _ _ => ⟨rfl, e146, (by decide : 9 + 0 ≤ 32), (by decide : 164 + 0 ≤ 5312)⟩)
                                    dsimp only [Pt.U, Pt.locs, Pt.cells, Pt.slots] at X147 l147 y147 z147 st147 hQ147
                                    subst l147 y147 z147
                                    obtain ⟨rfl, N147q, K147⟩ := hQ147
                                    have N147 := Fr.app N145 N147q
                                    have e147 : T147.heap = h146 := K147
                                    refine own_go (B := T147.setTop (mkF m 416 #[.val (.int p0), .val (.int p1), .val (.int p2), .val (.int p3), .val (.int v6), .val (.ref ab), .val (.int v68), .val (.int v73), .val (.int nn), .val (.int v127), .val (.ref b106), .val (.ref b141), .val .null] [(.int (own_eqs (List.take nn.toNatClampNeg [(own_at cb 0 v127 p3), (own_at cb 1 v127 p3), (own_at cb 2 v127 p3), (own_at cb 3 v127 p3), (own_at cb 4 v127 p3), (own_at cb 5 v127 p3), (own_at cb 6 v127 p3), (own_at cb 7 v127 p3), (own_at cb 8 v127 p3), (own_at cb 9 v127 p3), (own_at cb 10 v127 p3), (own_at cb 11 v127 p3)]) [(99 : Int32), (111 : Int32), (109 : Int32), (112 : Int32), (108 : Int32), (101 : Int32), (116 : Int32), (101 : Int32), (100 : Int32)]))])) (fun _ k => st147.trans k) ?_
                                    by_cases hc416 : (own_eqs (List.take nn.toNatClampNeg [(own_at cb 0 v127 p3), (own_at cb 1 v127 p3), (own_at cb 2 v127 p3), (own_at cb 3 v127 p3), (own_at cb 4 v127 p3), (own_at cb 5 v127 p3), (own_at cb 6 v127 p3), (own_at cb 7 v127 p3), (own_at cb 8 v127 p3), (own_at cb 9 v127 p3), (own_at cb 10 v127 p3), (own_at cb 11 v127 p3)]) [(99 : Int32), (111 : Int32), (109 : Int32), (112 : Int32), (108 : Int32), (101 : Int32), (116 : Int32), (101 : Int32), (100 : Int32)]) = (0 : Int32)
                                    · refine own_go (B := T147.setTop (mkF m 424 #[.val (.int p0), .val (.int p1), .val (.int p2), .val (.int p3), .val (.int v6), .val (.ref ab), .val (.int v68), .val (.int v73), .val (.int nn), .val (.int v127), .val (.ref b106), .val (.ref b141), .val .null] [])) (fun _ k => XS.ifYes X147.here hx rfl (pc0 := 416) (pc' := 424) rfl (hb hby at_416) rfl ((if0 _ _).trans (teq hc416).1) (by decide) (by decide) k) ?_
                                      refine own_go (B := T147.setTop (mkF m 426 #[.val (.int p0), .val (.int p1), .val (.int p2), .val (.int p3), .val (.int v6), .val (.ref ab), .val (.int v68), .val (.int v73), .val (.int nn), .val (.int v127), .val (.ref b106), .val (.ref b141), .val .null] [(.ref b141)])) (fun _ k => XS.aload X147.here hx rfl (hb hby at_424) rfl rfl k) ?_
                                      obtain ⟨la148, T148, h148, k148, tb148, kb148, X148, e148, E148, SN148, hk148, hZ, hown, Ex148, Fc148, Fv148, Vb148, -, -, CRq148, -, Ne148, st148⟩ := ldcCH (s := s) (vm0 := T146.vm) X147 hx hZ hown (hw _ (List.mem_of_getElem? (i := 46) rfl)) wS e147 SN146 hk146 hEL (by decide) CH146 (vs := [(.int (102 : Int32)), (.int (97 : Int32)), (.int (105 : Int32)), (.int (108 : Int32)), (.int (101 : Int32)), (.int (100 : Int32))]) (z := (6 : Int32)) ⟨by decide, rfl⟩ (by decide) rfl (g := (mkF m 426 #[.val (.int p0), .val (.int p1), .val (.int p2), .val (.int p3), .val (.int v6), .val (.ref ab), .val (.int v68), .val (.int v73), .val (.int nn), .val (.int v127), .val (.ref b106), .val (.ref b141), .val .null] [(.ref b141)])) rfl (hb hby at_426) (n := 24) (by decide) (by decide) (by decide) (by decide)
                                      have O148 := O146.ext E148
                                      have K148' : Keep h0 h148 ([] : List Addr) := K146'.ext E148
                                      have CH148 := CRq148.1
                                      have CR148 := CR146.trans CRq148
                                      have nl148_b141 := Ne148 b141 (CHr.safe CRq148 ((Es143.ext E144).ext E146).lt (CHr.safe CRq146 (Es143.ext E144).lt (CHr.safe CRq144 Es143.lt (Safe.keep K142 (sfS Sf_b141 sf0) CH141 Sf_b141))))
                                      refine own_go (B := T148.setTop (mkF m 428 #[.val (.int p0), .val (.int p1), .val (.int p2), .val (.int p3), .val (.int v6), .val (.ref ab), .val (.int v68), .val (.int v73), .val (.int nn), .val (.int v127), .val (.ref b106), .val (.ref b141), .val .null] [(.ref la148), (.ref b141)])) (st148) ?_
                                      obtain ⟨cq149, kq149, q149a, q149b, q149c⟩ := isOf hZ e148 (((Es143.ext E144).ext E146).ext E148)
                                      obtain ⟨_, _, ⟨T149, L149, k149, n149⟩, -, X149, ⟨Lc149, hQ149, l149, y149, z149⟩, st149⟩ := X148.virtualBack hx (y := (⟨"java/lang/String", "equals", "(Ljava/lang/Object;)Z"⟩ : MethodName)) (z := (⟨"java/lang/String", "equals", "(Ljava/lang/Object;)Z"⟩ : MethodName)) hown (mvT hZ (hw _ (List.mem_of_getElem? (i := 35) rfl))) (mvT hZ (hw _ (List.mem_of_getElem? (i := 36) rfl))) (notFace_of_selects (args := #[]) (mvT hZ (hw _ (List.mem_of_getElem? (i := 38) rfl)))) (mvT hZ (hw _ (List.mem_of_getElem? (i := 38) rfl))) (mvT hZ (hw _ (List.mem_of_getElem? (i := 37) rfl))) (by decide) (own_eqW (W := 0) hZ hw n0 (⟨t143, kb143, Nb143, vs143, (((Es143.ext E144).ext E146).ext E148), (((Fv143.ext E144).ext E146).ext E148), (((Fc143.ext E144).ext E146).ext E148), (((Vb143.ext E144).ext E146).ext E148), cd143, rg143, ln143⟩ : own_Str Z h148 b141 (List.take nn.toNatClampNeg [(own_at cb 0 v127 p3), (own_at cb 1 v127 p3), (own_at cb 2 v127 p3), (own_at cb 3 v127 p3), (own_at cb 4 v127 p3), (own_at cb 5 v127 p3), (own_at cb 6 v127 p3), (own_at cb 7 v127 p3), (own_at cb 8 v127 p3), (own_at cb 9 v127 p3), (own_at cb 10 v127 p3), (own_at cb 11 v127 p3)])) (⟨tb148, kb148, (6 : Int32), [(.int (102 : Int32)), (.int (97 : Int32)), (.int (105 : Int32)), (.int (108 : Int32)), (.int (101 : Int32)), (.int (100 : Int32))], Ex148, Fv148, Fc148, Vb148, (Or.inl ⟨rfl, rfl, rfl, by decide⟩), (by decide), (by decide)⟩ : own_Str Z h148 la148 [(102 : Int32), (97 : Int32), (105 : Int32), (108 : Int32), (101 : Int32), (100 : Int32)]) (S_String_COMPACT_STRINGS.ext O148.2) hzC (by decide) (by decide)) q149a q149c (g := (mkF m 428 #[.val (.int p0), .val (.int p1), .val (.int p2), .val (.int p3), .val (.int v6), .val (.ref ab), .val (.int v68), .val (.int v73), .val (.int nn), .val (.int v127), .val (.ref b106), .val (.ref b141), .val .null] [(.ref la148), (.ref b141)])) rfl (by rw [hml]; rfl) (Steps.refl _) (argsL := [(.ref la148)]) (rest := []) (lenOf pd_2 rfl) rfl (by show 2 * 0 + _ ≤ _; exact Nat.le_of_eq rfl) (hb hby at_428) (fun _ _ => ⟨rfl, e148, (by decide : 11 + 0 ≤ 32), (by decide : 192 + 0 ≤ 5312)⟩)
                                      dsimp only [Pt.U, Pt.locs, Pt.cells, Pt.slots] at X149 l149 y149 z149 st149 hQ149
                                      subst l149 y149 z149
                                      obtain ⟨rfl, N149q, K149⟩ := hQ149
                                      have N149 := Fr.app N147 N149q
                                      have e149 : T149.heap = h148 := K149
                                      refine own_go (B := T149.setTop (mkF m 431 #[.val (.int p0), .val (.int p1), .val (.int p2), .val (.int p3), .val (.int v6), .val (.ref ab), .val (.int v68), .val (.int v73), .val (.int nn), .val (.int v127), .val (.ref b106), .val (.ref b141), .val .null] [(.int (own_eqs (List.take nn.toNatClampNeg [(own_at cb 0 v127 p3), (own_at cb 1 v127 p3), (own_at cb 2 v127 p3), (own_at cb 3 v127 p3), (own_at cb 4 v127 p3), (own_at cb 5 v127 p3), (own_at cb 6 v127 p3), (own_at cb 7 v127 p3), (own_at cb 8 v127 p3), (own_at cb 9 v127 p3), (own_at cb 10 v127 p3), (own_at cb 11 v127 p3)]) [(102 : Int32), (97 : Int32), (105 : Int32), (108 : Int32), (101 : Int32), (100 : Int32)]))])) (fun _ k => st149.trans k) ?_
                                      by_cases hc431 : (own_eqs (List.take nn.toNatClampNeg [(own_at cb 0 v127 p3), (own_at cb 1 v127 p3), (own_at cb 2 v127 p3), (own_at cb 3 v127 p3), (own_at cb 4 v127 p3), (own_at cb 5 v127 p3), (own_at cb 6 v127 p3), (own_at cb 7 v127 p3), (own_at cb 8 v127 p3), (own_at cb 9 v127 p3), (own_at cb 10 v127 p3), (own_at cb 11 v127 p3)]) [(102 : Int32), (97 : Int32), (105 : Int32), (108 : Int32), (101 : Int32), (100 : Int32)]) = (0 : Int32)
                                      · refine own_go (B := T149.setTop (mkF m 439 #[.val (.int p0), .val (.int p1), .val (.int p2), .val (.int p3), .val (.int v6), .val (.ref ab), .val (.int v68), .val (.int v73), .val (.int nn), .val (.int v127), .val (.ref b106), .val (.ref b141), .val .null] [])) (fun _ k => XS.ifYes X149.here hx rfl (pc0 := 431) (pc' := 439) rfl (hb hby at_431) rfl ((if0 _ _).trans (teq hc431).1) (by decide) (by decide) k) ?_
                                        refine own_go (B := T149.setTop (mkF m 441 #[.val (.int p0), .val (.int p1), .val (.int p2), .val (.int p3), .val (.int v6), .val (.ref ab), .val (.int v68), .val (.int v73), .val (.int nn), .val (.int v127), .val (.ref b106), .val (.ref b141), .val .null] [(.ref b141)])) (fun _ k => XS.aload X149.here hx rfl (hb hby at_439) rfl rfl k) ?_
                                        obtain ⟨_, _, ⟨T150, L150, k150, n150⟩, -, X150, ⟨Lc150, hQ150, l150, y150, z150⟩, st150⟩ := Jvm.LawKit.callS X149 hx (y := (⟨"com/example/void_repeat/voidrepeat/jdbc/RowState", "of", "(Ljava/lang/String;)Lcom/example/void_repeat/voidrepeat/jdbc/RowState;"⟩ : MethodName)) hown (mvT hZ (hw _ (List.mem_of_getElem? (i := 47) rfl))) (mvT hZ (hw _ (List.mem_of_getElem? (i := 48) rfl))) (mvT hZ (hw _ (List.mem_of_getElem? (i := 49) rfl))) (mvT hZ (hw _ (List.mem_of_getElem? (i := 50) rfl))) (by decide) (backOf (W := 0) (rmOfS l Z a0 hw [] wV wI wC wF sI tI sC tC sF tF k_wV k_tI k_tC k_tF zC fm G b141 (List.take nn.toNatClampNeg [(own_at cb 0 v127 p3), (own_at cb 1 v127 p3), (own_at cb 2 v127 p3), (own_at cb 3 v127 p3), (own_at cb 4 v127 p3), (own_at cb 5 v127 p3), (own_at cb 6 v127 p3), (own_at cb 7 v127 p3), (own_at cb 8 v127 p3), (own_at cb 9 v127 p3), (own_at cb 10 v127 p3), (own_at cb 11 v127 p3)]) h148 n0 (Nat.le_trans Z0 K148'.1) O148 (⟨t143, kb143, Nb143, vs143, (((Es143.ext E144).ext E146).ext E148), (((Fv143.ext E144).ext E146).ext E148), (((Fc143.ext E144).ext E146).ext E148), (((Vb143.ext E144).ext E146).ext E148), cd143, rg143, ln143⟩ : own_Str Z h148 b141 (List.take nn.toNatClampNeg [(own_at cb 0 v127 p3), (own_at cb 1 v127 p3), (own_at cb 2 v127 p3), (own_at cb 3 v127 p3), (own_at cb 4 v127 p3), (own_at cb 5 v127 p3), (own_at cb 6 v127 p3), (own_at cb 7 v127 p3), (own_at cb 8 v127 p3), (own_at cb 9 v127 p3), (own_at cb 10 v127 p3), (own_at cb 11 v127 p3)]))) hZ (hw _ (List.mem_of_getElem? (i := 50) rfl)) (hw _ (List.mem_of_getElem? (i := 49) rfl)) (by decide) (by decide)) (g := (mkF m 441 #[.val (.int p0), .val (.int p1), .val (.int p2), .val (.int p3), .val (.int v6), .val (.ref ab), .val (.int v68), .val (.int v73), .val (.int nn), .val (.int v127), .val (.ref b106), .val (.ref b141), .val .null] [(.ref b141)])) rfl (by rw [hml]; rfl) (argsL := [(.ref b141)]) (rest := []) (lenOf pd_5 rfl) rfl (by show 2 * 0 + _ ≤ _; exact Nat.le_of_eq rfl) (hb hby at_441) (fun _ _ => ⟨rfl, e149, (by decide : 11 + 1 ≤ 32), (by decide : 192 + 3 ≤ 5312)⟩)
                                        dsimp only [Pt.U, Pt.locs, Pt.cells, Pt.slots] at X150 l150 y150 z150 st150 hQ150
                                        subst l150 y150 z150
                                        obtain ⟨rfl, N150q, K150⟩ := hQ150
                                        have N150 := Fr.app N149 N150q
                                        have CH150 := CHv.keep K150 sf0 CH148
                                        have CR150 := CR148.trans (CHr.keep K150 sf0 CH148)
                                        have O150 := O148.keep K150 all0
                                        have K150' : Keep h0 T150.heap ([] : List Addr) := K148'.trans K150 all0
                                        refine own_go (B := T150.setTop (mkF m 444 #[.val (.int p0), .val (.int p1), .val (.int p2), .val (.int p3), .val (.int v6), .val (.ref ab), .val (.int v68), .val (.int v73), .val (.int nn), .val (.int v127), .val (.ref b106), .val (.ref b141), .val .null] [(own_st (List.take nn.toNatClampNeg [(own_at cb 0 v127 p3), (own_at cb 1 v127 p3), (own_at cb 2 v127 p3), (own_at cb 3 v127 p3), (own_at cb 4 v127 p3), (own_at cb 5 v127 p3), (own_at cb 6 v127 p3), (own_at cb 7 v127 p3), (own_at cb 8 v127 p3), (own_at cb 9 v127 p3), (own_at cb 10 v127 p3), (own_at cb 11 v127 p3)]) wI wC wF)])) (st150) ?_
                                        refine own_go (B := T150.setTop (mkF m 446 #[.val (.int p0), .val (.int p1), .val (.int p2), .val (.int p3), .val (.int v6), .val (.ref ab), .val (.int v68), .val (.int v73), .val (.int nn), .val (.int v127), .val (.ref b106), .val (.ref b141), .val .null] [.null, (own_st (List.take nn.toNatClampNeg [(own_at cb 0 v127 p3), (own_at cb 1 v127 p3), (own_at cb 2 v127 p3), (own_at cb 3 v127 p3), (own_at cb 4 v127 p3), (own_at cb 5 v127 p3), (own_at cb 6 v127 p3), (own_at cb 7 v127 p3), (own_at cb 8 v127 p3), (own_at cb 9 v127 p3), (own_at cb 10 v127 p3), (own_at cb 11 v127 p3)]) wI wC wF)])) (fun _ k => XS.aload X150.here hx rfl (hb hby at_444) rfl rfl k) ?_
                                        refine own_go (B := T150.setTop (mkF m 449 #[.val (.int p0), .val (.int p1), .val (.int p2), .val (.int p3), .val (.int v6), .val (.ref ab), .val (.int v68), .val (.int v73), .val (.int nn), .val (.int v127), .val (.ref b106), .val (.ref b141), .val .null] [])) (fun _ k => Jvm.RoadKit.acmp (g := (mkF m 446 #[.val (.int p0), .val (.int p1), .val (.int p2), .val (.int p3), .val (.int v6), .val (.ref ab), .val (.int v68), .val (.int v73), .val (.int nn), .val (.int v127), .val (.ref b106), .val (.ref b141), .val .null] [.null, (own_st (List.take nn.toNatClampNeg [(own_at cb 0 v127 p3), (own_at cb 1 v127 p3), (own_at cb 2 v127 p3), (own_at cb 3 v127 p3), (own_at cb 4 v127 p3), (own_at cb 5 v127 p3), (own_at cb 6 v127 p3), (own_at cb 7 v127 p3), (own_at cb 8 v127 p3), (own_at cb 9 v127 p3), (own_at cb 10 v127 p3), (own_at cb 11 v127 p3)]) wI wC wF)])) X150 hx rfl (own_st_ref (List.take nn.toNatClampNeg [(own_at cb 0 v127 p3), (own_at cb 1 v127 p3), (own_at cb 2 v127 p3), (own_at cb 3 v127 p3), (own_at cb 4 v127 p3), (own_at cb 5 v127 p3), (own_at cb 6 v127 p3), (own_at cb 7 v127 p3), (own_at cb 8 v127 p3), (own_at cb 9 v127 p3), (own_at cb 10 v127 p3), (own_at cb 11 v127 p3)]) wI wC wF) rfl (pc0 := 446) (pc' := 449) (same := true) rfl (hb hby at_446) rfl (decide_eq_true (by have q1 := own_eqs_eq hc401; have q2 := own_eqs_eq hc416; have q3 := own_eqs_eq hc431; simp only [own_st]; rw [if_neg (fun q => q1 q.symm), if_neg (fun q => q2 q.symm), if_neg (fun q => q3 q.symm)])) (by decide) (by decide) k) ?_
                                        refine own_go (B := T150.setTop (mkF m 450 #[.val (.int p0), .val (.int p1), .val (.int p2), .val (.int p3), .val (.int v6), .val (.ref ab), .val (.int v68), .val (.int v73), .val (.int nn), .val (.int v127), .val (.ref b106), .val (.ref b141), .val .null] [(.int (1 : Int32))])) (fun _ k => XS.iconst X150.here hx rfl (hb hby at_449) k) ?_
                                        refine own_go (B := T150.setTop (mkF m 454 #[.val (.int p0), .val (.int p1), .val (.int p2), .val (.int p3), .val (.int v6), .val (.ref ab), .val (.int v68), .val (.int v73), .val (.int nn), .val (.int v127), .val (.ref b106), .val (.ref b141), .val .null] [(.int (1 : Int32))])) (fun _ k => XS.goto X150.here hx rfl (pc0 := 450) (pc' := 454) rfl (hb hby at_450) (by decide) (by decide) k) ?_
                                        obtain ⟨fs, hr, hrun, hended, hW, hsame⟩ := X150.leave (v := some (.int (nar .boolean (1 : Int32)))) (fun h => by rw [Bd.returns] at h; cases h)
                                        obtain ⟨en1, en2, en3⟩ := State.Since.ended (s := s) (vm₁ := T148.vm) SN148 hW (by show _ ≤ T150.heap.size; exact (Nat.le_trans hk148 K150.1)) hsame
                                        have CRe := CR150.trans (CHv.at (s := s) (vm0 := T148.vm) X150 hZ hEL CH150)
                                        have CRf : CHr Z own_EL s.vm s.heap T150.vm T150.heap := by rw [hh]; exact CRe
                                        refine ⟨_, _, retN X150 hx (t := .boolean) Bd.returns (by simp) (hb hby at_454) hr, hrun, hended, _, _, rfl, ?_, CRf, ⟨_, rfl⟩, en1, en2, en3.mono (by decide) (by decide)⟩
                                        show Q_rm0 Z wV wI wC wF sI tI sC tC sF tF k_wV k_tI k_tC k_tF zC fm p0 p1 p2 p3 h0 n0 _ T150.heap _
                                        exact ⟨rfl, N150⟩
                                      · refine own_go (B := T149.setTop (mkF m 434 #[.val (.int p0), .val (.int p1), .val (.int p2), .val (.int p3), .val (.int v6), .val (.ref ab), .val (.int v68), .val (.int v73), .val (.int nn), .val (.int v127), .val (.ref b106), .val (.ref b141), .val .null] [])) (fun _ k => XS.ifNo X149.here hx rfl (hb hby at_431) rfl ((if0 _ _).trans (feq hc431).1) k) ?_
                                        obtain ⟨T151, X151, e151, st151⟩ := getS2 X149 hx hZ hown (host := "") (Or.inl (hw _ (List.mem_of_getElem? (i := 114) rfl))) Via.refl e149 (S_RowState_FAILED.ext O148.2) (g := (mkF m 434 #[.val (.int p0), .val (.int p1), .val (.int p2), .val (.int p3), .val (.int v6), .val (.ref ab), .val (.int v68), .val (.int v73), .val (.int nn), .val (.int v127), .val (.ref b106), .val (.ref b141), .val .null] [])) rfl (hb hby at_434)
                                        refine own_go (B := T151.setTop (mkF m 437 #[.val (.int p0), .val (.int p1), .val (.int p2), .val (.int p3), .val (.int v6), .val (.ref ab), .val (.int v68), .val (.int v73), .val (.int nn), .val (.int v127), .val (.ref b106), .val (.ref b141), .val .null] [(.ref wF)])) (st151) ?_
                                        refine own_go (B := T151.setTop (mkF m 439 #[.val (.int p0), .val (.int p1), .val (.int p2), .val (.int p3), .val (.int v6), .val (.ref ab), .val (.int v68), .val (.int v73), .val (.int nn), .val (.int v127), .val (.ref b106), .val (.ref b141), .val (.ref wF)] [])) (fun _ k => XS.astore X151.here hx rfl (hb hby at_437) rfl rfl (l' := #[.val (.int p0), .val (.int p1), .val (.int p2), .val (.int p3), .val (.int v6), .val (.ref ab), .val (.int v68), .val (.int v73), .val (.int nn), .val (.int v127), .val (.ref b106), .val (.ref b141), .val (.ref wF)]) rfl k) ?_
                                        refine own_go (B := T151.setTop (mkF m 441 #[.val (.int p0), .val (.int p1), .val (.int p2), .val (.int p3), .val (.int v6), .val (.ref ab), .val (.int v68), .val (.int v73), .val (.int nn), .val (.int v127), .val (.ref b106), .val (.ref b141), .val (.ref wF)] [(.ref b141)])) (fun _ k => XS.aload X151.here hx rfl (hb hby at_439) rfl rfl k) ?_
                                        obtain ⟨_, _, ⟨T152, L152, k152, n152⟩, -, X152, ⟨Lc152, hQ152, l152, y152, z152⟩, st152⟩ := Jvm.LawKit.callS X151 hx (y := (⟨"com/example/void_repeat/voidrepeat/jdbc/RowState", "of", "(Ljava/lang/String;)Lcom/example/void_repeat/voidrepeat/jdbc/RowState;"⟩ : MethodName)) hown (mvT hZ (hw _ (List.mem_of_getElem? (i := 47) rfl))) (mvT hZ (hw _ (List.mem_of_getElem? (i := 48) rfl))) (mvT hZ (hw _ (List.mem_of_getElem? (i := 49) rfl))) (mvT hZ (hw _ (List.mem_of_getElem? (i := 50) rfl))) (by decide) (backOf (W := 0) (rmOfS l Z a0 hw [] wV wI wC wF sI tI sC tC sF tF k_wV k_tI k_tC k_tF zC fm G b141 (List.take nn.toNatClampNeg [(own_at cb 0 v127 p3), (own_at cb 1 v127 p3), (own_at cb 2 v127 p3), (own_at cb 3 v127 p3), (own_at cb 4 v127 p3), (own_at cb 5 v127 p3), (own_at cb 6 v127 p3), (own_at cb 7 v127 p3), (own_at cb 8 v127 p3), (own_at cb 9 v127 p3), (own_at cb 10 v127 p3), (own_at cb 11 v127 p3)]) h148 n0 (Nat.le_trans Z0 K148'.1) O148 (⟨t143, kb143, Nb143, vs143, (((Es143.ext E144).ext E146).ext E148), (((Fv143.ext E144).ext E146).ext E148), (((Fc143.ext E144).ext E146).ext E148), (((Vb143.ext E144).ext E146).ext E148), cd143, rg143, ln143⟩ : own_Str Z h148 b141 (List.take nn.toNatClampNeg [(own_at cb 0 v127 p3), (own_at cb 1 v127 p3), (own_at cb 2 v127 p3), (own_at cb 3 v127 p3), (own_at cb 4 v127 p3), (own_at cb 5 v127 p3), (own_at cb 6 v127 p3), (own_at cb 7 v127 p3), (own_at cb 8 v127 p3), (own_at cb 9 v127 p3), (own_at cb 10 v127 p3), (own_at cb 11 v127 p3)]))) hZ (hw _ (List.mem_of_getElem? (i := 50) rfl)) (hw _ (List.mem_of_getElem? (i := 49) rfl)) (by decide) (by decide)) (g := (mkF m 441 #[.val (.int p0), .val (.int p1), .val (.int p2), .val (.int p3), .val (.int v6), .val (.ref ab), .val (.int v68), .val (.int v73), .val (.int nn), .val (.int v127), .val (.ref b106), .val (.ref b141), .val (.ref wF)] [(.ref b141)])) rfl (by rw [hml]; rfl) (argsL := [(.ref b141)]) (rest := []) (lenOf pd_5 rfl) rfl (by show 2 * 0 + _ ≤ _; exact Nat.le_of_eq rfl) (hb hby at_441) (fun _ _ => ⟨rfl, e151, (by decide : 11 + 1 ≤ 32), (by decide : 192 + 3 ≤ 5312)⟩)
                                        dsimp only [Pt.U, Pt.locs, Pt.cells, Pt.slots] at X152 l152 y152 z152 st152 hQ152
                                        subst l152 y152 z152
                                        obtain ⟨rfl, N152q, K152⟩ := hQ152
                                        have N152 := Fr.app N149 N152q
                                        have CH152 := CHv.keep K152 sf0 CH148
                                        have CR152 := CR148.trans (CHr.keep K152 sf0 CH148)
                                        have O152 := O148.keep K152 all0
                                        have K152' : Keep h0 T152.heap ([] : List Addr) := K148'.trans K152 all0
                                        refine own_go (B := T152.setTop (mkF m 444 #[.val (.int p0), .val (.int p1), .val (.int p2), .val (.int p3), .val (.int v6), .val (.ref ab), .val (.int v68), .val (.int v73), .val (.int nn), .val (.int v127), .val (.ref b106), .val (.ref b141), .val (.ref wF)] [(own_st (List.take nn.toNatClampNeg [(own_at cb 0 v127 p3), (own_at cb 1 v127 p3), (own_at cb 2 v127 p3), (own_at cb 3 v127 p3), (own_at cb 4 v127 p3), (own_at cb 5 v127 p3), (own_at cb 6 v127 p3), (own_at cb 7 v127 p3), (own_at cb 8 v127 p3), (own_at cb 9 v127 p3), (own_at cb 10 v127 p3), (own_at cb 11 v127 p3)]) wI wC wF)])) (st152) ?_
                                        refine own_go (B := T152.setTop (mkF m 446 #[.val (.int p0), .val (.int p1), .val (.int p2), .val (.int p3), .val (.int v6), .val (.ref ab), .val (.int v68), .val (.int v73), .val (.int nn), .val (.int v127), .val (.ref b106), .val (.ref b141), .val (.ref wF)] [(.ref wF), (own_st (List.take nn.toNatClampNeg [(own_at cb 0 v127 p3), (own_at cb 1 v127 p3), (own_at cb 2 v127 p3), (own_at cb 3 v127 p3), (own_at cb 4 v127 p3), (own_at cb 5 v127 p3), (own_at cb 6 v127 p3), (own_at cb 7 v127 p3), (own_at cb 8 v127 p3), (own_at cb 9 v127 p3), (own_at cb 10 v127 p3), (own_at cb 11 v127 p3)]) wI wC wF)])) (fun _ k => XS.aload X152.here hx rfl (hb hby at_444) rfl rfl k) ?_
                                        refine own_go (B := T152.setTop (mkF m 449 #[.val (.int p0), .val (.int p1), .val (.int p2), .val (.int p3), .val (.int v6), .val (.ref ab), .val (.int v68), .val (.int v73), .val (.int nn), .val (.int v127), .val (.ref b106), .val (.ref b141), .val (.ref wF)] [])) (fun _ k => Jvm.RoadKit.acmp (g := (mkF m 446 #[.val (.int p0), .val (.int p1), .val (.int p2), .val (.int p3), .val (.int v6), .val (.ref ab), .val (.int v68), .val (.int v73), .val (.int nn), .val (.int v127), .val (.ref b106), .val (.ref b141), .val (.ref wF)] [(.ref wF), (own_st (List.take nn.toNatClampNeg [(own_at cb 0 v127 p3), (own_at cb 1 v127 p3), (own_at cb 2 v127 p3), (own_at cb 3 v127 p3), (own_at cb 4 v127 p3), (own_at cb 5 v127 p3), (own_at cb 6 v127 p3), (own_at cb 7 v127 p3), (own_at cb 8 v127 p3), (own_at cb 9 v127 p3), (own_at cb 10 v127 p3), (own_at cb 11 v127 p3)]) wI wC wF)])) X152 hx rfl (own_st_ref (List.take nn.toNatClampNeg [(own_at cb 0 v127 p3), (own_at cb 1 v127 p3), (own_at cb 2 v127 p3), (own_at cb 3 v127 p3), (own_at cb 4 v127 p3), (own_at cb 5 v127 p3), (own_at cb 6 v127 p3), (own_at cb 7 v127 p3), (own_at cb 8 v127 p3), (own_at cb 9 v127 p3), (own_at cb 10 v127 p3), (own_at cb 11 v127 p3)]) wI wC wF) rfl (pc0 := 446) (pc' := 449) (same := true) rfl (hb hby at_446) rfl (decide_eq_true (by rw [show (List.take nn.toNatClampNeg [(own_at cb 0 v127 p3), (own_at cb 1 v127 p3), (own_at cb 2 v127 p3), (own_at cb 3 v127 p3), (own_at cb 4 v127 p3), (own_at cb 5 v127 p3), (own_at cb 6 v127 p3), (own_at cb 7 v127 p3), (own_at cb 8 v127 p3), (own_at cb 9 v127 p3), (own_at cb 10 v127 p3), (own_at cb 11 v127 p3)]) = [(102 : Int32), (97 : Int32), (105 : Int32), (108 : Int32), (101 : Int32), (100 : Int32)] from own_eqs_ne hc431]; simp [own_st])) (by decide) (by decide) k) ?_
                                        refine own_go (B := T152.setTop (mkF m 450 #[.val (.int p0), .val (.int p1), .val (.int p2), .val (.int p3), .val (.int v6), .val (.ref ab), .val (.int v68), .val (.int v73), .val (.int nn), .val (.int v127), .val (.ref b106), .val (.ref b141), .val (.ref wF)] [(.int (1 : Int32))])) (fun _ k => XS.iconst X152.here hx rfl (hb hby at_449) k) ?_
                                        refine own_go (B := T152.setTop (mkF m 454 #[.val (.int p0), .val (.int p1), .val (.int p2), .val (.int p3), .val (.int v6), .val (.ref ab), .val (.int v68), .val (.int v73), .val (.int nn), .val (.int v127), .val (.ref b106), .val (.ref b141), .val (.ref wF)] [(.int (1 : Int32))])) (fun _ k => XS.goto X152.here hx rfl (pc0 := 450) (pc' := 454) rfl (hb hby at_450) (by decide) (by decide) k) ?_
                                        obtain ⟨fs, hr, hrun, hended, hW, hsame⟩ := X152.leave (v := some (.int (nar .boolean (1 : Int32)))) (fun h => by rw [Bd.returns] at h; cases h)
                                        obtain ⟨en1, en2, en3⟩ := State.Since.ended (s := s) (vm₁ := T148.vm) SN148 hW (by show _ ≤ T152.heap.size; exact (Nat.le_trans hk148 K152.1)) hsame
                                        have CRe := CR152.trans (CHv.at (s := s) (vm0 := T148.vm) X152 hZ hEL CH152)
                                        have CRf : CHr Z own_EL s.vm s.heap T152.vm T152.heap := by rw [hh]; exact CRe
                                        refine ⟨_, _, retN X152 hx (t := .boolean) Bd.returns (by simp) (hb hby at_454) hr, hrun, hended, _, _, rfl, ?_, CRf, ⟨_, rfl⟩, en1, en2, en3.mono (by decide) (by decide)⟩
                                        show Q_rm0 Z wV wI wC wF sI tI sC tC sF tF k_wV k_tI k_tC k_tF zC fm p0 p1 p2 p3 h0 n0 _ T152.heap _
                                        exact ⟨rfl, N152⟩
                                    · refine own_go (B := T147.setTop (mkF m 419 #[.val (.int p0), .val (.int p1), .val (.int p2), .val (.int p3), .val (.int v6), .val (.ref ab), .val (.int v68), .val (.int v73), .val (.int nn), .val (.int v127), .val (.ref b106), .val (.ref b141), .val .null] [])) (fun _ k => XS.ifNo X147.here hx rfl (hb hby at_416) rfl ((if0 _ _).trans (feq hc416).1) k) ?_
                                      obtain ⟨T153, X153, e153, st153⟩ := getS2 X147 hx hZ hown (host := "") (Or.inl (hw _ (List.mem_of_getElem? (i := 107) rfl))) Via.refl e147 (S_RowState_COMPLETED.ext O146.2) (g := (mkF m 419 #[.val (.int p0), .val (.int p1), .val (.int p2), .val (.int p3), .val (.int v6), .val (.ref ab), .val (.int v68), .val (.int v73), .val (.int nn), .val (.int v127), .val (.ref b106), .val (.ref b141), .val .null] [])) rfl (hb hby at_419)
                                      refine own_go (B := T153.setTop (mkF m 422 #[.val (.int p0), .val (.int p1), .val (.int p2), .val (.int p3), .val (.int v6), .val (.ref ab), .val (.int v68), .val (.int v73), .val (.int nn), .val (.int v127), .val (.ref b106), .val (.ref b141), .val .null] [(.ref wC)])) (st153) ?_
                                      refine own_go (B := T153.setTop (mkF m 424 #[.val (.int p0), .val (.int p1), .val (.int p2), .val (.int p3), .val (.int v6), .val (.ref ab), .val (.int v68), .val (.int v73), .val (.int nn), .val (.int v127), .val (.ref b106), .val (.ref b141), .val (.ref wC)] [])) (fun _ k => XS.astore X153.here hx rfl (hb hby at_422) rfl rfl (l' := #[.val (.int p0), .val (.int p1), .val (.int p2), .val (.int p3), .val (.int v6), .val (.ref ab), .val (.int v68), .val (.int v73), .val (.int nn), .val (.int v127), .val (.ref b106), .val (.ref b141), .val (.ref wC)]) rfl k) ?_
                                      refine own_go (B := T153.setTop (mkF m 426 #[.val (.int p0), .val (.int p1), .val (.int p2), .val (.int p3), .val (.int v6), .val (.ref ab), .val (.int v68), .val (.int v73), .val (.int nn), .val (.int v127), .val (.ref b106), .val (.ref b141), .val (.ref wC)] [(.ref b141)])) (fun _ k => XS.aload X153.here hx rfl (hb hby at_424) rfl rfl k) ?_
                                      obtain ⟨la154, T154, h154, k154, tb154, kb154, X154, e154, E154, SN154, hk154, hZ, hown, Ex154, Fc154, Fv154, Vb154, -, -, CRq154, -, Ne154, st154⟩ := ldcCH (s := s) (vm0 := T146.vm) X153 hx hZ hown (hw _ (List.mem_of_getElem? (i := 46) rfl)) wS e153 SN146 hk146 hEL (by decide) CH146 (vs := [(.int (102 : Int32)), (.int (97 : Int32)), (.int (105 : Int32)), (.int (108 : Int32)), (.int (101 : Int32)), (.int (100 : Int32))]) (z := (6 : Int32)) ⟨by decide, rfl⟩ (by decide) rfl (g := (mkF m 426 #[.val (.int p0), .val (.int p1), .val (.int p2), .val (.int p3), .val (.int v6), .val (.ref ab), .val (.int v68), .val (.int v73), .val (.int nn), .val (.int v127), .val (.ref b106), .val (.ref b141), .val (.ref wC)] [(.ref b141)])) rfl (hb hby at_426) (n := 24) (by decide) (by decide) (by decide) (by decide)
                                      have O154 := O146.ext E154
                                      have K154' : Keep h0 h154 ([] : List Addr) := K146'.ext E154
                                      have CH154 := CRq154.1
                                      have CR154 := CR146.trans CRq154
                                      have nl154_b141 := Ne154 b141 (CHr.safe CRq154 ((Es143.ext E144).ext E146).lt (CHr.safe CRq146 (Es143.ext E144).lt (CHr.safe CRq144 Es143.lt (Safe.keep K142 (sfS Sf_b141 sf0) CH141 Sf_b141))))
                                      refine own_go (B := T154.setTop (mkF m 428 #[.val (.int p0), .val (.int p1), .val (.int p2), .val (.int p3), .val (.int v6), .val (.ref ab), .val (.int v68), .val (.int v73), .val (.int nn), .val (.int v127), .val (.ref b106), .val (.ref b141), .val (.ref wC)] [(.ref la154), (.ref b141)])) (st154) ?_
                                      obtain ⟨cq155, kq155, q155a, q155b, q155c⟩ := isOf hZ e154 (((Es143.ext E144).ext E146).ext E154)
                                      obtain ⟨_, _, ⟨T155, L155, k155, n155⟩, -, X155, ⟨Lc155, hQ155, l155, y155, z155⟩, st155⟩ := X154.virtualBack hx (y := (⟨"java/lang/String", "equals", "(Ljava/lang/Object;)Z"⟩ : MethodName)) (z := (⟨"java/lang/String", "equals", "(Ljava/lang/Object;)Z"⟩ : MethodName)) hown (mvT hZ (hw _ (List.mem_of_getElem? (i := 35) rfl))) (mvT hZ (hw _ (List.mem_of_getElem? (i := 36) rfl))) (notFace_of_selects (args := #[]) (mvT hZ (hw _ (List.mem_of_getElem? (i := 38) rfl)))) (mvT hZ (hw _ (List.mem_of_getElem? (i := 38) rfl))) (mvT hZ (hw _ (List.mem_of_getElem? (i := 37) rfl))) (by decide) (own_eqW (W := 0) hZ hw n0 (⟨t143, kb143, Nb143, vs143, (((Es143.ext E144).ext E146).ext E154), (((Fv143.ext E144).ext E146).ext E154), (((Fc143.ext E144).ext E146).ext E154), (((Vb143.ext E144).ext E146).ext E154), cd143, rg143, ln143⟩ : own_Str Z h154 b141 (List.take nn.toNatClampNeg [(own_at cb 0 v127 p3), (own_at cb 1 v127 p3), (own_at cb 2 v127 p3), (own_at cb 3 v127 p3), (own_at cb 4 v127 p3), (own_at cb 5 v127 p3), (own_at cb 6 v127 p3), (own_at cb 7 v127 p3), (own_at cb 8 v127 p3), (own_at cb 9 v127 p3), (own_at cb 10 v127 p3), (own_at cb 11 v127 p3)])) (⟨tb154, kb154, (6 : Int32), [(.int (102 : Int32)), (.int (97 : Int32)), (.int (105 : Int32)), (.int (108 : Int32)), (.int (101 : Int32)), (.int (100 : Int32))], Ex154, Fv154, Fc154, Vb154, (Or.inl ⟨rfl, rfl, rfl, by decide⟩), (by decide), (by decide)⟩ : own_Str Z h154 la154 [(102 : Int32), (97 : Int32), (105 : Int32), (108 : Int32), (101 : Int32), (100 : Int32)]) (S_String_COMPACT_STRINGS.ext O154.2) hzC (by decide) (by decide)) q155a q155c (g := (mkF m 428 #[.val (.int p0), .val (.int p1), .val (.int p2), .val (.int p3), .val (.int v6), .val (.ref ab), .val (.int v68), .val (.int v73), .val (.int nn), .val (.int v127), .val (.ref b106), .val (.ref b141), .val (.ref wC)] [(.ref la154), (.ref b141)])) rfl (by rw [hml]; rfl) (Steps.refl _) (argsL := [(.ref la154)]) (rest := []) (lenOf pd_2 rfl) rfl (by show 2 * 0 + _ ≤ _; exact Nat.le_of_eq rfl) (hb hby at_428) (fun _ _ => ⟨rfl, e154, (by decide : 11 + 0 ≤ 32), (by decide : 192 + 0 ≤ 5312)⟩)
                                      dsimp only [Pt.U, Pt.locs, Pt.cells, Pt.slots] at X155 l155 y155 z155 st155 hQ155
                                      subst l155 y155 z155
                                      obtain ⟨rfl, N155q, K155⟩ := hQ155
                                      have N155 := Fr.app N147 N155q
                                      have e155 : T155.heap = h154 := K155
                                      refine own_go (B := T155.setTop (mkF m 431 #[.val (.int p0), .val (.int p1), .val (.int p2), .val (.int p3), .val (.int v6), .val (.ref ab), .val (.int v68), .val (.int v73), .val (.int nn), .val (.int v127), .val (.ref b106), .val (.ref b141), .val (.ref wC)] [(.int (own_eqs (List.take nn.toNatClampNeg [(own_at cb 0 v127 p3), (own_at cb 1 v127 p3), (own_at cb 2 v127 p3), (own_at cb 3 v127 p3), (own_at cb 4 v127 p3), (own_at cb 5 v127 p3), (own_at cb 6 v127 p3), (own_at cb 7 v127 p3), (own_at cb 8 v127 p3), (own_at cb 9 v127 p3), (own_at cb 10 v127 p3), (own_at cb 11 v127 p3)]) [(102 : Int32), (97 : Int32), (105 : Int32), (108 : Int32), (101 : Int32), (100 : Int32)]))])) (fun _ k => st155.trans k) ?_
                                      refine own_go (B := T155.setTop (mkF m 439 #[.val (.int p0), .val (.int p1), .val (.int p2), .val (.int p3), .val (.int v6), .val (.ref ab), .val (.int v68), .val (.int v73), .val (.int nn), .val (.int v127), .val (.ref b106), .val (.ref b141), .val (.ref wC)] [])) (fun _ k => XS.ifYes X155.here hx rfl (pc0 := 431) (pc' := 439) rfl (hb hby at_431) rfl ((if0 _ _).trans (teq (own_eqs_no (fun q => absurd (q.symm.trans (own_eqs_ne hc416)) (by decide)))).1) (by decide) (by decide) k) ?_
                                      refine own_go (B := T155.setTop (mkF m 441 #[.val (.int p0), .val (.int p1), .val (.int p2), .val (.int p3), .val (.int v6), .val (.ref ab), .val (.int v68), .val (.int v73), .val (.int nn), .val (.int v127), .val (.ref b106), .val (.ref b141), .val (.ref wC)] [(.ref b141)])) (fun _ k => XS.aload X155.here hx rfl (hb hby at_439) rfl rfl k) ?_
                                      obtain ⟨_, _, ⟨T156, L156, k156, n156⟩, -, X156, ⟨Lc156, hQ156, l156, y156, z156⟩, st156⟩ := Jvm.LawKit.callS X155 hx (y := (⟨"com/example/void_repeat/voidrepeat/jdbc/RowState", "of", "(Ljava/lang/String;)Lcom/example/void_repeat/voidrepeat/jdbc/RowState;"⟩ : MethodName)) hown (mvT hZ (hw _ (List.mem_of_getElem? (i := 47) rfl))) (mvT hZ (hw _ (List.mem_of_getElem? (i := 48) rfl))) (mvT hZ (hw _ (List.mem_of_getElem? (i := 49) rfl))) (mvT hZ (hw _ (List.mem_of_getElem? (i := 50) rfl))) (by decide) (backOf (W := 0) (rmOfS l Z a0 hw [] wV wI wC wF sI tI sC tC sF tF k_wV k_tI k_tC k_tF zC fm G b141 (List.take nn.toNatClampNeg [(own_at cb 0 v127 p3), (own_at cb 1 v127 p3), (own_at cb 2 v127 p3), (own_at cb 3 v127 p3), (own_at cb 4 v127 p3), (own_at cb 5 v127 p3), (own_at cb 6 v127 p3), (own_at cb 7 v127 p3), (own_at cb 8 v127 p3), (own_at cb 9 v127 p3), (own_at cb 10 v127 p3), (own_at cb 11 v127 p3)]) h154 n0 (Nat.le_trans Z0 K154'.1) O154 (⟨t143, kb143, Nb143, vs143, (((Es143.ext E144).ext E146).ext E154), (((Fv143.ext E144).ext E146).ext E154), (((Fc143.ext E144).ext E146).ext E154), (((Vb143.ext E144).ext E146).ext E154), cd143, rg143, ln143⟩ : own_Str Z h154 b141 (List.take nn.toNatClampNeg [(own_at cb 0 v127 p3), (own_at cb 1 v127 p3), (own_at cb 2 v127 p3), (own_at cb 3 v127 p3), (own_at cb 4 v127 p3), (own_at cb 5 v127 p3), (own_at cb 6 v127 p3), (own_at cb 7 v127 p3), (own_at cb 8 v127 p3), (own_at cb 9 v127 p3), (own_at cb 10 v127 p3), (own_at cb 11 v127 p3)]))) hZ (hw _ (List.mem_of_getElem? (i := 50) rfl)) (hw _ (List.mem_of_getElem? (i := 49) rfl)) (by decide) (by decide)) (g := (mkF m 441 #[.val (.int p0), .val (.int p1), .val (.int p2), .val (.int p3), .val (.int v6), .val (.ref ab), .val (.int v68), .val (.int v73), .val (.int nn), .val (.int v127), .val (.ref b106), .val (.ref b141), .val (.ref wC)] [(.ref b141)])) rfl (by rw [hml]; rfl) (argsL := [(.ref b141)]) (rest := []) (lenOf pd_5 rfl) rfl (by show 2 * 0 + _ ≤ _; exact Nat.le_of_eq rfl) (hb hby at_441) (fun _ _ => ⟨rfl, e155, (by decide : 11 + 1 ≤ 32), (by decide : 192 + 3 ≤ 5312)⟩)
                                      dsimp only [Pt.U, Pt.locs, Pt.cells, Pt.slots] at X156 l156 y156 z156 st156 hQ156
                                      subst l156 y156 z156
                                      obtain ⟨rfl, N156q, K156⟩ := hQ156
                                      have N156 := Fr.app N155 N156q
                                      have CH156 := CHv.keep K156 sf0 CH154
                                      have CR156 := CR154.trans (CHr.keep K156 sf0 CH154)
                                      have O156 := O154.keep K156 all0
                                      have K156' : Keep h0 T156.heap ([] : List Addr) := K154'.trans K156 all0
                                      refine own_go (B := T156.setTop (mkF m 444 #[.val (.int p0), .val (.int p1), .val (.int p2), .val (.int p3), .val (.int v6), .val (.ref ab), .val (.int v68), .val (.int v73), .val (.int nn), .val (.int v127), .val (.ref b106), .val (.ref b141), .val (.ref wC)] [(own_st (List.take nn.toNatClampNeg [(own_at cb 0 v127 p3), (own_at cb 1 v127 p3), (own_at cb 2 v127 p3), (own_at cb 3 v127 p3), (own_at cb 4 v127 p3), (own_at cb 5 v127 p3), (own_at cb 6 v127 p3), (own_at cb 7 v127 p3), (own_at cb 8 v127 p3), (own_at cb 9 v127 p3), (own_at cb 10 v127 p3), (own_at cb 11 v127 p3)]) wI wC wF)])) (st156) ?_
                                      refine own_go (B := T156.setTop (mkF m 446 #[.val (.int p0), .val (.int p1), .val (.int p2), .val (.int p3), .val (.int v6), .val (.ref ab), .val (.int v68), .val (.int v73), .val (.int nn), .val (.int v127), .val (.ref b106), .val (.ref b141), .val (.ref wC)] [(.ref wC), (own_st (List.take nn.toNatClampNeg [(own_at cb 0 v127 p3), (own_at cb 1 v127 p3), (own_at cb 2 v127 p3), (own_at cb 3 v127 p3), (own_at cb 4 v127 p3), (own_at cb 5 v127 p3), (own_at cb 6 v127 p3), (own_at cb 7 v127 p3), (own_at cb 8 v127 p3), (own_at cb 9 v127 p3), (own_at cb 10 v127 p3), (own_at cb 11 v127 p3)]) wI wC wF)])) (fun _ k => XS.aload X156.here hx rfl (hb hby at_444) rfl rfl k) ?_
                                      refine own_go (B := T156.setTop (mkF m 449 #[.val (.int p0), .val (.int p1), .val (.int p2), .val (.int p3), .val (.int v6), .val (.ref ab), .val (.int v68), .val (.int v73), .val (.int nn), .val (.int v127), .val (.ref b106), .val (.ref b141), .val (.ref wC)] [])) (fun _ k => Jvm.RoadKit.acmp (g := (mkF m 446 #[.val (.int p0), .val (.int p1), .val (.int p2), .val (.int p3), .val (.int v6), .val (.ref ab), .val (.int v68), .val (.int v73), .val (.int nn), .val (.int v127), .val (.ref b106), .val (.ref b141), .val (.ref wC)] [(.ref wC), (own_st (List.take nn.toNatClampNeg [(own_at cb 0 v127 p3), (own_at cb 1 v127 p3), (own_at cb 2 v127 p3), (own_at cb 3 v127 p3), (own_at cb 4 v127 p3), (own_at cb 5 v127 p3), (own_at cb 6 v127 p3), (own_at cb 7 v127 p3), (own_at cb 8 v127 p3), (own_at cb 9 v127 p3), (own_at cb 10 v127 p3), (own_at cb 11 v127 p3)]) wI wC wF)])) X156 hx rfl (own_st_ref (List.take nn.toNatClampNeg [(own_at cb 0 v127 p3), (own_at cb 1 v127 p3), (own_at cb 2 v127 p3), (own_at cb 3 v127 p3), (own_at cb 4 v127 p3), (own_at cb 5 v127 p3), (own_at cb 6 v127 p3), (own_at cb 7 v127 p3), (own_at cb 8 v127 p3), (own_at cb 9 v127 p3), (own_at cb 10 v127 p3), (own_at cb 11 v127 p3)]) wI wC wF) rfl (pc0 := 446) (pc' := 449) (same := true) rfl (hb hby at_446) rfl (decide_eq_true (by rw [show (List.take nn.toNatClampNeg [(own_at cb 0 v127 p3), (own_at cb 1 v127 p3), (own_at cb 2 v127 p3), (own_at cb 3 v127 p3), (own_at cb 4 v127 p3), (own_at cb 5 v127 p3), (own_at cb 6 v127 p3), (own_at cb 7 v127 p3), (own_at cb 8 v127 p3), (own_at cb 9 v127 p3), (own_at cb 10 v127 p3), (own_at cb 11 v127 p3)]) = [(99 : Int32), (111 : Int32), (109 : Int32), (112 : Int32), (108 : Int32), (101 : Int32), (116 : Int32), (101 : Int32), (100 : Int32)] from own_eqs_ne hc416]; simp [own_st])) (by decide) (by decide) k) ?_
                                      refine own_go (B := T156.setTop (mkF m 450 #[.val (.int p0), .val (.int p1), .val (.int p2), .val (.int p3), .val (.int v6), .val (.ref ab), .val (.int v68), .val (.int v73), .val (.int nn), .val (.int v127), .val (.ref b106), .val (.ref b141), .val (.ref wC)] [(.int (1 : Int32))])) (fun _ k => XS.iconst X156.here hx rfl (hb hby at_449) k) ?_
                                      refine own_go (B := T156.setTop (mkF m 454 #[.val (.int p0), .val (.int p1), .val (.int p2), .val (.int p3), .val (.int v6), .val (.ref ab), .val (.int v68), .val (.int v73), .val (.int nn), .val (.int v127), .val (.ref b106), .val (.ref b141), .val (.ref wC)] [(.int (1 : Int32))])) (fun _ k => XS.goto X156.here hx rfl (pc0 := 450) (pc' := 454) rfl (hb hby at_450) (by decide) (by decide) k) ?_
                                      obtain ⟨fs, hr, hrun, hended, hW, hsame⟩ := X156.leave (v := some (.int (nar .boolean (1 : Int32)))) (fun h => by rw [Bd.returns] at h; cases h)
                                      obtain ⟨en1, en2, en3⟩ := State.Since.ended (s := s) (vm₁ := T154.vm) SN154 hW (by show _ ≤ T156.heap.size; exact (Nat.le_trans hk154 K156.1)) hsame
                                      have CRe := CR156.trans (CHv.at (s := s) (vm0 := T154.vm) X156 hZ hEL CH156)
                                      have CRf : CHr Z own_EL s.vm s.heap T156.vm T156.heap := by rw [hh]; exact CRe
                                      refine ⟨_, _, retN X156 hx (t := .boolean) Bd.returns (by simp) (hb hby at_454) hr, hrun, hended, _, _, rfl, ?_, CRf, ⟨_, rfl⟩, en1, en2, en3.mono (by decide) (by decide)⟩
                                      show Q_rm0 Z wV wI wC wF sI tI sC tC sF tF k_wV k_tI k_tC k_tF zC fm p0 p1 p2 p3 h0 n0 _ T156.heap _
                                      exact ⟨rfl, N156⟩
                                  · refine own_go (B := T145.setTop (mkF m 404 #[.val (.int p0), .val (.int p1), .val (.int p2), .val (.int p3), .val (.int v6), .val (.ref ab), .val (.int v68), .val (.int v73), .val (.int nn), .val (.int v127), .val (.ref b106), .val (.ref b141), .val .null] [])) (fun _ k => XS.ifNo X145.here hx rfl (hb hby at_401) rfl ((if0 _ _).trans (feq hc401).1) k) ?_
                                    obtain ⟨T157, X157, e157, st157⟩ := getS2 X145 hx hZ hown (host := "") (Or.inl (hw _ (List.mem_of_getElem? (i := 113) rfl))) Via.refl e145 (S_RowState_IN_PROGRESS.ext O144.2) (g := (mkF m 404 #[.val (.int p0), .val (.int p1), .val (.int p2), .val (.int p3), .val (.int v6), .val (.ref ab), .val (.int v68), .val (.int v73), .val (.int nn), .val (.int v127), .val (.ref b106), .val (.ref b141), .val .null] [])) rfl (hb hby at_404)
                                    refine own_go (B := T157.setTop (mkF m 407 #[.val (.int p0), .val (.int p1), .val (.int p2), .val (.int p3), .val (.int v6), .val (.ref ab), .val (.int v68), .val (.int v73), .val (.int nn), .val (.int v127), .val (.ref b106), .val (.ref b141), .val .null] [(.ref wI)])) (st157) ?_
                                    refine own_go (B := T157.setTop (mkF m 409 #[.val (.int p0), .val (.int p1), .val (.int p2), .val (.int p3), .val (.int v6), .val (.ref ab), .val (.int v68), .val (.int v73), .val (.int nn), .val (.int v127), .val (.ref b106), .val (.ref b141), .val (.ref wI)] [])) (fun _ k => XS.astore X157.here hx rfl (hb hby at_407) rfl rfl (l' := #[.val (.int p0), .val (.int p1), .val (.int p2), .val (.int p3), .val (.int v6), .val (.ref ab), .val (.int v68), .val (.int v73), .val (.int nn), .val (.int v127), .val (.ref b106), .val (.ref b141), .val (.ref wI)]) rfl k) ?_
                                    refine own_go (B := T157.setTop (mkF m 411 #[.val (.int p0), .val (.int p1), .val (.int p2), .val (.int p3), .val (.int v6), .val (.ref ab), .val (.int v68), .val (.int v73), .val (.int nn), .val (.int v127), .val (.ref b106), .val (.ref b141), .val (.ref wI)] [(.ref b141)])) (fun _ k => XS.aload X157.here hx rfl (hb hby at_409) rfl rfl k) ?_
                                    obtain ⟨la158, T158, h158, k158, tb158, kb158, X158, e158, E158, SN158, hk158, hZ, hown, Ex158, Fc158, Fv158, Vb158, -, -, CRq158, -, Ne158, st158⟩ := ldcCH (s := s) (vm0 := T144.vm) X157 hx hZ hown (hw _ (List.mem_of_getElem? (i := 45) rfl)) wS e157 SN144 hk144 hEL (by decide) CH144 (vs := [(.int (99 : Int32)), (.int (111 : Int32)), (.int (109 : Int32)), (.int (112 : Int32)), (.int (108 : Int32)), (.int (101 : Int32)), (.int (116 : Int32)), (.int (101 : Int32)), (.int (100 : Int32))]) (z := (9 : Int32)) ⟨by decide, rfl⟩ (by decide) rfl (g := (mkF m 411 #[.val (.int p0), .val (.int p1), .val (.int p2), .val (.int p3), .val (.int v6), .val (.ref ab), .val (.int v68), .val (.int v73), .val (.int nn), .val (.int v127), .val (.ref b106), .val (.ref b141), .val (.ref wI)] [(.ref b141)])) rfl (hb hby at_411) (n := 36) (by decide) (by decide) (by decide) (by decide)
                                    have O158 := O144.ext E158
                                    have K158' : Keep h0 h158 ([] : List Addr) := K144'.ext E158
                                    have CH158 := CRq158.1
                                    have CR158 := CR144.trans CRq158
                                    have nl158_b141 := Ne158 b141 (CHr.safe CRq158 (Es143.ext E144).lt (CHr.safe CRq144 Es143.lt (Safe.keep K142 (sfS Sf_b141 sf0) CH141 Sf_b141)))
                                    refine own_go (B := T158.setTop (mkF m 413 #[.val (.int p0), .val (.int p1), .val (.int p2), .val (.int p3), .val (.int v6), .val (.ref ab), .val (.int v68), .val (.int v73), .val (.int nn), .val (.int v127), .val (.ref b106), .val (.ref b141), .val (.ref wI)] [(.ref la158), (.ref b141)])) (st158) ?_
                                    obtain ⟨cq159, kq159, q159a, q159b, q159c⟩ := isOf hZ e158 ((Es143.ext E144).ext E158)
                                    obtain ⟨_, _, ⟨T159, L159, k159, n159⟩, -, X159, ⟨Lc159, hQ159, l159, y159, z159⟩, st159⟩ := X158.virtualBack hx (y := (⟨"java/lang/String", "equals", "(Ljava/lang/Object;)Z"⟩ : MethodName)) (z := (⟨"java/lang/String", "equals", "(Ljava/lang/Object;)Z"⟩ : MethodName)) hown (mvT hZ (hw _ (List.mem_of_getElem? (i := 35) rfl))) (mvT hZ (hw _ (List.mem_of_getElem? (i := 36) rfl))) (notFace_of_selects (args := #[]) (mvT hZ (hw _ (List.mem_of_getElem? (i := 38) rfl)))) (mvT hZ (hw _ (List.mem_of_getElem? (i := 38) rfl))) (mvT hZ (hw _ (List.mem_of_getElem? (i := 37) rfl))) (by decide) (own_eqW (W := 0) hZ hw n0 (⟨t143, kb143, Nb143, vs143, ((Es143.ext E144).ext E158), ((Fv143.ext E144).ext E158), ((Fc143.ext E144).ext E158), ((Vb143.ext E144).ext E158), cd143, rg143, ln143⟩ : own_Str Z h158 b141 (List.take nn.toNatClampNeg [(own_at cb 0 v127 p3), (own_at cb 1 v127 p3), (own_at cb 2 v127 p3), (own_at cb 3 v127 p3), (own_at cb 4 v127 p3), (own_at cb 5 v127 p3), (own_at cb 6 v127 p3), (own_at cb 7 v127 p3), (own_at cb 8 v127 p3), (own_at cb 9 v127 p3), (own_at cb 10 v127 p3), (own_at cb 11 v127 p3)])) (⟨tb158, kb158, (9 : Int32), [(.int (99 : Int32)), (.int (111 : Int32)), (.int (109 : Int32)), (.int (112 : Int32)), (.int (108 : Int32)), (.int (101 : Int32)), (.int (116 : Int32)), (.int (101 : Int32)), (.int (100 : Int32))], Ex158, Fv158, Fc158, Vb158, (Or.inl ⟨rfl, rfl, rfl, by decide⟩), (by decide), (by decide)⟩ : own_Str Z h158 la158 [(99 : Int32), (111 : Int32), (109 : Int32), (112 : Int32), (108 : Int32), (101 : Int32), (116 : Int32), (101 : Int32), (100 : Int32)]) (S_String_COMPACT_STRINGS.ext O158.2) hzC (by decide) (by decide)) q159a q159c (g := (mkF m 413 #[.val (.int p0), .val (.int p1), .val (.int p2), .val (.int p3), .val (.int v6), .val (.ref ab), .val (.int v68), .val (.int v73), .val (.int nn), .val (.int v127), .val (.ref b106), .val (.ref b141), .val (.ref wI)] [(.ref la158), (.ref b141)])) rfl (by rw [hml]; rfl) (Steps.refl _) (argsL := [(.ref la158)]) (rest := []) (lenOf pd_2 rfl) rfl (by show 2 * 0 + _ ≤ _; exact Nat.le_of_eq rfl) (hb hby at_413) (fun _ _ => ⟨rfl, e158, (by decide : 9 + 0 ≤ 32), (by decide : 164 + 0 ≤ 5312)⟩)
                                    dsimp only [Pt.U, Pt.locs, Pt.cells, Pt.slots] at X159 l159 y159 z159 st159 hQ159
                                    subst l159 y159 z159
                                    obtain ⟨rfl, N159q, K159⟩ := hQ159
                                    have N159 := Fr.app N145 N159q
                                    have e159 : T159.heap = h158 := K159
                                    refine own_go (B := T159.setTop (mkF m 416 #[.val (.int p0), .val (.int p1), .val (.int p2), .val (.int p3), .val (.int v6), .val (.ref ab), .val (.int v68), .val (.int v73), .val (.int nn), .val (.int v127), .val (.ref b106), .val (.ref b141), .val (.ref wI)] [(.int (own_eqs (List.take nn.toNatClampNeg [(own_at cb 0 v127 p3), (own_at cb 1 v127 p3), (own_at cb 2 v127 p3), (own_at cb 3 v127 p3), (own_at cb 4 v127 p3), (own_at cb 5 v127 p3), (own_at cb 6 v127 p3), (own_at cb 7 v127 p3), (own_at cb 8 v127 p3), (own_at cb 9 v127 p3), (own_at cb 10 v127 p3), (own_at cb 11 v127 p3)]) [(99 : Int32), (111 : Int32), (109 : Int32), (112 : Int32), (108 : Int32), (101 : Int32), (116 : Int32), (101 : Int32), (100 : Int32)]))])) (fun _ k => st159.trans k) ?_
                                    refine own_go (B := T159.setTop (mkF m 424 #[.val (.int p0), .val (.int p1), .val (.int p2), .val (.int p3), .val (.int v6), .val (.ref ab), .val (.int v68), .val (.int v73), .val (.int nn), .val (.int v127), .val (.ref b106), .val (.ref b141), .val (.ref wI)] [])) (fun _ k => XS.ifYes X159.here hx rfl (pc0 := 416) (pc' := 424) rfl (hb hby at_416) rfl ((if0 _ _).trans (teq (own_eqs_no (fun q => absurd (q.symm.trans (own_eqs_ne hc401)) (by decide)))).1) (by decide) (by decide) k) ?_
                                    refine own_go (B := T159.setTop (mkF m 426 #[.val (.int p0), .val (.int p1), .val (.int p2), .val (.int p3), .val (.int v6), .val (.ref ab), .val (.int v68), .val (.int v73), .val (.int nn), .val (.int v127), .val (.ref b106), .val (.ref b141), .val (.ref wI)] [(.ref b141)])) (fun _ k => XS.aload X159.here hx rfl (hb hby at_424) rfl rfl k) ?_
                                    obtain ⟨la160, T160, h160, k160, tb160, kb160, X160, e160, E160, SN160, hk160, hZ, hown, Ex160, Fc160, Fv160, Vb160, -, -, CRq160, -, Ne160, st160⟩ := ldcCH (s := s) (vm0 := T158.vm) X159 hx hZ hown (hw _ (List.mem_of_getElem? (i := 46) rfl)) wS e159 SN158 hk158 hEL (by decide) CH158 (vs := [(.int (102 : Int32)), (.int (97 : Int32)), (.int (105 : Int32)), (.int (108 : Int32)), (.int (101 : Int32)), (.int (100 : Int32))]) (z := (6 : Int32)) ⟨by decide, rfl⟩ (by decide) rfl (g := (mkF m 426 #[.val (.int p0), .val (.int p1), .val (.int p2), .val (.int p3), .val (.int v6), .val (.ref ab), .val (.int v68), .val (.int v73), .val (.int nn), .val (.int v127), .val (.ref b106), .val (.ref b141), .val (.ref wI)] [(.ref b141)])) rfl (hb hby at_426) (n := 24) (by decide) (by decide) (by decide) (by decide)
                                    have O160 := O158.ext E160
                                    have K160' : Keep h0 h160 ([] : List Addr) := K158'.ext E160
                                    have CH160 := CRq160.1
                                    have CR160 := CR158.trans CRq160
                                    have nl160_b141 := Ne160 b141 (CHr.safe CRq160 ((Es143.ext E144).ext E158).lt (CHr.safe CRq158 (Es143.ext E144).lt (CHr.safe CRq144 Es143.lt (Safe.keep K142 (sfS Sf_b141 sf0) CH141 Sf_b141))))
                                    refine own_go (B := T160.setTop (mkF m 428 #[.val (.int p0), .val (.int p1), .val (.int p2), .val (.int p3), .val (.int v6), .val (.ref ab), .val (.int v68), .val (.int v73), .val (.int nn), .val (.int v127), .val (.ref b106), .val (.ref b141), .val (.ref wI)] [(.ref la160), (.ref b141)])) (st160) ?_
                                    obtain ⟨cq161, kq161, q161a, q161b, q161c⟩ := isOf hZ e160 (((Es143.ext E144).ext E158).ext E160)
                                    obtain ⟨_, _, ⟨T161, L161, k161, n161⟩, -, X161, ⟨Lc161, hQ161, l161, y161, z161⟩, st161⟩ := X160.virtualBack hx (y := (⟨"java/lang/String", "equals", "(Ljava/lang/Object;)Z"⟩ : MethodName)) (z := (⟨"java/lang/String", "equals", "(Ljava/lang/Object;)Z"⟩ : MethodName)) hown (mvT hZ (hw _ (List.mem_of_getElem? (i := 35) rfl))) (mvT hZ (hw _ (List.mem_of_getElem? (i := 36) rfl))) (notFace_of_selects (args := #[]) (mvT hZ (hw _ (List.mem_of_getElem? (i := 38) rfl)))) (mvT hZ (hw _ (List.mem_of_getElem? (i := 38) rfl))) (mvT hZ (hw _ (List.mem_of_getElem? (i := 37) rfl))) (by decide) (own_eqW (W := 0) hZ hw n0 (⟨t143, kb143, Nb143, vs143, (((Es143.ext E144).ext E158).ext E160), (((Fv143.ext E144).ext E158).ext E160), (((Fc143.ext E144).ext E158).ext E160), (((Vb143.ext E144).ext E158).ext E160), cd143, rg143, ln143⟩ : own_Str Z h160 b141 (List.take nn.toNatClampNeg [(own_at cb 0 v127 p3), (own_at cb 1 v127 p3), (own_at cb 2 v127 p3), (own_at cb 3 v127 p3), (own_at cb 4 v127 p3), (own_at cb 5 v127 p3), (own_at cb 6 v127 p3), (own_at cb 7 v127 p3), (own_at cb 8 v127 p3), (own_at cb 9 v127 p3), (own_at cb 10 v127 p3), (own_at cb 11 v127 p3)])) (⟨tb160, kb160, (6 : Int32), [(.int (102 : Int32)), (.int (97 : Int32)), (.int (105 : Int32)), (.int (108 : Int32)), (.int (101 : Int32)), (.int (100 : Int32))], Ex160, Fv160, Fc160, Vb160, (Or.inl ⟨rfl, rfl, rfl, by decide⟩), (by decide), (by decide)⟩ : own_Str Z h160 la160 [(102 : Int32), (97 : Int32), (105 : Int32), (108 : Int32), (101 : Int32), (100 : Int32)]) (S_String_COMPACT_STRINGS.ext O160.2) hzC (by decide) (by decide)) q161a q161c (g := (mkF m 428 #[.val (.int p0), .val (.int p1), .val (.int p2), .val (.int p3), .val (.int v6), .val (.ref ab), .val (.int v68), .val (.int v73), .val (.int nn), .val (.int v127), .val (.ref b106), .val (.ref b141), .val (.ref wI)] [(.ref la160), (.ref b141)])) rfl (by rw [hml]; rfl) (Steps.refl _) (argsL := [(.ref la160)]) (rest := []) (lenOf pd_2 rfl) rfl (by show 2 * 0 + _ ≤ _; exact Nat.le_of_eq rfl) (hb hby at_428) (fun _ _ => ⟨rfl, e160, (by decide : 11 + 0 ≤ 32), (by decide : 192 + 0 ≤ 5312)⟩)
                                    dsimp only [Pt.U, Pt.locs, Pt.cells, Pt.slots] at X161 l161 y161 z161 st161 hQ161
                                    subst l161 y161 z161
                                    obtain ⟨rfl, N161q, K161⟩ := hQ161
                                    have N161 := Fr.app N159 N161q
                                    have e161 : T161.heap = h160 := K161
                                    refine own_go (B := T161.setTop (mkF m 431 #[.val (.int p0), .val (.int p1), .val (.int p2), .val (.int p3), .val (.int v6), .val (.ref ab), .val (.int v68), .val (.int v73), .val (.int nn), .val (.int v127), .val (.ref b106), .val (.ref b141), .val (.ref wI)] [(.int (own_eqs (List.take nn.toNatClampNeg [(own_at cb 0 v127 p3), (own_at cb 1 v127 p3), (own_at cb 2 v127 p3), (own_at cb 3 v127 p3), (own_at cb 4 v127 p3), (own_at cb 5 v127 p3), (own_at cb 6 v127 p3), (own_at cb 7 v127 p3), (own_at cb 8 v127 p3), (own_at cb 9 v127 p3), (own_at cb 10 v127 p3), (own_at cb 11 v127 p3)]) [(102 : Int32), (97 : Int32), (105 : Int32), (108 : Int32), (101 : Int32), (100 : Int32)]))])) (fun _ k => st161.trans k) ?_
                                    refine own_go (B := T161.setTop (mkF m 439 #[.val (.int p0), .val (.int p1), .val (.int p2), .val (.int p3), .val (.int v6), .val (.ref ab), .val (.int v68), .val (.int v73), .val (.int nn), .val (.int v127), .val (.ref b106), .val (.ref b141), .val (.ref wI)] [])) (fun _ k => XS.ifYes X161.here hx rfl (pc0 := 431) (pc' := 439) rfl (hb hby at_431) rfl ((if0 _ _).trans (teq (own_eqs_no (fun q => absurd (q.symm.trans (own_eqs_ne hc401)) (by decide)))).1) (by decide) (by decide) k) ?_
                                    refine own_go (B := T161.setTop (mkF m 441 #[.val (.int p0), .val (.int p1), .val (.int p2), .val (.int p3), .val (.int v6), .val (.ref ab), .val (.int v68), .val (.int v73), .val (.int nn), .val (.int v127), .val (.ref b106), .val (.ref b141), .val (.ref wI)] [(.ref b141)])) (fun _ k => XS.aload X161.here hx rfl (hb hby at_439) rfl rfl k) ?_
                                    obtain ⟨_, _, ⟨T162, L162, k162, n162⟩, -, X162, ⟨Lc162, hQ162, l162, y162, z162⟩, st162⟩ := Jvm.LawKit.callS X161 hx (y := (⟨"com/example/void_repeat/voidrepeat/jdbc/RowState", "of", "(Ljava/lang/String;)Lcom/example/void_repeat/voidrepeat/jdbc/RowState;"⟩ : MethodName)) hown (mvT hZ (hw _ (List.mem_of_getElem? (i := 47) rfl))) (mvT hZ (hw _ (List.mem_of_getElem? (i := 48) rfl))) (mvT hZ (hw _ (List.mem_of_getElem? (i := 49) rfl))) (mvT hZ (hw _ (List.mem_of_getElem? (i := 50) rfl))) (by decide) (backOf (W := 0) (rmOfS l Z a0 hw [] wV wI wC wF sI tI sC tC sF tF k_wV k_tI k_tC k_tF zC fm G b141 (List.take nn.toNatClampNeg [(own_at cb 0 v127 p3), (own_at cb 1 v127 p3), (own_at cb 2 v127 p3), (own_at cb 3 v127 p3), (own_at cb 4 v127 p3), (own_at cb 5 v127 p3), (own_at cb 6 v127 p3), (own_at cb 7 v127 p3), (own_at cb 8 v127 p3), (own_at cb 9 v127 p3), (own_at cb 10 v127 p3), (own_at cb 11 v127 p3)]) h160 n0 (Nat.le_trans Z0 K160'.1) O160 (⟨t143, kb143, Nb143, vs143, (((Es143.ext E144).ext E158).ext E160), (((Fv143.ext E144).ext E158).ext E160), (((Fc143.ext E144).ext E158).ext E160), (((Vb143.ext E144).ext E158).ext E160), cd143, rg143, ln143⟩ : own_Str Z h160 b141 (List.take nn.toNatClampNeg [(own_at cb 0 v127 p3), (own_at cb 1 v127 p3), (own_at cb 2 v127 p3), (own_at cb 3 v127 p3), (own_at cb 4 v127 p3), (own_at cb 5 v127 p3), (own_at cb 6 v127 p3), (own_at cb 7 v127 p3), (own_at cb 8 v127 p3), (own_at cb 9 v127 p3), (own_at cb 10 v127 p3), (own_at cb 11 v127 p3)]))) hZ (hw _ (List.mem_of_getElem? (i := 50) rfl)) (hw _ (List.mem_of_getElem? (i := 49) rfl)) (by decide) (by decide)) (g := (mkF m 441 #[.val (.int p0), .val (.int p1), .val (.int p2), .val (.int p3), .val (.int v6), .val (.ref ab), .val (.int v68), .val (.int v73), .val (.int nn), .val (.int v127), .val (.ref b106), .val (.ref b141), .val (.ref wI)] [(.ref b141)])) rfl (by rw [hml]; rfl) (argsL := [(.ref b141)]) (rest := []) (lenOf pd_5 rfl) rfl (by show 2 * 0 + _ ≤ _; exact Nat.le_of_eq rfl) (hb hby at_441) (fun _ _ => ⟨rfl, e161, (by decide : 11 + 1 ≤ 32), (by decide : 192 + 3 ≤ 5312)⟩)
                                    dsimp only [Pt.U, Pt.locs, Pt.cells, Pt.slots] at X162 l162 y162 z162 st162 hQ162
                                    subst l162 y162 z162
                                    obtain ⟨rfl, N162q, K162⟩ := hQ162
                                    have N162 := Fr.app N161 N162q
                                    have CH162 := CHv.keep K162 sf0 CH160
                                    have CR162 := CR160.trans (CHr.keep K162 sf0 CH160)
                                    have O162 := O160.keep K162 all0
                                    have K162' : Keep h0 T162.heap ([] : List Addr) := K160'.trans K162 all0
                                    refine own_go (B := T162.setTop (mkF m 444 #[.val (.int p0), .val (.int p1), .val (.int p2), .val (.int p3), .val (.int v6), .val (.ref ab), .val (.int v68), .val (.int v73), .val (.int nn), .val (.int v127), .val (.ref b106), .val (.ref b141), .val (.ref wI)] [(own_st (List.take nn.toNatClampNeg [(own_at cb 0 v127 p3), (own_at cb 1 v127 p3), (own_at cb 2 v127 p3), (own_at cb 3 v127 p3), (own_at cb 4 v127 p3), (own_at cb 5 v127 p3), (own_at cb 6 v127 p3), (own_at cb 7 v127 p3), (own_at cb 8 v127 p3), (own_at cb 9 v127 p3), (own_at cb 10 v127 p3), (own_at cb 11 v127 p3)]) wI wC wF)])) (st162) ?_
                                    refine own_go (B := T162.setTop (mkF m 446 #[.val (.int p0), .val (.int p1), .val (.int p2), .val (.int p3), .val (.int v6), .val (.ref ab), .val (.int v68), .val (.int v73), .val (.int nn), .val (.int v127), .val (.ref b106), .val (.ref b141), .val (.ref wI)] [(.ref wI), (own_st (List.take nn.toNatClampNeg [(own_at cb 0 v127 p3), (own_at cb 1 v127 p3), (own_at cb 2 v127 p3), (own_at cb 3 v127 p3), (own_at cb 4 v127 p3), (own_at cb 5 v127 p3), (own_at cb 6 v127 p3), (own_at cb 7 v127 p3), (own_at cb 8 v127 p3), (own_at cb 9 v127 p3), (own_at cb 10 v127 p3), (own_at cb 11 v127 p3)]) wI wC wF)])) (fun _ k => XS.aload X162.here hx rfl (hb hby at_444) rfl rfl k) ?_
                                    refine own_go (B := T162.setTop (mkF m 449 #[.val (.int p0), .val (.int p1), .val (.int p2), .val (.int p3), .val (.int v6), .val (.ref ab), .val (.int v68), .val (.int v73), .val (.int nn), .val (.int v127), .val (.ref b106), .val (.ref b141), .val (.ref wI)] [])) (fun _ k => Jvm.RoadKit.acmp (g := (mkF m 446 #[.val (.int p0), .val (.int p1), .val (.int p2), .val (.int p3), .val (.int v6), .val (.ref ab), .val (.int v68), .val (.int v73), .val (.int nn), .val (.int v127), .val (.ref b106), .val (.ref b141), .val (.ref wI)] [(.ref wI), (own_st (List.take nn.toNatClampNeg [(own_at cb 0 v127 p3), (own_at cb 1 v127 p3), (own_at cb 2 v127 p3), (own_at cb 3 v127 p3), (own_at cb 4 v127 p3), (own_at cb 5 v127 p3), (own_at cb 6 v127 p3), (own_at cb 7 v127 p3), (own_at cb 8 v127 p3), (own_at cb 9 v127 p3), (own_at cb 10 v127 p3), (own_at cb 11 v127 p3)]) wI wC wF)])) X162 hx rfl (own_st_ref (List.take nn.toNatClampNeg [(own_at cb 0 v127 p3), (own_at cb 1 v127 p3), (own_at cb 2 v127 p3), (own_at cb 3 v127 p3), (own_at cb 4 v127 p3), (own_at cb 5 v127 p3), (own_at cb 6 v127 p3), (own_at cb 7 v127 p3), (own_at cb 8 v127 p3), (own_at cb 9 v127 p3), (own_at cb 10 v127 p3), (own_at cb 11 v127 p3)]) wI wC wF) rfl (pc0 := 446) (pc' := 449) (same := true) rfl (hb hby at_446) rfl (decide_eq_true (by rw [show (List.take nn.toNatClampNeg [(own_at cb 0 v127 p3), (own_at cb 1 v127 p3), (own_at cb 2 v127 p3), (own_at cb 3 v127 p3), (own_at cb 4 v127 p3), (own_at cb 5 v127 p3), (own_at cb 6 v127 p3), (own_at cb 7 v127 p3), (own_at cb 8 v127 p3), (own_at cb 9 v127 p3), (own_at cb 10 v127 p3), (own_at cb 11 v127 p3)]) = [(105 : Int32), (110 : Int32), (45 : Int32), (112 : Int32), (114 : Int32), (111 : Int32), (103 : Int32), (114 : Int32), (101 : Int32), (115 : Int32), (115 : Int32)] from own_eqs_ne hc401]; simp [own_st])) (by decide) (by decide) k) ?_
                                    refine own_go (B := T162.setTop (mkF m 450 #[.val (.int p0), .val (.int p1), .val (.int p2), .val (.int p3), .val (.int v6), .val (.ref ab), .val (.int v68), .val (.int v73), .val (.int nn), .val (.int v127), .val (.ref b106), .val (.ref b141), .val (.ref wI)] [(.int (1 : Int32))])) (fun _ k => XS.iconst X162.here hx rfl (hb hby at_449) k) ?_
                                    refine own_go (B := T162.setTop (mkF m 454 #[.val (.int p0), .val (.int p1), .val (.int p2), .val (.int p3), .val (.int v6), .val (.ref ab), .val (.int v68), .val (.int v73), .val (.int nn), .val (.int v127), .val (.ref b106), .val (.ref b141), .val (.ref wI)] [(.int (1 : Int32))])) (fun _ k => XS.goto X162.here hx rfl (pc0 := 450) (pc' := 454) rfl (hb hby at_450) (by decide) (by decide) k) ?_
                                    obtain ⟨fs, hr, hrun, hended, hW, hsame⟩ := X162.leave (v := some (.int (nar .boolean (1 : Int32)))) (fun h => by rw [Bd.returns] at h; cases h)
                                    obtain ⟨en1, en2, en3⟩ := State.Since.ended (s := s) (vm₁ := T160.vm) SN160 hW (by show _ ≤ T162.heap.size; exact (Nat.le_trans hk160 K162.1)) hsame
                                    have CRe := CR162.trans (CHv.at (s := s) (vm0 := T160.vm) X162 hZ hEL CH162)
                                    have CRf : CHr Z own_EL s.vm s.heap T162.vm T162.heap := by rw [hh]; exact CRe
                                    refine ⟨_, _, retN X162 hx (t := .boolean) Bd.returns (by simp) (hb hby at_454) hr, hrun, hended, _, _, rfl, ?_, CRf, ⟨_, rfl⟩, en1, en2, en3.mono (by decide) (by decide)⟩
                                    show Q_rm0 Z wV wI wC wF sI tI sC tC sF tF k_wV k_tI k_tC k_tF zC fm p0 p1 p2 p3 h0 n0 _ T162.heap _
                                    exact ⟨rfl, N162⟩
                              refine own_go (B := Tj.setTop (mkF m 360 #[.val (.int p0), .val (.int p1), .val (.int p2), .val (.int p3), .val (.int v6), .val (.ref ab), .val (.int v68), .val (.int v73), .val (.int nn), .val (.int v127), .val (.ref b106), .unset, .unset] [(.int nn)])) (fun _ k => XS.iload Xj.here hx rfl (hb hby at_358) rfl k) ?_
                              refine own_go (B := Tj.setTop (mkF m 362 #[.val (.int p0), .val (.int p1), .val (.int p2), .val (.int p3), .val (.int v6), .val (.ref ab), .val (.int v68), .val (.int v73), .val (.int nn), .val (.int v127), .val (.ref b106), .unset, .unset] [(.int (11 : Int32)), (.int nn)])) (fun _ k => XS.bipush Xj.here hx rfl (hb hby at_360) k) ?_
                              by_cases hc362 : (11 : Int32) < nn
                              · refine own_go (B := Tj.setTop (mkF m 365 #[.val (.int p0), .val (.int p1), .val (.int p2), .val (.int p3), .val (.int v6), .val (.ref ab), .val (.int v68), .val (.int v73), .val (.int nn), .val (.int v127), .val (.ref b106), .unset, .unset] [])) (fun _ k => XS.icmpNo Xj.here hx rfl (hb hby at_362) rfl (tlt hc362).2.2.2 k) ?_
                                refine own_go (B := Tj.setTop (mkF m 367 #[.val (.int p0), .val (.int p1), .val (.int p2), .val (.int p3), .val (.int v6), .val (.ref ab), .val (.int v68), .val (.int v73), .val (.int nn), .val (.int v127), .val (.ref b106), .unset, .unset] [(.ref b106)])) (fun _ k => XS.aload Xj.here hx rfl (hb hby at_365) rfl rfl k) ?_
                                refine own_go (B := Tj.setTop (mkF m 369 #[.val (.int p0), .val (.int p1), .val (.int p2), .val (.int p3), .val (.int v6), .val (.ref ab), .val (.int v68), .val (.int v73), .val (.int nn), .val (.int v127), .val (.ref b106), .unset, .unset] [(.int (11 : Int32)), (.ref b106)])) (fun _ k => XS.bipush Xj.here hx rfl (hb hby at_367) k) ?_
                                refine own_go (B := Tj.setTop (mkF m 371 #[.val (.int p0), .val (.int p1), .val (.int p2), .val (.int p3), .val (.int v6), .val (.ref ab), .val (.int v68), .val (.int v73), .val (.int nn), .val (.int v127), .val (.ref b106), .unset, .unset] [(.ref ab), (.int (11 : Int32)), (.ref b106)])) (fun _ k => XS.aload Xj.here hx rfl (hb hby at_369) rfl rfl k) ?_
                                refine own_go (B := Tj.setTop (mkF m 373 #[.val (.int p0), .val (.int p1), .val (.int p2), .val (.int p3), .val (.int v6), .val (.ref ab), .val (.int v68), .val (.int v73), .val (.int nn), .val (.int v127), .val (.ref b106), .unset, .unset] [(.int (11 : Int32)), (.ref ab), (.int (11 : Int32)), (.ref b106)])) (fun _ k => XS.bipush Xj.here hx rfl (hb hby at_371) k) ?_
                                refine own_go (B := Tj.setTop (mkF m 375 #[.val (.int p0), .val (.int p1), .val (.int p2), .val (.int p3), .val (.int v6), .val (.ref ab), .val (.int v68), .val (.int v73), .val (.int nn), .val (.int v127), .val (.ref b106), .unset, .unset] [(.int v127), (.int (11 : Int32)), (.ref ab), (.int (11 : Int32)), (.ref b106)])) (fun _ k => XS.iload Xj.here hx rfl (hb hby at_373) rfl k) ?_
                                refine own_go (B := Tj.setTop (mkF m 376 #[.val (.int p0), .val (.int p1), .val (.int p2), .val (.int p3), .val (.int v6), .val (.ref ab), .val (.int v68), .val (.int v73), .val (.int nn), .val (.int v127), .val (.ref b106), .unset, .unset] [(.int p3), (.int v127), (.int (11 : Int32)), (.ref ab), (.int (11 : Int32)), (.ref b106)])) (fun _ k => XS.iloadN Xj.here hx rfl (hb hby at_375) rfl k) ?_
                                obtain ⟨_, _, ⟨T163, L163, k163, n163⟩, -, X163, ⟨Lc163, hQ163, l163, y163, z163⟩, st163⟩ := Jvm.LawKit.callS Xj hx (y := (⟨"com/example/void_repeat/voidrepeat/jdbc/RowStateOfPinLaw", "at", "(Ljava/lang/String;III)C"⟩ : MethodName)) hown (mvT hZ (hw _ (List.mem_of_getElem? (i := 72) rfl))) (mvT hZ (hw _ (List.mem_of_getElem? (i := 73) rfl))) (mvT hZ (hw _ (List.mem_of_getElem? (i := 74) rfl))) (mvT hZ (hw _ (List.mem_of_getElem? (i := 75) rfl))) (by decide) (backOf (W := 2) (rm10 l Z a0 hw [] wV wI wC wF sI tI sC tC sF tF k_wV k_tI k_tC k_tF zC fm G ab cb 11 v127 p3 hj358 n0 (Nat.le_trans Z0 Kj358.1) Oj358 (⟨t103, kb103, Nb103, vs103, Eb10, Fb10, Gb10, Ub10, cd103, rg103, ln103⟩ : own_Str Z hj358 ab cb) (by decide)) hZ (hw _ (List.mem_of_getElem? (i := 75) rfl)) (hw _ (List.mem_of_getElem? (i := 74) rfl)) (by decide) (by decide)) (g := (mkF m 376 #[.val (.int p0), .val (.int p1), .val (.int p2), .val (.int p3), .val (.int v6), .val (.ref ab), .val (.int v68), .val (.int v73), .val (.int nn), .val (.int v127), .val (.ref b106), .unset, .unset] [(.int p3), (.int v127), (.int (11 : Int32)), (.ref ab), (.int (11 : Int32)), (.ref b106)])) rfl (by rw [hml]; rfl) (argsL := [(.ref ab), (.int (11 : Int32)), (.int v127), (.int p3)]) (rest := [(.int (11 : Int32)), (.ref b106)]) (lenOf pd_7 rfl) rfl (by show 2 * 0 + _ ≤ _; exact Nat.le_of_eq rfl) (hb hby at_376) (fun _ _ => ⟨rfl, ej, (by decide : 3 + 0 ≤ 32), (by decide : 60 + 0 ≤ 5312)⟩)
                                dsimp only [Pt.U, Pt.locs, Pt.cells, Pt.slots] at X163 l163 y163 z163 st163 hQ163
                                subst l163 y163 z163
                                obtain ⟨rfl, N163q, K163⟩ := hQ163
                                have N163 := Fr.app Nj358 N163q
                                have e163 : T163.heap = hj358 := K163
                                refine own_go (B := T163.setTop (mkF m 379 #[.val (.int p0), .val (.int p1), .val (.int p2), .val (.int p3), .val (.int v6), .val (.ref ab), .val (.int v68), .val (.int v73), .val (.int nn), .val (.int v127), .val (.ref b106), .unset, .unset] [(.int (own_at cb 11 v127 p3)), (.int (11 : Int32)), (.ref b106)])) (st163) ?_
                                obtain ⟨cl164, Ar164, q164, Sz164, Nn164, Hh164, Gg164⟩ := id Va10
                                have hin164 : ¬ ((11 : Int32) < 0 ∨ cl164.slots.size ≤ ((11 : Int32)).toNatClampNeg) := inb_of Sz164 (own_inb hc362 (by decide))
                                obtain ⟨T165, h165, X165, e165, W165, st165⟩ := stC X163 hx hZ e163 Ar164 (j := (11 : Int32)) hin164 (g := (mkF m 379 #[.val (.int p0), .val (.int p1), .val (.int p2), .val (.int p3), .val (.int v6), .val (.ref ab), .val (.int v68), .val (.int v73), .val (.int nn), .val (.int v127), .val (.ref b106), .unset, .unset] [(.int (own_at cb 11 v127 p3)), (.int (11 : Int32)), (.ref b106)])) rfl rfl (hb hby at_379)
                                rw [own_nar (c := (own_at cb 11 v127 p3)) (own_at_rg rg103 11 v127 p3)] at W165
                                have V165 := Arv.set Ar164 q164 Sz164 Nn164 Hh164 Gg164 (own_nar (c := (own_at cb 11 v127 p3)) (own_at_rg rg103 11 v127 p3) ▸ fits_nar_char (own_at cb 11 v127 p3)) W165 11 rfl (Nat.le_of_ble_eq_true rfl)
                                have CH165 := CHv.wr W165 (Safe.arv hZ.alike Va10 (by decide)) CHj358
                                have CR165 := CRj358.trans (CHr.wr W165 (Safe.arv hZ.alike Va10 (by decide)) CHj358)
                                have O165 := Oj358.wr W165 g_b106
                                have N165 := Fr.snoc X165 N163 g_b106
                                have K165' : Keep h0 h165 ([] : List Addr) := Kj358.wr W165 (Or.inr sz_b106)
                                replace V165 : Arv Z h165 b106 k106 .char nn [(.int (own_at cb 0 v127 p3)), (.int (own_at cb 1 v127 p3)), (.int (own_at cb 2 v127 p3)), (.int (own_at cb 3 v127 p3)), (.int (own_at cb 4 v127 p3)), (.int (own_at cb 5 v127 p3)), (.int (own_at cb 6 v127 p3)), (.int (own_at cb 7 v127 p3)), (.int (own_at cb 8 v127 p3)), (.int (own_at cb 9 v127 p3)), (.int (own_at cb 10 v127 p3)), (.int (own_at cb 11 v127 p3))] (.int (0 : Int32)) := V165
                                refine own_go (B := T165.setTop (mkF m 380 #[.val (.int p0), .val (.int p1), .val (.int p2), .val (.int p3), .val (.int v6), .val (.ref ab), .val (.int v68), .val (.int v73), .val (.int nn), .val (.int v127), .val (.ref b106), .unset, .unset] [])) (st165) ?_
                                exact jn380 h165 T165 _ X165 e165 N165 O165 K165' CH165 CR165 (Nat.le_trans hkj358 (Keep.of_wr W165).1)  V165
                              · refine own_go (B := Tj.setTop (mkF m 380 #[.val (.int p0), .val (.int p1), .val (.int p2), .val (.int p3), .val (.int v6), .val (.ref ab), .val (.int v68), .val (.int v73), .val (.int nn), .val (.int v127), .val (.ref b106), .unset, .unset] [])) (fun _ k => XS.icmpYes Xj.here hx rfl (pc0 := 362) (pc' := 380) rfl (hb hby at_362) rfl (flt hc362).2.2.2 (by decide) (by decide) k) ?_
                                exact jn380 hj358 Tj _ Xj ej Nj358 Oj358 Kj358 CHj358 CRj358 hkj358  (own_beyond Va10 11 (.int (own_at cb 11 v127 p3)) (own_le (i := (11 : Int32)) hnn.1 hc362 (by decide)))
                            refine own_go (B := Tj.setTop (mkF m 338 #[.val (.int p0), .val (.int p1), .val (.int p2), .val (.int p3), .val (.int v6), .val (.ref ab), .val (.int v68), .val (.int v73), .val (.int nn), .val (.int v127), .val (.ref b106), .unset, .unset] [(.int nn)])) (fun _ k => XS.iload Xj.here hx rfl (hb hby at_336) rfl k) ?_
                            refine own_go (B := Tj.setTop (mkF m 340 #[.val (.int p0), .val (.int p1), .val (.int p2), .val (.int p3), .val (.int v6), .val (.ref ab), .val (.int v68), .val (.int v73), .val (.int nn), .val (.int v127), .val (.ref b106), .unset, .unset] [(.int (10 : Int32)), (.int nn)])) (fun _ k => XS.bipush Xj.here hx rfl (hb hby at_338) k) ?_
                            by_cases hc340 : (10 : Int32) < nn
                            · refine own_go (B := Tj.setTop (mkF m 343 #[.val (.int p0), .val (.int p1), .val (.int p2), .val (.int p3), .val (.int v6), .val (.ref ab), .val (.int v68), .val (.int v73), .val (.int nn), .val (.int v127), .val (.ref b106), .unset, .unset] [])) (fun _ k => XS.icmpNo Xj.here hx rfl (hb hby at_340) rfl (tlt hc340).2.2.2 k) ?_
                              refine own_go (B := Tj.setTop (mkF m 345 #[.val (.int p0), .val (.int p1), .val (.int p2), .val (.int p3), .val (.int v6), .val (.ref ab), .val (.int v68), .val (.int v73), .val (.int nn), .val (.int v127), .val (.ref b106), .unset, .unset] [(.ref b106)])) (fun _ k => XS.aload Xj.here hx rfl (hb hby at_343) rfl rfl k) ?_
                              refine own_go (B := Tj.setTop (mkF m 347 #[.val (.int p0), .val (.int p1), .val (.int p2), .val (.int p3), .val (.int v6), .val (.ref ab), .val (.int v68), .val (.int v73), .val (.int nn), .val (.int v127), .val (.ref b106), .unset, .unset] [(.int (10 : Int32)), (.ref b106)])) (fun _ k => XS.bipush Xj.here hx rfl (hb hby at_345) k) ?_
                              refine own_go (B := Tj.setTop (mkF m 349 #[.val (.int p0), .val (.int p1), .val (.int p2), .val (.int p3), .val (.int v6), .val (.ref ab), .val (.int v68), .val (.int v73), .val (.int nn), .val (.int v127), .val (.ref b106), .unset, .unset] [(.ref ab), (.int (10 : Int32)), (.ref b106)])) (fun _ k => XS.aload Xj.here hx rfl (hb hby at_347) rfl rfl k) ?_
                              refine own_go (B := Tj.setTop (mkF m 351 #[.val (.int p0), .val (.int p1), .val (.int p2), .val (.int p3), .val (.int v6), .val (.ref ab), .val (.int v68), .val (.int v73), .val (.int nn), .val (.int v127), .val (.ref b106), .unset, .unset] [(.int (10 : Int32)), (.ref ab), (.int (10 : Int32)), (.ref b106)])) (fun _ k => XS.bipush Xj.here hx rfl (hb hby at_349) k) ?_
                              refine own_go (B := Tj.setTop (mkF m 353 #[.val (.int p0), .val (.int p1), .val (.int p2), .val (.int p3), .val (.int v6), .val (.ref ab), .val (.int v68), .val (.int v73), .val (.int nn), .val (.int v127), .val (.ref b106), .unset, .unset] [(.int v127), (.int (10 : Int32)), (.ref ab), (.int (10 : Int32)), (.ref b106)])) (fun _ k => XS.iload Xj.here hx rfl (hb hby at_351) rfl k) ?_
                              refine own_go (B := Tj.setTop (mkF m 354 #[.val (.int p0), .val (.int p1), .val (.int p2), .val (.int p3), .val (.int v6), .val (.ref ab), .val (.int v68), .val (.int v73), .val (.int nn), .val (.int v127), .val (.ref b106), .unset, .unset] [(.int p3), (.int v127), (.int (10 : Int32)), (.ref ab), (.int (10 : Int32)), (.ref b106)])) (fun _ k => XS.iloadN Xj.here hx rfl (hb hby at_353) rfl k) ?_
                              obtain ⟨_, _, ⟨T166, L166, k166, n166⟩, -, X166, ⟨Lc166, hQ166, l166, y166, z166⟩, st166⟩ := Jvm.LawKit.callS Xj hx (y := (⟨"com/example/void_repeat/voidrepeat/jdbc/RowStateOfPinLaw", "at", "(Ljava/lang/String;III)C"⟩ : MethodName)) hown (mvT hZ (hw _ (List.mem_of_getElem? (i := 72) rfl))) (mvT hZ (hw _ (List.mem_of_getElem? (i := 73) rfl))) (mvT hZ (hw _ (List.mem_of_getElem? (i := 74) rfl))) (mvT hZ (hw _ (List.mem_of_getElem? (i := 75) rfl))) (by decide) (backOf (W := 2) (rm10 l Z a0 hw [] wV wI wC wF sI tI sC tC sF tF k_wV k_tI k_tC k_tF zC fm G ab cb 10 v127 p3 hj336 n0 (Nat.le_trans Z0 Kj336.1) Oj336 (⟨t103, kb103, Nb103, vs103, Eb9, Fb9, Gb9, Ub9, cd103, rg103, ln103⟩ : own_Str Z hj336 ab cb) (by decide)) hZ (hw _ (List.mem_of_getElem? (i := 75) rfl)) (hw _ (List.mem_of_getElem? (i := 74) rfl)) (by decide) (by decide)) (g := (mkF m 354 #[.val (.int p0), .val (.int p1), .val (.int p2), .val (.int p3), .val (.int v6), .val (.ref ab), .val (.int v68), .val (.int v73), .val (.int nn), .val (.int v127), .val (.ref b106), .unset, .unset] [(.int p3), (.int v127), (.int (10 : Int32)), (.ref ab), (.int (10 : Int32)), (.ref b106)])) rfl (by rw [hml]; rfl) (argsL := [(.ref ab), (.int (10 : Int32)), (.int v127), (.int p3)]) (rest := [(.int (10 : Int32)), (.ref b106)]) (lenOf pd_7 rfl) rfl (by show 2 * 0 + _ ≤ _; exact Nat.le_of_eq rfl) (hb hby at_354) (fun _ _ => ⟨rfl, ej, (by decide : 3 + 0 ≤ 32), (by decide : 60 + 0 ≤ 5312)⟩)
                              dsimp only [Pt.U, Pt.locs, Pt.cells, Pt.slots] at X166 l166 y166 z166 st166 hQ166
                              subst l166 y166 z166
                              obtain ⟨rfl, N166q, K166⟩ := hQ166
                              have N166 := Fr.app Nj336 N166q
                              have e166 : T166.heap = hj336 := K166
                              refine own_go (B := T166.setTop (mkF m 357 #[.val (.int p0), .val (.int p1), .val (.int p2), .val (.int p3), .val (.int v6), .val (.ref ab), .val (.int v68), .val (.int v73), .val (.int nn), .val (.int v127), .val (.ref b106), .unset, .unset] [(.int (own_at cb 10 v127 p3)), (.int (10 : Int32)), (.ref b106)])) (st166) ?_
                              obtain ⟨cl167, Ar167, q167, Sz167, Nn167, Hh167, Gg167⟩ := id Va9
                              have hin167 : ¬ ((10 : Int32) < 0 ∨ cl167.slots.size ≤ ((10 : Int32)).toNatClampNeg) := inb_of Sz167 (own_inb hc340 (by decide))
                              obtain ⟨T168, h168, X168, e168, W168, st168⟩ := stC X166 hx hZ e166 Ar167 (j := (10 : Int32)) hin167 (g := (mkF m 357 #[.val (.int p0), .val (.int p1), .val (.int p2), .val (.int p3), .val (.int v6), .val (.ref ab), .val (.int v68), .val (.int v73), .val (.int nn), .val (.int v127), .val (.ref b106), .unset, .unset] [(.int (own_at cb 10 v127 p3)), (.int (10 : Int32)), (.ref b106)])) rfl rfl (hb hby at_357)
                              rw [own_nar (c := (own_at cb 10 v127 p3)) (own_at_rg rg103 10 v127 p3)] at W168
                              have V168 := Arv.set Ar167 q167 Sz167 Nn167 Hh167 Gg167 (own_nar (c := (own_at cb 10 v127 p3)) (own_at_rg rg103 10 v127 p3) ▸ fits_nar_char (own_at cb 10 v127 p3)) W168 10 rfl (Nat.le_of_ble_eq_true rfl)
                              have CH168 := CHv.wr W168 (Safe.arv hZ.alike Va9 (by decide)) CHj336
                              have CR168 := CRj336.trans (CHr.wr W168 (Safe.arv hZ.alike Va9 (by decide)) CHj336)
                              have O168 := Oj336.wr W168 g_b106
                              have N168 := Fr.snoc X168 N166 g_b106
                              have K168' : Keep h0 h168 ([] : List Addr) := Kj336.wr W168 (Or.inr sz_b106)
                              replace V168 : Arv Z h168 b106 k106 .char nn [(.int (own_at cb 0 v127 p3)), (.int (own_at cb 1 v127 p3)), (.int (own_at cb 2 v127 p3)), (.int (own_at cb 3 v127 p3)), (.int (own_at cb 4 v127 p3)), (.int (own_at cb 5 v127 p3)), (.int (own_at cb 6 v127 p3)), (.int (own_at cb 7 v127 p3)), (.int (own_at cb 8 v127 p3)), (.int (own_at cb 9 v127 p3)), (.int (own_at cb 10 v127 p3)), (.int (0 : Int32))] (.int (0 : Int32)) := V168
                              refine own_go (B := T168.setTop (mkF m 358 #[.val (.int p0), .val (.int p1), .val (.int p2), .val (.int p3), .val (.int v6), .val (.ref ab), .val (.int v68), .val (.int v73), .val (.int nn), .val (.int v127), .val (.ref b106), .unset, .unset] [])) (st168) ?_
                              exact jn358 h168 T168 _ X168 e168 N168 O168 K168' CH168 CR168 (Nat.le_trans hkj336 (Keep.of_wr W168).1)  V168 (Eb9.wr W168) (Fb9.other W168 (Or.inl ne106_1)) (Gb9.other W168 (Or.inl ne106_1)) (Ub9.other W168 ne106_2)
                            · refine own_go (B := Tj.setTop (mkF m 358 #[.val (.int p0), .val (.int p1), .val (.int p2), .val (.int p3), .val (.int v6), .val (.ref ab), .val (.int v68), .val (.int v73), .val (.int nn), .val (.int v127), .val (.ref b106), .unset, .unset] [])) (fun _ k => XS.icmpYes Xj.here hx rfl (pc0 := 340) (pc' := 358) rfl (hb hby at_340) rfl (flt hc340).2.2.2 (by decide) (by decide) k) ?_
                              exact jn358 hj336 Tj _ Xj ej Nj336 Oj336 Kj336 CHj336 CRj336 hkj336  (own_beyond Va9 10 (.int (own_at cb 10 v127 p3)) (own_le (i := (10 : Int32)) hnn.1 hc340 (by decide))) Eb9 Fb9 Gb9 Ub9
                          refine own_go (B := Tj.setTop (mkF m 316 #[.val (.int p0), .val (.int p1), .val (.int p2), .val (.int p3), .val (.int v6), .val (.ref ab), .val (.int v68), .val (.int v73), .val (.int nn), .val (.int v127), .val (.ref b106), .unset, .unset] [(.int nn)])) (fun _ k => XS.iload Xj.here hx rfl (hb hby at_314) rfl k) ?_
                          refine own_go (B := Tj.setTop (mkF m 318 #[.val (.int p0), .val (.int p1), .val (.int p2), .val (.int p3), .val (.int v6), .val (.ref ab), .val (.int v68), .val (.int v73), .val (.int nn), .val (.int v127), .val (.ref b106), .unset, .unset] [(.int (9 : Int32)), (.int nn)])) (fun _ k => XS.bipush Xj.here hx rfl (hb hby at_316) k) ?_
                          by_cases hc318 : (9 : Int32) < nn
                          · refine own_go (B := Tj.setTop (mkF m 321 #[.val (.int p0), .val (.int p1), .val (.int p2), .val (.int p3), .val (.int v6), .val (.ref ab), .val (.int v68), .val (.int v73), .val (.int nn), .val (.int v127), .val (.ref b106), .unset, .unset] [])) (fun _ k => XS.icmpNo Xj.here hx rfl (hb hby at_318) rfl (tlt hc318).2.2.2 k) ?_
                            refine own_go (B := Tj.setTop (mkF m 323 #[.val (.int p0), .val (.int p1), .val (.int p2), .val (.int p3), .val (.int v6), .val (.ref ab), .val (.int v68), .val (.int v73), .val (.int nn), .val (.int v127), .val (.ref b106), .unset, .unset] [(.ref b106)])) (fun _ k => XS.aload Xj.here hx rfl (hb hby at_321) rfl rfl k) ?_
                            refine own_go (B := Tj.setTop (mkF m 325 #[.val (.int p0), .val (.int p1), .val (.int p2), .val (.int p3), .val (.int v6), .val (.ref ab), .val (.int v68), .val (.int v73), .val (.int nn), .val (.int v127), .val (.ref b106), .unset, .unset] [(.int (9 : Int32)), (.ref b106)])) (fun _ k => XS.bipush Xj.here hx rfl (hb hby at_323) k) ?_
                            refine own_go (B := Tj.setTop (mkF m 327 #[.val (.int p0), .val (.int p1), .val (.int p2), .val (.int p3), .val (.int v6), .val (.ref ab), .val (.int v68), .val (.int v73), .val (.int nn), .val (.int v127), .val (.ref b106), .unset, .unset] [(.ref ab), (.int (9 : Int32)), (.ref b106)])) (fun _ k => XS.aload Xj.here hx rfl (hb hby at_325) rfl rfl k) ?_
                            refine own_go (B := Tj.setTop (mkF m 329 #[.val (.int p0), .val (.int p1), .val (.int p2), .val (.int p3), .val (.int v6), .val (.ref ab), .val (.int v68), .val (.int v73), .val (.int nn), .val (.int v127), .val (.ref b106), .unset, .unset] [(.int (9 : Int32)), (.ref ab), (.int (9 : Int32)), (.ref b106)])) (fun _ k => XS.bipush Xj.here hx rfl (hb hby at_327) k) ?_
                            refine own_go (B := Tj.setTop (mkF m 331 #[.val (.int p0), .val (.int p1), .val (.int p2), .val (.int p3), .val (.int v6), .val (.ref ab), .val (.int v68), .val (.int v73), .val (.int nn), .val (.int v127), .val (.ref b106), .unset, .unset] [(.int v127), (.int (9 : Int32)), (.ref ab), (.int (9 : Int32)), (.ref b106)])) (fun _ k => XS.iload Xj.here hx rfl (hb hby at_329) rfl k) ?_
                            refine own_go (B := Tj.setTop (mkF m 332 #[.val (.int p0), .val (.int p1), .val (.int p2), .val (.int p3), .val (.int v6), .val (.ref ab), .val (.int v68), .val (.int v73), .val (.int nn), .val (.int v127), .val (.ref b106), .unset, .unset] [(.int p3), (.int v127), (.int (9 : Int32)), (.ref ab), (.int (9 : Int32)), (.ref b106)])) (fun _ k => XS.iloadN Xj.here hx rfl (hb hby at_331) rfl k) ?_
                            obtain ⟨_, _, ⟨T169, L169, k169, n169⟩, -, X169, ⟨Lc169, hQ169, l169, y169, z169⟩, st169⟩ := Jvm.LawKit.callS Xj hx (y := (⟨"com/example/void_repeat/voidrepeat/jdbc/RowStateOfPinLaw", "at", "(Ljava/lang/String;III)C"⟩ : MethodName)) hown (mvT hZ (hw _ (List.mem_of_getElem? (i := 72) rfl))) (mvT hZ (hw _ (List.mem_of_getElem? (i := 73) rfl))) (mvT hZ (hw _ (List.mem_of_getElem? (i := 74) rfl))) (mvT hZ (hw _ (List.mem_of_getElem? (i := 75) rfl))) (by decide) (backOf (W := 2) (rm10 l Z a0 hw [] wV wI wC wF sI tI sC tC sF tF k_wV k_tI k_tC k_tF zC fm G ab cb 9 v127 p3 hj314 n0 (Nat.le_trans Z0 Kj314.1) Oj314 (⟨t103, kb103, Nb103, vs103, Eb8, Fb8, Gb8, Ub8, cd103, rg103, ln103⟩ : own_Str Z hj314 ab cb) (by decide)) hZ (hw _ (List.mem_of_getElem? (i := 75) rfl)) (hw _ (List.mem_of_getElem? (i := 74) rfl)) (by decide) (by decide)) (g := (mkF m 332 #[.val (.int p0), .val (.int p1), .val (.int p2), .val (.int p3), .val (.int v6), .val (.ref ab), .val (.int v68), .val (.int v73), .val (.int nn), .val (.int v127), .val (.ref b106), .unset, .unset] [(.int p3), (.int v127), (.int (9 : Int32)), (.ref ab), (.int (9 : Int32)), (.ref b106)])) rfl (by rw [hml]; rfl) (argsL := [(.ref ab), (.int (9 : Int32)), (.int v127), (.int p3)]) (rest := [(.int (9 : Int32)), (.ref b106)]) (lenOf pd_7 rfl) rfl (by show 2 * 0 + _ ≤ _; exact Nat.le_of_eq rfl) (hb hby at_332) (fun _ _ => ⟨rfl, ej, (by decide : 3 + 0 ≤ 32), (by decide : 60 + 0 ≤ 5312)⟩)
                            dsimp only [Pt.U, Pt.locs, Pt.cells, Pt.slots] at X169 l169 y169 z169 st169 hQ169
                            subst l169 y169 z169
                            obtain ⟨rfl, N169q, K169⟩ := hQ169
                            have N169 := Fr.app Nj314 N169q
                            have e169 : T169.heap = hj314 := K169
                            refine own_go (B := T169.setTop (mkF m 335 #[.val (.int p0), .val (.int p1), .val (.int p2), .val (.int p3), .val (.int v6), .val (.ref ab), .val (.int v68), .val (.int v73), .val (.int nn), .val (.int v127), .val (.ref b106), .unset, .unset] [(.int (own_at cb 9 v127 p3)), (.int (9 : Int32)), (.ref b106)])) (st169) ?_
                            obtain ⟨cl170, Ar170, q170, Sz170, Nn170, Hh170, Gg170⟩ := id Va8
                            have hin170 : ¬ ((9 : Int32) < 0 ∨ cl170.slots.size ≤ ((9 : Int32)).toNatClampNeg) := inb_of Sz170 (own_inb hc318 (by decide))
                            obtain ⟨T171, h171, X171, e171, W171, st171⟩ := stC X169 hx hZ e169 Ar170 (j := (9 : Int32)) hin170 (g := (mkF m 335 #[.val (.int p0), .val (.int p1), .val (.int p2), .val (.int p3), .val (.int v6), .val (.ref ab), .val (.int v68), .val (.int v73), .val (.int nn), .val (.int v127), .val (.ref b106), .unset, .unset] [(.int (own_at cb 9 v127 p3)), (.int (9 : Int32)), (.ref b106)])) rfl rfl (hb hby at_335)
                            rw [own_nar (c := (own_at cb 9 v127 p3)) (own_at_rg rg103 9 v127 p3)] at W171
                            have V171 := Arv.set Ar170 q170 Sz170 Nn170 Hh170 Gg170 (own_nar (c := (own_at cb 9 v127 p3)) (own_at_rg rg103 9 v127 p3) ▸ fits_nar_char (own_at cb 9 v127 p3)) W171 9 rfl (Nat.le_of_ble_eq_true rfl)
                            have CH171 := CHv.wr W171 (Safe.arv hZ.alike Va8 (by decide)) CHj314
                            have CR171 := CRj314.trans (CHr.wr W171 (Safe.arv hZ.alike Va8 (by decide)) CHj314)
                            have O171 := Oj314.wr W171 g_b106
                            have N171 := Fr.snoc X171 N169 g_b106
                            have K171' : Keep h0 h171 ([] : List Addr) := Kj314.wr W171 (Or.inr sz_b106)
                            replace V171 : Arv Z h171 b106 k106 .char nn [(.int (own_at cb 0 v127 p3)), (.int (own_at cb 1 v127 p3)), (.int (own_at cb 2 v127 p3)), (.int (own_at cb 3 v127 p3)), (.int (own_at cb 4 v127 p3)), (.int (own_at cb 5 v127 p3)), (.int (own_at cb 6 v127 p3)), (.int (own_at cb 7 v127 p3)), (.int (own_at cb 8 v127 p3)), (.int (own_at cb 9 v127 p3)), (.int (0 : Int32)), (.int (0 : Int32))] (.int (0 : Int32)) := V171
                            refine own_go (B := T171.setTop (mkF m 336 #[.val (.int p0), .val (.int p1), .val (.int p2), .val (.int p3), .val (.int v6), .val (.ref ab), .val (.int v68), .val (.int v73), .val (.int nn), .val (.int v127), .val (.ref b106), .unset, .unset] [])) (st171) ?_
                            exact jn336 h171 T171 _ X171 e171 N171 O171 K171' CH171 CR171 (Nat.le_trans hkj314 (Keep.of_wr W171).1)  V171 (Eb8.wr W171) (Fb8.other W171 (Or.inl ne106_1)) (Gb8.other W171 (Or.inl ne106_1)) (Ub8.other W171 ne106_2)
                          · refine own_go (B := Tj.setTop (mkF m 336 #[.val (.int p0), .val (.int p1), .val (.int p2), .val (.int p3), .val (.int v6), .val (.ref ab), .val (.int v68), .val (.int v73), .val (.int nn), .val (.int v127), .val (.ref b106), .unset, .unset] [])) (fun _ k => XS.icmpYes Xj.here hx rfl (pc0 := 318) (pc' := 336) rfl (hb hby at_318) rfl (flt hc318).2.2.2 (by decide) (by decide) k) ?_
                            exact jn336 hj314 Tj _ Xj ej Nj314 Oj314 Kj314 CHj314 CRj314 hkj314  (own_beyond Va8 9 (.int (own_at cb 9 v127 p3)) (own_le (i := (9 : Int32)) hnn.1 hc318 (by decide))) Eb8 Fb8 Gb8 Ub8
                        refine own_go (B := Tj.setTop (mkF m 294 #[.val (.int p0), .val (.int p1), .val (.int p2), .val (.int p3), .val (.int v6), .val (.ref ab), .val (.int v68), .val (.int v73), .val (.int nn), .val (.int v127), .val (.ref b106), .unset, .unset] [(.int nn)])) (fun _ k => XS.iload Xj.here hx rfl (hb hby at_292) rfl k) ?_
                        refine own_go (B := Tj.setTop (mkF m 296 #[.val (.int p0), .val (.int p1), .val (.int p2), .val (.int p3), .val (.int v6), .val (.ref ab), .val (.int v68), .val (.int v73), .val (.int nn), .val (.int v127), .val (.ref b106), .unset, .unset] [(.int (8 : Int32)), (.int nn)])) (fun _ k => XS.bipush Xj.here hx rfl (hb hby at_294) k) ?_
                        by_cases hc296 : (8 : Int32) < nn
                        · refine own_go (B := Tj.setTop (mkF m 299 #[.val (.int p0), .val (.int p1), .val (.int p2), .val (.int p3), .val (.int v6), .val (.ref ab), .val (.int v68), .val (.int v73), .val (.int nn), .val (.int v127), .val (.ref b106), .unset, .unset] [])) (fun _ k => XS.icmpNo Xj.here hx rfl (hb hby at_296) rfl (tlt hc296).2.2.2 k) ?_
                          refine own_go (B := Tj.setTop (mkF m 301 #[.val (.int p0), .val (.int p1), .val (.int p2), .val (.int p3), .val (.int v6), .val (.ref ab), .val (.int v68), .val (.int v73), .val (.int nn), .val (.int v127), .val (.ref b106), .unset, .unset] [(.ref b106)])) (fun _ k => XS.aload Xj.here hx rfl (hb hby at_299) rfl rfl k) ?_
                          refine own_go (B := Tj.setTop (mkF m 303 #[.val (.int p0), .val (.int p1), .val (.int p2), .val (.int p3), .val (.int v6), .val (.ref ab), .val (.int v68), .val (.int v73), .val (.int nn), .val (.int v127), .val (.ref b106), .unset, .unset] [(.int (8 : Int32)), (.ref b106)])) (fun _ k => XS.bipush Xj.here hx rfl (hb hby at_301) k) ?_
                          refine own_go (B := Tj.setTop (mkF m 305 #[.val (.int p0), .val (.int p1), .val (.int p2), .val (.int p3), .val (.int v6), .val (.ref ab), .val (.int v68), .val (.int v73), .val (.int nn), .val (.int v127), .val (.ref b106), .unset, .unset] [(.ref ab), (.int (8 : Int32)), (.ref b106)])) (fun _ k => XS.aload Xj.here hx rfl (hb hby at_303) rfl rfl k) ?_
                          refine own_go (B := Tj.setTop (mkF m 307 #[.val (.int p0), .val (.int p1), .val (.int p2), .val (.int p3), .val (.int v6), .val (.ref ab), .val (.int v68), .val (.int v73), .val (.int nn), .val (.int v127), .val (.ref b106), .unset, .unset] [(.int (8 : Int32)), (.ref ab), (.int (8 : Int32)), (.ref b106)])) (fun _ k => XS.bipush Xj.here hx rfl (hb hby at_305) k) ?_
                          refine own_go (B := Tj.setTop (mkF m 309 #[.val (.int p0), .val (.int p1), .val (.int p2), .val (.int p3), .val (.int v6), .val (.ref ab), .val (.int v68), .val (.int v73), .val (.int nn), .val (.int v127), .val (.ref b106), .unset, .unset] [(.int v127), (.int (8 : Int32)), (.ref ab), (.int (8 : Int32)), (.ref b106)])) (fun _ k => XS.iload Xj.here hx rfl (hb hby at_307) rfl k) ?_
                          refine own_go (B := Tj.setTop (mkF m 310 #[.val (.int p0), .val (.int p1), .val (.int p2), .val (.int p3), .val (.int v6), .val (.ref ab), .val (.int v68), .val (.int v73), .val (.int nn), .val (.int v127), .val (.ref b106), .unset, .unset] [(.int p3), (.int v127), (.int (8 : Int32)), (.ref ab), (.int (8 : Int32)), (.ref b106)])) (fun _ k => XS.iloadN Xj.here hx rfl (hb hby at_309) rfl k) ?_
                          obtain ⟨_, _, ⟨T172, L172, k172, n172⟩, -, X172, ⟨Lc172, hQ172, l172, y172, z172⟩, st172⟩ := Jvm.LawKit.callS Xj hx (y := (⟨"com/example/void_repeat/voidrepeat/jdbc/RowStateOfPinLaw", "at", "(Ljava/lang/String;III)C"⟩ : MethodName)) hown (mvT hZ (hw _ (List.mem_of_getElem? (i := 72) rfl))) (mvT hZ (hw _ (List.mem_of_getElem? (i := 73) rfl))) (mvT hZ (hw _ (List.mem_of_getElem? (i := 74) rfl))) (mvT hZ (hw _ (List.mem_of_getElem? (i := 75) rfl))) (by decide) (backOf (W := 2) (rm10 l Z a0 hw [] wV wI wC wF sI tI sC tC sF tF k_wV k_tI k_tC k_tF zC fm G ab cb 8 v127 p3 hj292 n0 (Nat.le_trans Z0 Kj292.1) Oj292 (⟨t103, kb103, Nb103, vs103, Eb7, Fb7, Gb7, Ub7, cd103, rg103, ln103⟩ : own_Str Z hj292 ab cb) (by decide)) hZ (hw _ (List.mem_of_getElem? (i := 75) rfl)) (hw _ (List.mem_of_getElem? (i := 74) rfl)) (by decide) (by decide)) (g := (mkF m 310 #[.val (.int p0), .val (.int p1), .val (.int p2), .val (.int p3), .val (.int v6), .val (.ref ab), .val (.int v68), .val (.int v73), .val (.int nn), .val (.int v127), .val (.ref b106), .unset, .unset] [(.int p3), (.int v127), (.int (8 : Int32)), (.ref ab), (.int (8 : Int32)), (.ref b106)])) rfl (by rw [hml]; rfl) (argsL := [(.ref ab), (.int (8 : Int32)), (.int v127), (.int p3)]) (rest := [(.int (8 : Int32)), (.ref b106)]) (lenOf pd_7 rfl) rfl (by show 2 * 0 + _ ≤ _; exact Nat.le_of_eq rfl) (hb hby at_310) (fun _ _ => ⟨rfl, ej, (by decide : 3 + 0 ≤ 32), (by decide : 60 + 0 ≤ 5312)⟩)
                          dsimp only [Pt.U, Pt.locs, Pt.cells, Pt.slots] at X172 l172 y172 z172 st172 hQ172
                          subst l172 y172 z172
                          obtain ⟨rfl, N172q, K172⟩ := hQ172
                          have N172 := Fr.app Nj292 N172q
                          have e172 : T172.heap = hj292 := K172
                          refine own_go (B := T172.setTop (mkF m 313 #[.val (.int p0), .val (.int p1), .val (.int p2), .val (.int p3), .val (.int v6), .val (.ref ab), .val (.int v68), .val (.int v73), .val (.int nn), .val (.int v127), .val (.ref b106), .unset, .unset] [(.int (own_at cb 8 v127 p3)), (.int (8 : Int32)), (.ref b106)])) (st172) ?_
                          obtain ⟨cl173, Ar173, q173, Sz173, Nn173, Hh173, Gg173⟩ := id Va7
                          have hin173 : ¬ ((8 : Int32) < 0 ∨ cl173.slots.size ≤ ((8 : Int32)).toNatClampNeg) := inb_of Sz173 (own_inb hc296 (by decide))
                          obtain ⟨T174, h174, X174, e174, W174, st174⟩ := stC X172 hx hZ e172 Ar173 (j := (8 : Int32)) hin173 (g := (mkF m 313 #[.val (.int p0), .val (.int p1), .val (.int p2), .val (.int p3), .val (.int v6), .val (.ref ab), .val (.int v68), .val (.int v73), .val (.int nn), .val (.int v127), .val (.ref b106), .unset, .unset] [(.int (own_at cb 8 v127 p3)), (.int (8 : Int32)), (.ref b106)])) rfl rfl (hb hby at_313)
                          rw [own_nar (c := (own_at cb 8 v127 p3)) (own_at_rg rg103 8 v127 p3)] at W174
                          have V174 := Arv.set Ar173 q173 Sz173 Nn173 Hh173 Gg173 (own_nar (c := (own_at cb 8 v127 p3)) (own_at_rg rg103 8 v127 p3) ▸ fits_nar_char (own_at cb 8 v127 p3)) W174 8 rfl (Nat.le_of_ble_eq_true rfl)
                          have CH174 := CHv.wr W174 (Safe.arv hZ.alike Va7 (by decide)) CHj292
                          have CR174 := CRj292.trans (CHr.wr W174 (Safe.arv hZ.alike Va7 (by decide)) CHj292)
                          have O174 := Oj292.wr W174 g_b106
                          have N174 := Fr.snoc X174 N172 g_b106
                          have K174' : Keep h0 h174 ([] : List Addr) := Kj292.wr W174 (Or.inr sz_b106)
                          replace V174 : Arv Z h174 b106 k106 .char nn [(.int (own_at cb 0 v127 p3)), (.int (own_at cb 1 v127 p3)), (.int (own_at cb 2 v127 p3)), (.int (own_at cb 3 v127 p3)), (.int (own_at cb 4 v127 p3)), (.int (own_at cb 5 v127 p3)), (.int (own_at cb 6 v127 p3)), (.int (own_at cb 7 v127 p3)), (.int (own_at cb 8 v127 p3)), (.int (0 : Int32)), (.int (0 : Int32)), (.int (0 : Int32))] (.int (0 : Int32)) := V174
                          refine own_go (B := T174.setTop (mkF m 314 #[.val (.int p0), .val (.int p1), .val (.int p2), .val (.int p3), .val (.int v6), .val (.ref ab), .val (.int v68), .val (.int v73), .val (.int nn), .val (.int v127), .val (.ref b106), .unset, .unset] [])) (st174) ?_
                          exact jn314 h174 T174 _ X174 e174 N174 O174 K174' CH174 CR174 (Nat.le_trans hkj292 (Keep.of_wr W174).1)  V174 (Eb7.wr W174) (Fb7.other W174 (Or.inl ne106_1)) (Gb7.other W174 (Or.inl ne106_1)) (Ub7.other W174 ne106_2)
                        · refine own_go (B := Tj.setTop (mkF m 314 #[.val (.int p0), .val (.int p1), .val (.int p2), .val (.int p3), .val (.int v6), .val (.ref ab), .val (.int v68), .val (.int v73), .val (.int nn), .val (.int v127), .val (.ref b106), .unset, .unset] [])) (fun _ k => XS.icmpYes Xj.here hx rfl (pc0 := 296) (pc' := 314) rfl (hb hby at_296) rfl (flt hc296).2.2.2 (by decide) (by decide) k) ?_
                          exact jn314 hj292 Tj _ Xj ej Nj292 Oj292 Kj292 CHj292 CRj292 hkj292  (own_beyond Va7 8 (.int (own_at cb 8 v127 p3)) (own_le (i := (8 : Int32)) hnn.1 hc296 (by decide))) Eb7 Fb7 Gb7 Ub7
                      refine own_go (B := Tj.setTop (mkF m 272 #[.val (.int p0), .val (.int p1), .val (.int p2), .val (.int p3), .val (.int v6), .val (.ref ab), .val (.int v68), .val (.int v73), .val (.int nn), .val (.int v127), .val (.ref b106), .unset, .unset] [(.int nn)])) (fun _ k => XS.iload Xj.here hx rfl (hb hby at_270) rfl k) ?_
                      refine own_go (B := Tj.setTop (mkF m 274 #[.val (.int p0), .val (.int p1), .val (.int p2), .val (.int p3), .val (.int v6), .val (.ref ab), .val (.int v68), .val (.int v73), .val (.int nn), .val (.int v127), .val (.ref b106), .unset, .unset] [(.int (7 : Int32)), (.int nn)])) (fun _ k => XS.bipush Xj.here hx rfl (hb hby at_272) k) ?_
                      by_cases hc274 : (7 : Int32) < nn
                      · refine own_go (B := Tj.setTop (mkF m 277 #[.val (.int p0), .val (.int p1), .val (.int p2), .val (.int p3), .val (.int v6), .val (.ref ab), .val (.int v68), .val (.int v73), .val (.int nn), .val (.int v127), .val (.ref b106), .unset, .unset] [])) (fun _ k => XS.icmpNo Xj.here hx rfl (hb hby at_274) rfl (tlt hc274).2.2.2 k) ?_
                        refine own_go (B := Tj.setTop (mkF m 279 #[.val (.int p0), .val (.int p1), .val (.int p2), .val (.int p3), .val (.int v6), .val (.ref ab), .val (.int v68), .val (.int v73), .val (.int nn), .val (.int v127), .val (.ref b106), .unset, .unset] [(.ref b106)])) (fun _ k => XS.aload Xj.here hx rfl (hb hby at_277) rfl rfl k) ?_
                        refine own_go (B := Tj.setTop (mkF m 281 #[.val (.int p0), .val (.int p1), .val (.int p2), .val (.int p3), .val (.int v6), .val (.ref ab), .val (.int v68), .val (.int v73), .val (.int nn), .val (.int v127), .val (.ref b106), .unset, .unset] [(.int (7 : Int32)), (.ref b106)])) (fun _ k => XS.bipush Xj.here hx rfl (hb hby at_279) k) ?_
                        refine own_go (B := Tj.setTop (mkF m 283 #[.val (.int p0), .val (.int p1), .val (.int p2), .val (.int p3), .val (.int v6), .val (.ref ab), .val (.int v68), .val (.int v73), .val (.int nn), .val (.int v127), .val (.ref b106), .unset, .unset] [(.ref ab), (.int (7 : Int32)), (.ref b106)])) (fun _ k => XS.aload Xj.here hx rfl (hb hby at_281) rfl rfl k) ?_
                        refine own_go (B := Tj.setTop (mkF m 285 #[.val (.int p0), .val (.int p1), .val (.int p2), .val (.int p3), .val (.int v6), .val (.ref ab), .val (.int v68), .val (.int v73), .val (.int nn), .val (.int v127), .val (.ref b106), .unset, .unset] [(.int (7 : Int32)), (.ref ab), (.int (7 : Int32)), (.ref b106)])) (fun _ k => XS.bipush Xj.here hx rfl (hb hby at_283) k) ?_
                        refine own_go (B := Tj.setTop (mkF m 287 #[.val (.int p0), .val (.int p1), .val (.int p2), .val (.int p3), .val (.int v6), .val (.ref ab), .val (.int v68), .val (.int v73), .val (.int nn), .val (.int v127), .val (.ref b106), .unset, .unset] [(.int v127), (.int (7 : Int32)), (.ref ab), (.int (7 : Int32)), (.ref b106)])) (fun _ k => XS.iload Xj.here hx rfl (hb hby at_285) rfl k) ?_
                        refine own_go (B := Tj.setTop (mkF m 288 #[.val (.int p0), .val (.int p1), .val (.int p2), .val (.int p3), .val (.int v6), .val (.ref ab), .val (.int v68), .val (.int v73), .val (.int nn), .val (.int v127), .val (.ref b106), .unset, .unset] [(.int p3), (.int v127), (.int (7 : Int32)), (.ref ab), (.int (7 : Int32)), (.ref b106)])) (fun _ k => XS.iloadN Xj.here hx rfl (hb hby at_287) rfl k) ?_
                        obtain ⟨_, _, ⟨T175, L175, k175, n175⟩, -, X175, ⟨Lc175, hQ175, l175, y175, z175⟩, st175⟩ := Jvm.LawKit.callS Xj hx (y := (⟨"com/example/void_repeat/voidrepeat/jdbc/RowStateOfPinLaw", "at", "(Ljava/lang/String;III)C"⟩ : MethodName)) hown (mvT hZ (hw _ (List.mem_of_getElem? (i := 72) rfl))) (mvT hZ (hw _ (List.mem_of_getElem? (i := 73) rfl))) (mvT hZ (hw _ (List.mem_of_getElem? (i := 74) rfl))) (mvT hZ (hw _ (List.mem_of_getElem? (i := 75) rfl))) (by decide) (backOf (W := 2) (rm10 l Z a0 hw [] wV wI wC wF sI tI sC tC sF tF k_wV k_tI k_tC k_tF zC fm G ab cb 7 v127 p3 hj270 n0 (Nat.le_trans Z0 Kj270.1) Oj270 (⟨t103, kb103, Nb103, vs103, Eb6, Fb6, Gb6, Ub6, cd103, rg103, ln103⟩ : own_Str Z hj270 ab cb) (by decide)) hZ (hw _ (List.mem_of_getElem? (i := 75) rfl)) (hw _ (List.mem_of_getElem? (i := 74) rfl)) (by decide) (by decide)) (g := (mkF m 288 #[.val (.int p0), .val (.int p1), .val (.int p2), .val (.int p3), .val (.int v6), .val (.ref ab), .val (.int v68), .val (.int v73), .val (.int nn), .val (.int v127), .val (.ref b106), .unset, .unset] [(.int p3), (.int v127), (.int (7 : Int32)), (.ref ab), (.int (7 : Int32)), (.ref b106)])) rfl (by rw [hml]; rfl) (argsL := [(.ref ab), (.int (7 : Int32)), (.int v127), (.int p3)]) (rest := [(.int (7 : Int32)), (.ref b106)]) (lenOf pd_7 rfl) rfl (by show 2 * 0 + _ ≤ _; exact Nat.le_of_eq rfl) (hb hby at_288) (fun _ _ => ⟨rfl, ej, (by decide : 3 + 0 ≤ 32), (by decide : 60 + 0 ≤ 5312)⟩)
                        dsimp only [Pt.U, Pt.locs, Pt.cells, Pt.slots] at X175 l175 y175 z175 st175 hQ175
                        subst l175 y175 z175
                        obtain ⟨rfl, N175q, K175⟩ := hQ175
                        have N175 := Fr.app Nj270 N175q
                        have e175 : T175.heap = hj270 := K175
                        refine own_go (B := T175.setTop (mkF m 291 #[.val (.int p0), .val (.int p1), .val (.int p2), .val (.int p3), .val (.int v6), .val (.ref ab), .val (.int v68), .val (.int v73), .val (.int nn), .val (.int v127), .val (.ref b106), .unset, .unset] [(.int (own_at cb 7 v127 p3)), (.int (7 : Int32)), (.ref b106)])) (st175) ?_
                        obtain ⟨cl176, Ar176, q176, Sz176, Nn176, Hh176, Gg176⟩ := id Va6
                        have hin176 : ¬ ((7 : Int32) < 0 ∨ cl176.slots.size ≤ ((7 : Int32)).toNatClampNeg) := inb_of Sz176 (own_inb hc274 (by decide))
                        obtain ⟨T177, h177, X177, e177, W177, st177⟩ := stC X175 hx hZ e175 Ar176 (j := (7 : Int32)) hin176 (g := (mkF m 291 #[.val (.int p0), .val (.int p1), .val (.int p2), .val (.int p3), .val (.int v6), .val (.ref ab), .val (.int v68), .val (.int v73), .val (.int nn), .val (.int v127), .val (.ref b106), .unset, .unset] [(.int (own_at cb 7 v127 p3)), (.int (7 : Int32)), (.ref b106)])) rfl rfl (hb hby at_291)
                        rw [own_nar (c := (own_at cb 7 v127 p3)) (own_at_rg rg103 7 v127 p3)] at W177
                        have V177 := Arv.set Ar176 q176 Sz176 Nn176 Hh176 Gg176 (own_nar (c := (own_at cb 7 v127 p3)) (own_at_rg rg103 7 v127 p3) ▸ fits_nar_char (own_at cb 7 v127 p3)) W177 7 rfl (Nat.le_of_ble_eq_true rfl)
                        have CH177 := CHv.wr W177 (Safe.arv hZ.alike Va6 (by decide)) CHj270
                        have CR177 := CRj270.trans (CHr.wr W177 (Safe.arv hZ.alike Va6 (by decide)) CHj270)
                        have O177 := Oj270.wr W177 g_b106
                        have N177 := Fr.snoc X177 N175 g_b106
                        have K177' : Keep h0 h177 ([] : List Addr) := Kj270.wr W177 (Or.inr sz_b106)
                        replace V177 : Arv Z h177 b106 k106 .char nn [(.int (own_at cb 0 v127 p3)), (.int (own_at cb 1 v127 p3)), (.int (own_at cb 2 v127 p3)), (.int (own_at cb 3 v127 p3)), (.int (own_at cb 4 v127 p3)), (.int (own_at cb 5 v127 p3)), (.int (own_at cb 6 v127 p3)), (.int (own_at cb 7 v127 p3)), (.int (0 : Int32)), (.int (0 : Int32)), (.int (0 : Int32)), (.int (0 : Int32))] (.int (0 : Int32)) := V177
                        refine own_go (B := T177.setTop (mkF m 292 #[.val (.int p0), .val (.int p1), .val (.int p2), .val (.int p3), .val (.int v6), .val (.ref ab), .val (.int v68), .val (.int v73), .val (.int nn), .val (.int v127), .val (.ref b106), .unset, .unset] [])) (st177) ?_
                        exact jn292 h177 T177 _ X177 e177 N177 O177 K177' CH177 CR177 (Nat.le_trans hkj270 (Keep.of_wr W177).1)  V177 (Eb6.wr W177) (Fb6.other W177 (Or.inl ne106_1)) (Gb6.other W177 (Or.inl ne106_1)) (Ub6.other W177 ne106_2)
                      · refine own_go (B := Tj.setTop (mkF m 292 #[.val (.int p0), .val (.int p1), .val (.int p2), .val (.int p3), .val (.int v6), .val (.ref ab), .val (.int v68), .val (.int v73), .val (.int nn), .val (.int v127), .val (.ref b106), .unset, .unset] [])) (fun _ k => XS.icmpYes Xj.here hx rfl (pc0 := 274) (pc' := 292) rfl (hb hby at_274) rfl (flt hc274).2.2.2 (by decide) (by decide) k) ?_
                        exact jn292 hj270 Tj _ Xj ej Nj270 Oj270 Kj270 CHj270 CRj270 hkj270  (own_beyond Va6 7 (.int (own_at cb 7 v127 p3)) (own_le (i := (7 : Int32)) hnn.1 hc274 (by decide))) Eb6 Fb6 Gb6 Ub6
                    refine own_go (B := Tj.setTop (mkF m 250 #[.val (.int p0), .val (.int p1), .val (.int p2), .val (.int p3), .val (.int v6), .val (.ref ab), .val (.int v68), .val (.int v73), .val (.int nn), .val (.int v127), .val (.ref b106), .unset, .unset] [(.int nn)])) (fun _ k => XS.iload Xj.here hx rfl (hb hby at_248) rfl k) ?_
                    refine own_go (B := Tj.setTop (mkF m 252 #[.val (.int p0), .val (.int p1), .val (.int p2), .val (.int p3), .val (.int v6), .val (.ref ab), .val (.int v68), .val (.int v73), .val (.int nn), .val (.int v127), .val (.ref b106), .unset, .unset] [(.int (6 : Int32)), (.int nn)])) (fun _ k => XS.bipush Xj.here hx rfl (hb hby at_250) k) ?_
                    by_cases hc252 : (6 : Int32) < nn
                    · refine own_go (B := Tj.setTop (mkF m 255 #[.val (.int p0), .val (.int p1), .val (.int p2), .val (.int p3), .val (.int v6), .val (.ref ab), .val (.int v68), .val (.int v73), .val (.int nn), .val (.int v127), .val (.ref b106), .unset, .unset] [])) (fun _ k => XS.icmpNo Xj.here hx rfl (hb hby at_252) rfl (tlt hc252).2.2.2 k) ?_
                      refine own_go (B := Tj.setTop (mkF m 257 #[.val (.int p0), .val (.int p1), .val (.int p2), .val (.int p3), .val (.int v6), .val (.ref ab), .val (.int v68), .val (.int v73), .val (.int nn), .val (.int v127), .val (.ref b106), .unset, .unset] [(.ref b106)])) (fun _ k => XS.aload Xj.here hx rfl (hb hby at_255) rfl rfl k) ?_
                      refine own_go (B := Tj.setTop (mkF m 259 #[.val (.int p0), .val (.int p1), .val (.int p2), .val (.int p3), .val (.int v6), .val (.ref ab), .val (.int v68), .val (.int v73), .val (.int nn), .val (.int v127), .val (.ref b106), .unset, .unset] [(.int (6 : Int32)), (.ref b106)])) (fun _ k => XS.bipush Xj.here hx rfl (hb hby at_257) k) ?_
                      refine own_go (B := Tj.setTop (mkF m 261 #[.val (.int p0), .val (.int p1), .val (.int p2), .val (.int p3), .val (.int v6), .val (.ref ab), .val (.int v68), .val (.int v73), .val (.int nn), .val (.int v127), .val (.ref b106), .unset, .unset] [(.ref ab), (.int (6 : Int32)), (.ref b106)])) (fun _ k => XS.aload Xj.here hx rfl (hb hby at_259) rfl rfl k) ?_
                      refine own_go (B := Tj.setTop (mkF m 263 #[.val (.int p0), .val (.int p1), .val (.int p2), .val (.int p3), .val (.int v6), .val (.ref ab), .val (.int v68), .val (.int v73), .val (.int nn), .val (.int v127), .val (.ref b106), .unset, .unset] [(.int (6 : Int32)), (.ref ab), (.int (6 : Int32)), (.ref b106)])) (fun _ k => XS.bipush Xj.here hx rfl (hb hby at_261) k) ?_
                      refine own_go (B := Tj.setTop (mkF m 265 #[.val (.int p0), .val (.int p1), .val (.int p2), .val (.int p3), .val (.int v6), .val (.ref ab), .val (.int v68), .val (.int v73), .val (.int nn), .val (.int v127), .val (.ref b106), .unset, .unset] [(.int v127), (.int (6 : Int32)), (.ref ab), (.int (6 : Int32)), (.ref b106)])) (fun _ k => XS.iload Xj.here hx rfl (hb hby at_263) rfl k) ?_
                      refine own_go (B := Tj.setTop (mkF m 266 #[.val (.int p0), .val (.int p1), .val (.int p2), .val (.int p3), .val (.int v6), .val (.ref ab), .val (.int v68), .val (.int v73), .val (.int nn), .val (.int v127), .val (.ref b106), .unset, .unset] [(.int p3), (.int v127), (.int (6 : Int32)), (.ref ab), (.int (6 : Int32)), (.ref b106)])) (fun _ k => XS.iloadN Xj.here hx rfl (hb hby at_265) rfl k) ?_
                      obtain ⟨_, _, ⟨T178, L178, k178, n178⟩, -, X178, ⟨Lc178, hQ178, l178, y178, z178⟩, st178⟩ := Jvm.LawKit.callS Xj hx (y := (⟨"com/example/void_repeat/voidrepeat/jdbc/RowStateOfPinLaw", "at", "(Ljava/lang/String;III)C"⟩ : MethodName)) hown (mvT hZ (hw _ (List.mem_of_getElem? (i := 72) rfl))) (mvT hZ (hw _ (List.mem_of_getElem? (i := 73) rfl))) (mvT hZ (hw _ (List.mem_of_getElem? (i := 74) rfl))) (mvT hZ (hw _ (List.mem_of_getElem? (i := 75) rfl))) (by decide) (backOf (W := 2) (rm10 l Z a0 hw [] wV wI wC wF sI tI sC tC sF tF k_wV k_tI k_tC k_tF zC fm G ab cb 6 v127 p3 hj248 n0 (Nat.le_trans Z0 Kj248.1) Oj248 (⟨t103, kb103, Nb103, vs103, Eb5, Fb5, Gb5, Ub5, cd103, rg103, ln103⟩ : own_Str Z hj248 ab cb) (by decide)) hZ (hw _ (List.mem_of_getElem? (i := 75) rfl)) (hw _ (List.mem_of_getElem? (i := 74) rfl)) (by decide) (by decide)) (g := (mkF m 266 #[.val (.int p0), .val (.int p1), .val (.int p2), .val (.int p3), .val (.int v6), .val (.ref ab), .val (.int v68), .val (.int v73), .val (.int nn), .val (.int v127), .val (.ref b106), .unset, .unset] [(.int p3), (.int v127), (.int (6 : Int32)), (.ref ab), (.int (6 : Int32)), (.ref b106)])) rfl (by rw [hml]; rfl) (argsL := [(.ref ab), (.int (6 : Int32)), (.int v127), (.int p3)]) (rest := [(.int (6 : Int32)), (.ref b106)]) (lenOf pd_7 rfl) rfl (by show 2 * 0 + _ ≤ _; exact Nat.le_of_eq rfl) (hb hby at_266) (fun _ _ => ⟨rfl, ej, (by decide : 3 + 0 ≤ 32), (by decide : 60 + 0 ≤ 5312)⟩)
                      dsimp only [Pt.U, Pt.locs, Pt.cells, Pt.slots] at X178 l178 y178 z178 st178 hQ178
                      subst l178 y178 z178
                      obtain ⟨rfl, N178q, K178⟩ := hQ178
                      have N178 := Fr.app Nj248 N178q
                      have e178 : T178.heap = hj248 := K178
                      refine own_go (B := T178.setTop (mkF m 269 #[.val (.int p0), .val (.int p1), .val (.int p2), .val (.int p3), .val (.int v6), .val (.ref ab), .val (.int v68), .val (.int v73), .val (.int nn), .val (.int v127), .val (.ref b106), .unset, .unset] [(.int (own_at cb 6 v127 p3)), (.int (6 : Int32)), (.ref b106)])) (st178) ?_
                      obtain ⟨cl179, Ar179, q179, Sz179, Nn179, Hh179, Gg179⟩ := id Va5
                      have hin179 : ¬ ((6 : Int32) < 0 ∨ cl179.slots.size ≤ ((6 : Int32)).toNatClampNeg) := inb_of Sz179 (own_inb hc252 (by decide))
                      obtain ⟨T180, h180, X180, e180, W180, st180⟩ := stC X178 hx hZ e178 Ar179 (j := (6 : Int32)) hin179 (g := (mkF m 269 #[.val (.int p0), .val (.int p1), .val (.int p2), .val (.int p3), .val (.int v6), .val (.ref ab), .val (.int v68), .val (.int v73), .val (.int nn), .val (.int v127), .val (.ref b106), .unset, .unset] [(.int (own_at cb 6 v127 p3)), (.int (6 : Int32)), (.ref b106)])) rfl rfl (hb hby at_269)
                      rw [own_nar (c := (own_at cb 6 v127 p3)) (own_at_rg rg103 6 v127 p3)] at W180
                      have V180 := Arv.set Ar179 q179 Sz179 Nn179 Hh179 Gg179 (own_nar (c := (own_at cb 6 v127 p3)) (own_at_rg rg103 6 v127 p3) ▸ fits_nar_char (own_at cb 6 v127 p3)) W180 6 rfl (Nat.le_of_ble_eq_true rfl)
                      have CH180 := CHv.wr W180 (Safe.arv hZ.alike Va5 (by decide)) CHj248
                      have CR180 := CRj248.trans (CHr.wr W180 (Safe.arv hZ.alike Va5 (by decide)) CHj248)
                      have O180 := Oj248.wr W180 g_b106
                      have N180 := Fr.snoc X180 N178 g_b106
                      have K180' : Keep h0 h180 ([] : List Addr) := Kj248.wr W180 (Or.inr sz_b106)
                      replace V180 : Arv Z h180 b106 k106 .char nn [(.int (own_at cb 0 v127 p3)), (.int (own_at cb 1 v127 p3)), (.int (own_at cb 2 v127 p3)), (.int (own_at cb 3 v127 p3)), (.int (own_at cb 4 v127 p3)), (.int (own_at cb 5 v127 p3)), (.int (own_at cb 6 v127 p3)), (.int (0 : Int32)), (.int (0 : Int32)), (.int (0 : Int32)), (.int (0 : Int32)), (.int (0 : Int32))] (.int (0 : Int32)) := V180
                      refine own_go (B := T180.setTop (mkF m 270 #[.val (.int p0), .val (.int p1), .val (.int p2), .val (.int p3), .val (.int v6), .val (.ref ab), .val (.int v68), .val (.int v73), .val (.int nn), .val (.int v127), .val (.ref b106), .unset, .unset] [])) (st180) ?_
                      exact jn270 h180 T180 _ X180 e180 N180 O180 K180' CH180 CR180 (Nat.le_trans hkj248 (Keep.of_wr W180).1)  V180 (Eb5.wr W180) (Fb5.other W180 (Or.inl ne106_1)) (Gb5.other W180 (Or.inl ne106_1)) (Ub5.other W180 ne106_2)
                    · refine own_go (B := Tj.setTop (mkF m 270 #[.val (.int p0), .val (.int p1), .val (.int p2), .val (.int p3), .val (.int v6), .val (.ref ab), .val (.int v68), .val (.int v73), .val (.int nn), .val (.int v127), .val (.ref b106), .unset, .unset] [])) (fun _ k => XS.icmpYes Xj.here hx rfl (pc0 := 252) (pc' := 270) rfl (hb hby at_252) rfl (flt hc252).2.2.2 (by decide) (by decide) k) ?_
                      exact jn270 hj248 Tj _ Xj ej Nj248 Oj248 Kj248 CHj248 CRj248 hkj248  (own_beyond Va5 6 (.int (own_at cb 6 v127 p3)) (own_le (i := (6 : Int32)) hnn.1 hc252 (by decide))) Eb5 Fb5 Gb5 Ub5
                  refine own_go (B := Tj.setTop (mkF m 231 #[.val (.int p0), .val (.int p1), .val (.int p2), .val (.int p3), .val (.int v6), .val (.ref ab), .val (.int v68), .val (.int v73), .val (.int nn), .val (.int v127), .val (.ref b106), .unset, .unset] [(.int nn)])) (fun _ k => XS.iload Xj.here hx rfl (hb hby at_229) rfl k) ?_
                  refine own_go (B := Tj.setTop (mkF m 232 #[.val (.int p0), .val (.int p1), .val (.int p2), .val (.int p3), .val (.int v6), .val (.ref ab), .val (.int v68), .val (.int v73), .val (.int nn), .val (.int v127), .val (.ref b106), .unset, .unset] [(.int (5 : Int32)), (.int nn)])) (fun _ k => XS.iconst Xj.here hx rfl (hb hby at_231) k) ?_
                  by_cases hc232 : (5 : Int32) < nn
                  · refine own_go (B := Tj.setTop (mkF m 235 #[.val (.int p0), .val (.int p1), .val (.int p2), .val (.int p3), .val (.int v6), .val (.ref ab), .val (.int v68), .val (.int v73), .val (.int nn), .val (.int v127), .val (.ref b106), .unset, .unset] [])) (fun _ k => XS.icmpNo Xj.here hx rfl (hb hby at_232) rfl (tlt hc232).2.2.2 k) ?_
                    refine own_go (B := Tj.setTop (mkF m 237 #[.val (.int p0), .val (.int p1), .val (.int p2), .val (.int p3), .val (.int v6), .val (.ref ab), .val (.int v68), .val (.int v73), .val (.int nn), .val (.int v127), .val (.ref b106), .unset, .unset] [(.ref b106)])) (fun _ k => XS.aload Xj.here hx rfl (hb hby at_235) rfl rfl k) ?_
                    refine own_go (B := Tj.setTop (mkF m 238 #[.val (.int p0), .val (.int p1), .val (.int p2), .val (.int p3), .val (.int v6), .val (.ref ab), .val (.int v68), .val (.int v73), .val (.int nn), .val (.int v127), .val (.ref b106), .unset, .unset] [(.int (5 : Int32)), (.ref b106)])) (fun _ k => XS.iconst Xj.here hx rfl (hb hby at_237) k) ?_
                    refine own_go (B := Tj.setTop (mkF m 240 #[.val (.int p0), .val (.int p1), .val (.int p2), .val (.int p3), .val (.int v6), .val (.ref ab), .val (.int v68), .val (.int v73), .val (.int nn), .val (.int v127), .val (.ref b106), .unset, .unset] [(.ref ab), (.int (5 : Int32)), (.ref b106)])) (fun _ k => XS.aload Xj.here hx rfl (hb hby at_238) rfl rfl k) ?_
                    refine own_go (B := Tj.setTop (mkF m 241 #[.val (.int p0), .val (.int p1), .val (.int p2), .val (.int p3), .val (.int v6), .val (.ref ab), .val (.int v68), .val (.int v73), .val (.int nn), .val (.int v127), .val (.ref b106), .unset, .unset] [(.int (5 : Int32)), (.ref ab), (.int (5 : Int32)), (.ref b106)])) (fun _ k => XS.iconst Xj.here hx rfl (hb hby at_240) k) ?_
                    refine own_go (B := Tj.setTop (mkF m 243 #[.val (.int p0), .val (.int p1), .val (.int p2), .val (.int p3), .val (.int v6), .val (.ref ab), .val (.int v68), .val (.int v73), .val (.int nn), .val (.int v127), .val (.ref b106), .unset, .unset] [(.int v127), (.int (5 : Int32)), (.ref ab), (.int (5 : Int32)), (.ref b106)])) (fun _ k => XS.iload Xj.here hx rfl (hb hby at_241) rfl k) ?_
                    refine own_go (B := Tj.setTop (mkF m 244 #[.val (.int p0), .val (.int p1), .val (.int p2), .val (.int p3), .val (.int v6), .val (.ref ab), .val (.int v68), .val (.int v73), .val (.int nn), .val (.int v127), .val (.ref b106), .unset, .unset] [(.int p3), (.int v127), (.int (5 : Int32)), (.ref ab), (.int (5 : Int32)), (.ref b106)])) (fun _ k => XS.iloadN Xj.here hx rfl (hb hby at_243) rfl k) ?_
                    obtain ⟨_, _, ⟨T181, L181, k181, n181⟩, -, X181, ⟨Lc181, hQ181, l181, y181, z181⟩, st181⟩ := Jvm.LawKit.callS Xj hx (y := (⟨"com/example/void_repeat/voidrepeat/jdbc/RowStateOfPinLaw", "at", "(Ljava/lang/String;III)C"⟩ : MethodName)) hown (mvT hZ (hw _ (List.mem_of_getElem? (i := 72) rfl))) (mvT hZ (hw _ (List.mem_of_getElem? (i := 73) rfl))) (mvT hZ (hw _ (List.mem_of_getElem? (i := 74) rfl))) (mvT hZ (hw _ (List.mem_of_getElem? (i := 75) rfl))) (by decide) (backOf (W := 2) (rm10 l Z a0 hw [] wV wI wC wF sI tI sC tC sF tF k_wV k_tI k_tC k_tF zC fm G ab cb 5 v127 p3 hj229 n0 (Nat.le_trans Z0 Kj229.1) Oj229 (⟨t103, kb103, Nb103, vs103, Eb4, Fb4, Gb4, Ub4, cd103, rg103, ln103⟩ : own_Str Z hj229 ab cb) (by decide)) hZ (hw _ (List.mem_of_getElem? (i := 75) rfl)) (hw _ (List.mem_of_getElem? (i := 74) rfl)) (by decide) (by decide)) (g := (mkF m 244 #[.val (.int p0), .val (.int p1), .val (.int p2), .val (.int p3), .val (.int v6), .val (.ref ab), .val (.int v68), .val (.int v73), .val (.int nn), .val (.int v127), .val (.ref b106), .unset, .unset] [(.int p3), (.int v127), (.int (5 : Int32)), (.ref ab), (.int (5 : Int32)), (.ref b106)])) rfl (by rw [hml]; rfl) (argsL := [(.ref ab), (.int (5 : Int32)), (.int v127), (.int p3)]) (rest := [(.int (5 : Int32)), (.ref b106)]) (lenOf pd_7 rfl) rfl (by show 2 * 0 + _ ≤ _; exact Nat.le_of_eq rfl) (hb hby at_244) (fun _ _ => ⟨rfl, ej, (by decide : 3 + 0 ≤ 32), (by decide : 60 + 0 ≤ 5312)⟩)
                    dsimp only [Pt.U, Pt.locs, Pt.cells, Pt.slots] at X181 l181 y181 z181 st181 hQ181
                    subst l181 y181 z181
                    obtain ⟨rfl, N181q, K181⟩ := hQ181
                    have N181 := Fr.app Nj229 N181q
                    have e181 : T181.heap = hj229 := K181
                    refine own_go (B := T181.setTop (mkF m 247 #[.val (.int p0), .val (.int p1), .val (.int p2), .val (.int p3), .val (.int v6), .val (.ref ab), .val (.int v68), .val (.int v73), .val (.int nn), .val (.int v127), .val (.ref b106), .unset, .unset] [(.int (own_at cb 5 v127 p3)), (.int (5 : Int32)), (.ref b106)])) (st181) ?_
                    obtain ⟨cl182, Ar182, q182, Sz182, Nn182, Hh182, Gg182⟩ := id Va4
                    have hin182 : ¬ ((5 : Int32) < 0 ∨ cl182.slots.size ≤ ((5 : Int32)).toNatClampNeg) := inb_of Sz182 (own_inb hc232 (by decide))
                    obtain ⟨T183, h183, X183, e183, W183, st183⟩ := stC X181 hx hZ e181 Ar182 (j := (5 : Int32)) hin182 (g := (mkF m 247 #[.val (.int p0), .val (.int p1), .val (.int p2), .val (.int p3), .val (.int v6), .val (.ref ab), .val (.int v68), .val (.int v73), .val (.int nn), .val (.int v127), .val (.ref b106), .unset, .unset] [(.int (own_at cb 5 v127 p3)), (.int (5 : Int32)), (.ref b106)])) rfl rfl (hb hby at_247)
                    rw [own_nar (c := (own_at cb 5 v127 p3)) (own_at_rg rg103 5 v127 p3)] at W183
                    have V183 := Arv.set Ar182 q182 Sz182 Nn182 Hh182 Gg182 (own_nar (c := (own_at cb 5 v127 p3)) (own_at_rg rg103 5 v127 p3) ▸ fits_nar_char (own_at cb 5 v127 p3)) W183 5 rfl (Nat.le_of_ble_eq_true rfl)
                    have CH183 := CHv.wr W183 (Safe.arv hZ.alike Va4 (by decide)) CHj229
                    have CR183 := CRj229.trans (CHr.wr W183 (Safe.arv hZ.alike Va4 (by decide)) CHj229)
                    have O183 := Oj229.wr W183 g_b106
                    have N183 := Fr.snoc X183 N181 g_b106
                    have K183' : Keep h0 h183 ([] : List Addr) := Kj229.wr W183 (Or.inr sz_b106)
                    replace V183 : Arv Z h183 b106 k106 .char nn [(.int (own_at cb 0 v127 p3)), (.int (own_at cb 1 v127 p3)), (.int (own_at cb 2 v127 p3)), (.int (own_at cb 3 v127 p3)), (.int (own_at cb 4 v127 p3)), (.int (own_at cb 5 v127 p3)), (.int (0 : Int32)), (.int (0 : Int32)), (.int (0 : Int32)), (.int (0 : Int32)), (.int (0 : Int32)), (.int (0 : Int32))] (.int (0 : Int32)) := V183
                    refine own_go (B := T183.setTop (mkF m 248 #[.val (.int p0), .val (.int p1), .val (.int p2), .val (.int p3), .val (.int v6), .val (.ref ab), .val (.int v68), .val (.int v73), .val (.int nn), .val (.int v127), .val (.ref b106), .unset, .unset] [])) (st183) ?_
                    exact jn248 h183 T183 _ X183 e183 N183 O183 K183' CH183 CR183 (Nat.le_trans hkj229 (Keep.of_wr W183).1)  V183 (Eb4.wr W183) (Fb4.other W183 (Or.inl ne106_1)) (Gb4.other W183 (Or.inl ne106_1)) (Ub4.other W183 ne106_2)
                  · refine own_go (B := Tj.setTop (mkF m 248 #[.val (.int p0), .val (.int p1), .val (.int p2), .val (.int p3), .val (.int v6), .val (.ref ab), .val (.int v68), .val (.int v73), .val (.int nn), .val (.int v127), .val (.ref b106), .unset, .unset] [])) (fun _ k => XS.icmpYes Xj.here hx rfl (pc0 := 232) (pc' := 248) rfl (hb hby at_232) rfl (flt hc232).2.2.2 (by decide) (by decide) k) ?_
                    exact jn248 hj229 Tj _ Xj ej Nj229 Oj229 Kj229 CHj229 CRj229 hkj229  (own_beyond Va4 5 (.int (own_at cb 5 v127 p3)) (own_le (i := (5 : Int32)) hnn.1 hc232 (by decide))) Eb4 Fb4 Gb4 Ub4
                refine own_go (B := Tj.setTop (mkF m 212 #[.val (.int p0), .val (.int p1), .val (.int p2), .val (.int p3), .val (.int v6), .val (.ref ab), .val (.int v68), .val (.int v73), .val (.int nn), .val (.int v127), .val (.ref b106), .unset, .unset] [(.int nn)])) (fun _ k => XS.iload Xj.here hx rfl (hb hby at_210) rfl k) ?_
                refine own_go (B := Tj.setTop (mkF m 213 #[.val (.int p0), .val (.int p1), .val (.int p2), .val (.int p3), .val (.int v6), .val (.ref ab), .val (.int v68), .val (.int v73), .val (.int nn), .val (.int v127), .val (.ref b106), .unset, .unset] [(.int (4 : Int32)), (.int nn)])) (fun _ k => XS.iconst Xj.here hx rfl (hb hby at_212) k) ?_
                by_cases hc213 : (4 : Int32) < nn
                · refine own_go (B := Tj.setTop (mkF m 216 #[.val (.int p0), .val (.int p1), .val (.int p2), .val (.int p3), .val (.int v6), .val (.ref ab), .val (.int v68), .val (.int v73), .val (.int nn), .val (.int v127), .val (.ref b106), .unset, .unset] [])) (fun _ k => XS.icmpNo Xj.here hx rfl (hb hby at_213) rfl (tlt hc213).2.2.2 k) ?_
                  refine own_go (B := Tj.setTop (mkF m 218 #[.val (.int p0), .val (.int p1), .val (.int p2), .val (.int p3), .val (.int v6), .val (.ref ab), .val (.int v68), .val (.int v73), .val (.int nn), .val (.int v127), .val (.ref b106), .unset, .unset] [(.ref b106)])) (fun _ k => XS.aload Xj.here hx rfl (hb hby at_216) rfl rfl k) ?_
                  refine own_go (B := Tj.setTop (mkF m 219 #[.val (.int p0), .val (.int p1), .val (.int p2), .val (.int p3), .val (.int v6), .val (.ref ab), .val (.int v68), .val (.int v73), .val (.int nn), .val (.int v127), .val (.ref b106), .unset, .unset] [(.int (4 : Int32)), (.ref b106)])) (fun _ k => XS.iconst Xj.here hx rfl (hb hby at_218) k) ?_
                  refine own_go (B := Tj.setTop (mkF m 221 #[.val (.int p0), .val (.int p1), .val (.int p2), .val (.int p3), .val (.int v6), .val (.ref ab), .val (.int v68), .val (.int v73), .val (.int nn), .val (.int v127), .val (.ref b106), .unset, .unset] [(.ref ab), (.int (4 : Int32)), (.ref b106)])) (fun _ k => XS.aload Xj.here hx rfl (hb hby at_219) rfl rfl k) ?_
                  refine own_go (B := Tj.setTop (mkF m 222 #[.val (.int p0), .val (.int p1), .val (.int p2), .val (.int p3), .val (.int v6), .val (.ref ab), .val (.int v68), .val (.int v73), .val (.int nn), .val (.int v127), .val (.ref b106), .unset, .unset] [(.int (4 : Int32)), (.ref ab), (.int (4 : Int32)), (.ref b106)])) (fun _ k => XS.iconst Xj.here hx rfl (hb hby at_221) k) ?_
                  refine own_go (B := Tj.setTop (mkF m 224 #[.val (.int p0), .val (.int p1), .val (.int p2), .val (.int p3), .val (.int v6), .val (.ref ab), .val (.int v68), .val (.int v73), .val (.int nn), .val (.int v127), .val (.ref b106), .unset, .unset] [(.int v127), (.int (4 : Int32)), (.ref ab), (.int (4 : Int32)), (.ref b106)])) (fun _ k => XS.iload Xj.here hx rfl (hb hby at_222) rfl k) ?_
                  refine own_go (B := Tj.setTop (mkF m 225 #[.val (.int p0), .val (.int p1), .val (.int p2), .val (.int p3), .val (.int v6), .val (.ref ab), .val (.int v68), .val (.int v73), .val (.int nn), .val (.int v127), .val (.ref b106), .unset, .unset] [(.int p3), (.int v127), (.int (4 : Int32)), (.ref ab), (.int (4 : Int32)), (.ref b106)])) (fun _ k => XS.iloadN Xj.here hx rfl (hb hby at_224) rfl k) ?_
                  obtain ⟨_, _, ⟨T184, L184, k184, n184⟩, -, X184, ⟨Lc184, hQ184, l184, y184, z184⟩, st184⟩ := Jvm.LawKit.callS Xj hx (y := (⟨"com/example/void_repeat/voidrepeat/jdbc/RowStateOfPinLaw", "at", "(Ljava/lang/String;III)C"⟩ : MethodName)) hown (mvT hZ (hw _ (List.mem_of_getElem? (i := 72) rfl))) (mvT hZ (hw _ (List.mem_of_getElem? (i := 73) rfl))) (mvT hZ (hw _ (List.mem_of_getElem? (i := 74) rfl))) (mvT hZ (hw _ (List.mem_of_getElem? (i := 75) rfl))) (by decide) (backOf (W := 2) (rm10 l Z a0 hw [] wV wI wC wF sI tI sC tC sF tF k_wV k_tI k_tC k_tF zC fm G ab cb 4 v127 p3 hj210 n0 (Nat.le_trans Z0 Kj210.1) Oj210 (⟨t103, kb103, Nb103, vs103, Eb3, Fb3, Gb3, Ub3, cd103, rg103, ln103⟩ : own_Str Z hj210 ab cb) (by decide)) hZ (hw _ (List.mem_of_getElem? (i := 75) rfl)) (hw _ (List.mem_of_getElem? (i := 74) rfl)) (by decide) (by decide)) (g := (mkF m 225 #[.val (.int p0), .val (.int p1), .val (.int p2), .val (.int p3), .val (.int v6), .val (.ref ab), .val (.int v68), .val (.int v73), .val (.int nn), .val (.int v127), .val (.ref b106), .unset, .unset] [(.int p3), (.int v127), (.int (4 : Int32)), (.ref ab), (.int (4 : Int32)), (.ref b106)])) rfl (by rw [hml]; rfl) (argsL := [(.ref ab), (.int (4 : Int32)), (.int v127), (.int p3)]) (rest := [(.int (4 : Int32)), (.ref b106)]) (lenOf pd_7 rfl) rfl (by show 2 * 0 + _ ≤ _; exact Nat.le_of_eq rfl) (hb hby at_225) (fun _ _ => ⟨rfl, ej, (by decide : 3 + 0 ≤ 32), (by decide : 60 + 0 ≤ 5312)⟩)
                  dsimp only [Pt.U, Pt.locs, Pt.cells, Pt.slots] at X184 l184 y184 z184 st184 hQ184
                  subst l184 y184 z184
                  obtain ⟨rfl, N184q, K184⟩ := hQ184
                  have N184 := Fr.app Nj210 N184q
                  have e184 : T184.heap = hj210 := K184
                  refine own_go (B := T184.setTop (mkF m 228 #[.val (.int p0), .val (.int p1), .val (.int p2), .val (.int p3), .val (.int v6), .val (.ref ab), .val (.int v68), .val (.int v73), .val (.int nn), .val (.int v127), .val (.ref b106), .unset, .unset] [(.int (own_at cb 4 v127 p3)), (.int (4 : Int32)), (.ref b106)])) (st184) ?_
                  obtain ⟨cl185, Ar185, q185, Sz185, Nn185, Hh185, Gg185⟩ := id Va3
                  have hin185 : ¬ ((4 : Int32) < 0 ∨ cl185.slots.size ≤ ((4 : Int32)).toNatClampNeg) := inb_of Sz185 (own_inb hc213 (by decide))
                  obtain ⟨T186, h186, X186, e186, W186, st186⟩ := stC X184 hx hZ e184 Ar185 (j := (4 : Int32)) hin185 (g := (mkF m 228 #[.val (.int p0), .val (.int p1), .val (.int p2), .val (.int p3), .val (.int v6), .val (.ref ab), .val (.int v68), .val (.int v73), .val (.int nn), .val (.int v127), .val (.ref b106), .unset, .unset] [(.int (own_at cb 4 v127 p3)), (.int (4 : Int32)), (.ref b106)])) rfl rfl (hb hby at_228)
                  rw [own_nar (c := (own_at cb 4 v127 p3)) (own_at_rg rg103 4 v127 p3)] at W186
                  have V186 := Arv.set Ar185 q185 Sz185 Nn185 Hh185 Gg185 (own_nar (c := (own_at cb 4 v127 p3)) (own_at_rg rg103 4 v127 p3) ▸ fits_nar_char (own_at cb 4 v127 p3)) W186 4 rfl (Nat.le_of_ble_eq_true rfl)
                  have CH186 := CHv.wr W186 (Safe.arv hZ.alike Va3 (by decide)) CHj210
                  have CR186 := CRj210.trans (CHr.wr W186 (Safe.arv hZ.alike Va3 (by decide)) CHj210)
                  have O186 := Oj210.wr W186 g_b106
                  have N186 := Fr.snoc X186 N184 g_b106
                  have K186' : Keep h0 h186 ([] : List Addr) := Kj210.wr W186 (Or.inr sz_b106)
                  replace V186 : Arv Z h186 b106 k106 .char nn [(.int (own_at cb 0 v127 p3)), (.int (own_at cb 1 v127 p3)), (.int (own_at cb 2 v127 p3)), (.int (own_at cb 3 v127 p3)), (.int (own_at cb 4 v127 p3)), (.int (0 : Int32)), (.int (0 : Int32)), (.int (0 : Int32)), (.int (0 : Int32)), (.int (0 : Int32)), (.int (0 : Int32)), (.int (0 : Int32))] (.int (0 : Int32)) := V186
                  refine own_go (B := T186.setTop (mkF m 229 #[.val (.int p0), .val (.int p1), .val (.int p2), .val (.int p3), .val (.int v6), .val (.ref ab), .val (.int v68), .val (.int v73), .val (.int nn), .val (.int v127), .val (.ref b106), .unset, .unset] [])) (st186) ?_
                  exact jn229 h186 T186 _ X186 e186 N186 O186 K186' CH186 CR186 (Nat.le_trans hkj210 (Keep.of_wr W186).1)  V186 (Eb3.wr W186) (Fb3.other W186 (Or.inl ne106_1)) (Gb3.other W186 (Or.inl ne106_1)) (Ub3.other W186 ne106_2)
                · refine own_go (B := Tj.setTop (mkF m 229 #[.val (.int p0), .val (.int p1), .val (.int p2), .val (.int p3), .val (.int v6), .val (.ref ab), .val (.int v68), .val (.int v73), .val (.int nn), .val (.int v127), .val (.ref b106), .unset, .unset] [])) (fun _ k => XS.icmpYes Xj.here hx rfl (pc0 := 213) (pc' := 229) rfl (hb hby at_213) rfl (flt hc213).2.2.2 (by decide) (by decide) k) ?_
                  exact jn229 hj210 Tj _ Xj ej Nj210 Oj210 Kj210 CHj210 CRj210 hkj210  (own_beyond Va3 4 (.int (own_at cb 4 v127 p3)) (own_le (i := (4 : Int32)) hnn.1 hc213 (by decide))) Eb3 Fb3 Gb3 Ub3
              refine own_go (B := Tj.setTop (mkF m 193 #[.val (.int p0), .val (.int p1), .val (.int p2), .val (.int p3), .val (.int v6), .val (.ref ab), .val (.int v68), .val (.int v73), .val (.int nn), .val (.int v127), .val (.ref b106), .unset, .unset] [(.int nn)])) (fun _ k => XS.iload Xj.here hx rfl (hb hby at_191) rfl k) ?_
              refine own_go (B := Tj.setTop (mkF m 194 #[.val (.int p0), .val (.int p1), .val (.int p2), .val (.int p3), .val (.int v6), .val (.ref ab), .val (.int v68), .val (.int v73), .val (.int nn), .val (.int v127), .val (.ref b106), .unset, .unset] [(.int (3 : Int32)), (.int nn)])) (fun _ k => XS.iconst Xj.here hx rfl (hb hby at_193) k) ?_
              by_cases hc194 : (3 : Int32) < nn
              · refine own_go (B := Tj.setTop (mkF m 197 #[.val (.int p0), .val (.int p1), .val (.int p2), .val (.int p3), .val (.int v6), .val (.ref ab), .val (.int v68), .val (.int v73), .val (.int nn), .val (.int v127), .val (.ref b106), .unset, .unset] [])) (fun _ k => XS.icmpNo Xj.here hx rfl (hb hby at_194) rfl (tlt hc194).2.2.2 k) ?_
                refine own_go (B := Tj.setTop (mkF m 199 #[.val (.int p0), .val (.int p1), .val (.int p2), .val (.int p3), .val (.int v6), .val (.ref ab), .val (.int v68), .val (.int v73), .val (.int nn), .val (.int v127), .val (.ref b106), .unset, .unset] [(.ref b106)])) (fun _ k => XS.aload Xj.here hx rfl (hb hby at_197) rfl rfl k) ?_
                refine own_go (B := Tj.setTop (mkF m 200 #[.val (.int p0), .val (.int p1), .val (.int p2), .val (.int p3), .val (.int v6), .val (.ref ab), .val (.int v68), .val (.int v73), .val (.int nn), .val (.int v127), .val (.ref b106), .unset, .unset] [(.int (3 : Int32)), (.ref b106)])) (fun _ k => XS.iconst Xj.here hx rfl (hb hby at_199) k) ?_
                refine own_go (B := Tj.setTop (mkF m 202 #[.val (.int p0), .val (.int p1), .val (.int p2), .val (.int p3), .val (.int v6), .val (.ref ab), .val (.int v68), .val (.int v73), .val (.int nn), .val (.int v127), .val (.ref b106), .unset, .unset] [(.ref ab), (.int (3 : Int32)), (.ref b106)])) (fun _ k => XS.aload Xj.here hx rfl (hb hby at_200) rfl rfl k) ?_
                refine own_go (B := Tj.setTop (mkF m 203 #[.val (.int p0), .val (.int p1), .val (.int p2), .val (.int p3), .val (.int v6), .val (.ref ab), .val (.int v68), .val (.int v73), .val (.int nn), .val (.int v127), .val (.ref b106), .unset, .unset] [(.int (3 : Int32)), (.ref ab), (.int (3 : Int32)), (.ref b106)])) (fun _ k => XS.iconst Xj.here hx rfl (hb hby at_202) k) ?_
                refine own_go (B := Tj.setTop (mkF m 205 #[.val (.int p0), .val (.int p1), .val (.int p2), .val (.int p3), .val (.int v6), .val (.ref ab), .val (.int v68), .val (.int v73), .val (.int nn), .val (.int v127), .val (.ref b106), .unset, .unset] [(.int v127), (.int (3 : Int32)), (.ref ab), (.int (3 : Int32)), (.ref b106)])) (fun _ k => XS.iload Xj.here hx rfl (hb hby at_203) rfl k) ?_
                refine own_go (B := Tj.setTop (mkF m 206 #[.val (.int p0), .val (.int p1), .val (.int p2), .val (.int p3), .val (.int v6), .val (.ref ab), .val (.int v68), .val (.int v73), .val (.int nn), .val (.int v127), .val (.ref b106), .unset, .unset] [(.int p3), (.int v127), (.int (3 : Int32)), (.ref ab), (.int (3 : Int32)), (.ref b106)])) (fun _ k => XS.iloadN Xj.here hx rfl (hb hby at_205) rfl k) ?_
                obtain ⟨_, _, ⟨T187, L187, k187, n187⟩, -, X187, ⟨Lc187, hQ187, l187, y187, z187⟩, st187⟩ := Jvm.LawKit.callS Xj hx (y := (⟨"com/example/void_repeat/voidrepeat/jdbc/RowStateOfPinLaw", "at", "(Ljava/lang/String;III)C"⟩ : MethodName)) hown (mvT hZ (hw _ (List.mem_of_getElem? (i := 72) rfl))) (mvT hZ (hw _ (List.mem_of_getElem? (i := 73) rfl))) (mvT hZ (hw _ (List.mem_of_getElem? (i := 74) rfl))) (mvT hZ (hw _ (List.mem_of_getElem? (i := 75) rfl))) (by decide) (backOf (W := 2) (rm10 l Z a0 hw [] wV wI wC wF sI tI sC tC sF tF k_wV k_tI k_tC k_tF zC fm G ab cb 3 v127 p3 hj191 n0 (Nat.le_trans Z0 Kj191.1) Oj191 (⟨t103, kb103, Nb103, vs103, Eb2, Fb2, Gb2, Ub2, cd103, rg103, ln103⟩ : own_Str Z hj191 ab cb) (by decide)) hZ (hw _ (List.mem_of_getElem? (i := 75) rfl)) (hw _ (List.mem_of_getElem? (i := 74) rfl)) (by decide) (by decide)) (g := (mkF m 206 #[.val (.int p0), .val (.int p1), .val (.int p2), .val (.int p3), .val (.int v6), .val (.ref ab), .val (.int v68), .val (.int v73), .val (.int nn), .val (.int v127), .val (.ref b106), .unset, .unset] [(.int p3), (.int v127), (.int (3 : Int32)), (.ref ab), (.int (3 : Int32)), (.ref b106)])) rfl (by rw [hml]; rfl) (argsL := [(.ref ab), (.int (3 : Int32)), (.int v127), (.int p3)]) (rest := [(.int (3 : Int32)), (.ref b106)]) (lenOf pd_7 rfl) rfl (by show 2 * 0 + _ ≤ _; exact Nat.le_of_eq rfl) (hb hby at_206) (fun _ _ => ⟨rfl, ej, (by decide : 3 + 0 ≤ 32), (by decide : 60 + 0 ≤ 5312)⟩)
                dsimp only [Pt.U, Pt.locs, Pt.cells, Pt.slots] at X187 l187 y187 z187 st187 hQ187
                subst l187 y187 z187
                obtain ⟨rfl, N187q, K187⟩ := hQ187
                have N187 := Fr.app Nj191 N187q
                have e187 : T187.heap = hj191 := K187
                refine own_go (B := T187.setTop (mkF m 209 #[.val (.int p0), .val (.int p1), .val (.int p2), .val (.int p3), .val (.int v6), .val (.ref ab), .val (.int v68), .val (.int v73), .val (.int nn), .val (.int v127), .val (.ref b106), .unset, .unset] [(.int (own_at cb 3 v127 p3)), (.int (3 : Int32)), (.ref b106)])) (st187) ?_
                obtain ⟨cl188, Ar188, q188, Sz188, Nn188, Hh188, Gg188⟩ := id Va2
                have hin188 : ¬ ((3 : Int32) < 0 ∨ cl188.slots.size ≤ ((3 : Int32)).toNatClampNeg) := inb_of Sz188 (own_inb hc194 (by decide))
                obtain ⟨T189, h189, X189, e189, W189, st189⟩ := stC X187 hx hZ e187 Ar188 (j := (3 : Int32)) hin188 (g := (mkF m 209 #[.val (.int p0), .val (.int p1), .val (.int p2), .val (.int p3), .val (.int v6), .val (.ref ab), .val (.int v68), .val (.int v73), .val (.int nn), .val (.int v127), .val (.ref b106), .unset, .unset] [(.int (own_at cb 3 v127 p3)), (.int (3 : Int32)), (.ref b106)])) rfl rfl (hb hby at_209)
                rw [own_nar (c := (own_at cb 3 v127 p3)) (own_at_rg rg103 3 v127 p3)] at W189
                have V189 := Arv.set Ar188 q188 Sz188 Nn188 Hh188 Gg188 (own_nar (c := (own_at cb 3 v127 p3)) (own_at_rg rg103 3 v127 p3) ▸ fits_nar_char (own_at cb 3 v127 p3)) W189 3 rfl (Nat.le_of_ble_eq_true rfl)
                have CH189 := CHv.wr W189 (Safe.arv hZ.alike Va2 (by decide)) CHj191
                have CR189 := CRj191.trans (CHr.wr W189 (Safe.arv hZ.alike Va2 (by decide)) CHj191)
                have O189 := Oj191.wr W189 g_b106
                have N189 := Fr.snoc X189 N187 g_b106
                have K189' : Keep h0 h189 ([] : List Addr) := Kj191.wr W189 (Or.inr sz_b106)
                replace V189 : Arv Z h189 b106 k106 .char nn [(.int (own_at cb 0 v127 p3)), (.int (own_at cb 1 v127 p3)), (.int (own_at cb 2 v127 p3)), (.int (own_at cb 3 v127 p3)), (.int (0 : Int32)), (.int (0 : Int32)), (.int (0 : Int32)), (.int (0 : Int32)), (.int (0 : Int32)), (.int (0 : Int32)), (.int (0 : Int32)), (.int (0 : Int32))] (.int (0 : Int32)) := V189
                refine own_go (B := T189.setTop (mkF m 210 #[.val (.int p0), .val (.int p1), .val (.int p2), .val (.int p3), .val (.int v6), .val (.ref ab), .val (.int v68), .val (.int v73), .val (.int nn), .val (.int v127), .val (.ref b106), .unset, .unset] [])) (st189) ?_
                exact jn210 h189 T189 _ X189 e189 N189 O189 K189' CH189 CR189 (Nat.le_trans hkj191 (Keep.of_wr W189).1)  V189 (Eb2.wr W189) (Fb2.other W189 (Or.inl ne106_1)) (Gb2.other W189 (Or.inl ne106_1)) (Ub2.other W189 ne106_2)
              · refine own_go (B := Tj.setTop (mkF m 210 #[.val (.int p0), .val (.int p1), .val (.int p2), .val (.int p3), .val (.int v6), .val (.ref ab), .val (.int v68), .val (.int v73), .val (.int nn), .val (.int v127), .val (.ref b106), .unset, .unset] [])) (fun _ k => XS.icmpYes Xj.here hx rfl (pc0 := 194) (pc' := 210) rfl (hb hby at_194) rfl (flt hc194).2.2.2 (by decide) (by decide) k) ?_
                exact jn210 hj191 Tj _ Xj ej Nj191 Oj191 Kj191 CHj191 CRj191 hkj191  (own_beyond Va2 3 (.int (own_at cb 3 v127 p3)) (own_le (i := (3 : Int32)) hnn.1 hc194 (by decide))) Eb2 Fb2 Gb2 Ub2
            refine own_go (B := Tj.setTop (mkF m 174 #[.val (.int p0), .val (.int p1), .val (.int p2), .val (.int p3), .val (.int v6), .val (.ref ab), .val (.int v68), .val (.int v73), .val (.int nn), .val (.int v127), .val (.ref b106), .unset, .unset] [(.int nn)])) (fun _ k => XS.iload Xj.here hx rfl (hb hby at_172) rfl k) ?_
            refine own_go (B := Tj.setTop (mkF m 175 #[.val (.int p0), .val (.int p1), .val (.int p2), .val (.int p3), .val (.int v6), .val (.ref ab), .val (.int v68), .val (.int v73), .val (.int nn), .val (.int v127), .val (.ref b106), .unset, .unset] [(.int (2 : Int32)), (.int nn)])) (fun _ k => XS.iconst Xj.here hx rfl (hb hby at_174) k) ?_
            by_cases hc175 : (2 : Int32) < nn
            · refine own_go (B := Tj.setTop (mkF m 178 #[.val (.int p0), .val (.int p1), .val (.int p2), .val (.int p3), .val (.int v6), .val (.ref ab), .val (.int v68), .val (.int v73), .val (.int nn), .val (.int v127), .val (.ref b106), .unset, .unset] [])) (fun _ k => XS.icmpNo Xj.here hx rfl (hb hby at_175) rfl (tlt hc175).2.2.2 k) ?_
              refine own_go (B := Tj.setTop (mkF m 180 #[.val (.int p0), .val (.int p1), .val (.int p2), .val (.int p3), .val (.int v6), .val (.ref ab), .val (.int v68), .val (.int v73), .val (.int nn), .val (.int v127), .val (.ref b106), .unset, .unset] [(.ref b106)])) (fun _ k => XS.aload Xj.here hx rfl (hb hby at_178) rfl rfl k) ?_
              refine own_go (B := Tj.setTop (mkF m 181 #[.val (.int p0), .val (.int p1), .val (.int p2), .val (.int p3), .val (.int v6), .val (.ref ab), .val (.int v68), .val (.int v73), .val (.int nn), .val (.int v127), .val (.ref b106), .unset, .unset] [(.int (2 : Int32)), (.ref b106)])) (fun _ k => XS.iconst Xj.here hx rfl (hb hby at_180) k) ?_
              refine own_go (B := Tj.setTop (mkF m 183 #[.val (.int p0), .val (.int p1), .val (.int p2), .val (.int p3), .val (.int v6), .val (.ref ab), .val (.int v68), .val (.int v73), .val (.int nn), .val (.int v127), .val (.ref b106), .unset, .unset] [(.ref ab), (.int (2 : Int32)), (.ref b106)])) (fun _ k => XS.aload Xj.here hx rfl (hb hby at_181) rfl rfl k) ?_
              refine own_go (B := Tj.setTop (mkF m 184 #[.val (.int p0), .val (.int p1), .val (.int p2), .val (.int p3), .val (.int v6), .val (.ref ab), .val (.int v68), .val (.int v73), .val (.int nn), .val (.int v127), .val (.ref b106), .unset, .unset] [(.int (2 : Int32)), (.ref ab), (.int (2 : Int32)), (.ref b106)])) (fun _ k => XS.iconst Xj.here hx rfl (hb hby at_183) k) ?_
              refine own_go (B := Tj.setTop (mkF m 186 #[.val (.int p0), .val (.int p1), .val (.int p2), .val (.int p3), .val (.int v6), .val (.ref ab), .val (.int v68), .val (.int v73), .val (.int nn), .val (.int v127), .val (.ref b106), .unset, .unset] [(.int v127), (.int (2 : Int32)), (.ref ab), (.int (2 : Int32)), (.ref b106)])) (fun _ k => XS.iload Xj.here hx rfl (hb hby at_184) rfl k) ?_
              refine own_go (B := Tj.setTop (mkF m 187 #[.val (.int p0), .val (.int p1), .val (.int p2), .val (.int p3), .val (.int v6), .val (.ref ab), .val (.int v68), .val (.int v73), .val (.int nn), .val (.int v127), .val (.ref b106), .unset, .unset] [(.int p3), (.int v127), (.int (2 : Int32)), (.ref ab), (.int (2 : Int32)), (.ref b106)])) (fun _ k => XS.iloadN Xj.here hx rfl (hb hby at_186) rfl k) ?_
              obtain ⟨_, _, ⟨T190, L190, k190, n190⟩, -, X190, ⟨Lc190, hQ190, l190, y190, z190⟩, st190⟩ := Jvm.LawKit.callS Xj hx (y := (⟨"com/example/void_repeat/voidrepeat/jdbc/RowStateOfPinLaw", "at", "(Ljava/lang/String;III)C"⟩ : MethodName)) hown (mvT hZ (hw _ (List.mem_of_getElem? (i := 72) rfl))) (mvT hZ (hw _ (List.mem_of_getElem? (i := 73) rfl))) (mvT hZ (hw _ (List.mem_of_getElem? (i := 74) rfl))) (mvT hZ (hw _ (List.mem_of_getElem? (i := 75) rfl))) (by decide) (backOf (W := 2) (rm10 l Z a0 hw [] wV wI wC wF sI tI sC tC sF tF k_wV k_tI k_tC k_tF zC fm G ab cb 2 v127 p3 hj172 n0 (Nat.le_trans Z0 Kj172.1) Oj172 (⟨t103, kb103, Nb103, vs103, Eb1, Fb1, Gb1, Ub1, cd103, rg103, ln103⟩ : own_Str Z hj172 ab cb) (by decide)) hZ (hw _ (List.mem_of_getElem? (i := 75) rfl)) (hw _ (List.mem_of_getElem? (i := 74) rfl)) (by decide) (by decide)) (g := (mkF m 187 #[.val (.int p0), .val (.int p1), .val (.int p2), .val (.int p3), .val (.int v6), .val (.ref ab), .val (.int v68), .val (.int v73), .val (.int nn), .val (.int v127), .val (.ref b106), .unset, .unset] [(.int p3), (.int v127), (.int (2 : Int32)), (.ref ab), (.int (2 : Int32)), (.ref b106)])) rfl (by rw [hml]; rfl) (argsL := [(.ref ab), (.int (2 : Int32)), (.int v127), (.int p3)]) (rest := [(.int (2 : Int32)), (.ref b106)]) (lenOf pd_7 rfl) rfl (by show 2 * 0 + _ ≤ _; exact Nat.le_of_eq rfl) (hb hby at_187) (fun _ _ => ⟨rfl, ej, (by decide : 3 + 0 ≤ 32), (by decide : 60 + 0 ≤ 5312)⟩)
              dsimp only [Pt.U, Pt.locs, Pt.cells, Pt.slots] at X190 l190 y190 z190 st190 hQ190
              subst l190 y190 z190
              obtain ⟨rfl, N190q, K190⟩ := hQ190
              have N190 := Fr.app Nj172 N190q
              have e190 : T190.heap = hj172 := K190
              refine own_go (B := T190.setTop (mkF m 190 #[.val (.int p0), .val (.int p1), .val (.int p2), .val (.int p3), .val (.int v6), .val (.ref ab), .val (.int v68), .val (.int v73), .val (.int nn), .val (.int v127), .val (.ref b106), .unset, .unset] [(.int (own_at cb 2 v127 p3)), (.int (2 : Int32)), (.ref b106)])) (st190) ?_
              obtain ⟨cl191, Ar191, q191, Sz191, Nn191, Hh191, Gg191⟩ := id Va1
              have hin191 : ¬ ((2 : Int32) < 0 ∨ cl191.slots.size ≤ ((2 : Int32)).toNatClampNeg) := inb_of Sz191 (own_inb hc175 (by decide))
              obtain ⟨T192, h192, X192, e192, W192, st192⟩ := stC X190 hx hZ e190 Ar191 (j := (2 : Int32)) hin191 (g := (mkF m 190 #[.val (.int p0), .val (.int p1), .val (.int p2), .val (.int p3), .val (.int v6), .val (.ref ab), .val (.int v68), .val (.int v73), .val (.int nn), .val (.int v127), .val (.ref b106), .unset, .unset] [(.int (own_at cb 2 v127 p3)), (.int (2 : Int32)), (.ref b106)])) rfl rfl (hb hby at_190)
              rw [own_nar (c := (own_at cb 2 v127 p3)) (own_at_rg rg103 2 v127 p3)] at W192
              have V192 := Arv.set Ar191 q191 Sz191 Nn191 Hh191 Gg191 (own_nar (c := (own_at cb 2 v127 p3)) (own_at_rg rg103 2 v127 p3) ▸ fits_nar_char (own_at cb 2 v127 p3)) W192 2 rfl (Nat.le_of_ble_eq_true rfl)
              have CH192 := CHv.wr W192 (Safe.arv hZ.alike Va1 (by decide)) CHj172
              have CR192 := CRj172.trans (CHr.wr W192 (Safe.arv hZ.alike Va1 (by decide)) CHj172)
              have O192 := Oj172.wr W192 g_b106
              have N192 := Fr.snoc X192 N190 g_b106
              have K192' : Keep h0 h192 ([] : List Addr) := Kj172.wr W192 (Or.inr sz_b106)
              replace V192 : Arv Z h192 b106 k106 .char nn [(.int (own_at cb 0 v127 p3)), (.int (own_at cb 1 v127 p3)), (.int (own_at cb 2 v127 p3)), (.int (0 : Int32)), (.int (0 : Int32)), (.int (0 : Int32)), (.int (0 : Int32)), (.int (0 : Int32)), (.int (0 : Int32)), (.int (0 : Int32)), (.int (0 : Int32)), (.int (0 : Int32))] (.int (0 : Int32)) := V192
              refine own_go (B := T192.setTop (mkF m 191 #[.val (.int p0), .val (.int p1), .val (.int p2), .val (.int p3), .val (.int v6), .val (.ref ab), .val (.int v68), .val (.int v73), .val (.int nn), .val (.int v127), .val (.ref b106), .unset, .unset] [])) (st192) ?_
              exact jn191 h192 T192 _ X192 e192 N192 O192 K192' CH192 CR192 (Nat.le_trans hkj172 (Keep.of_wr W192).1)  V192 (Eb1.wr W192) (Fb1.other W192 (Or.inl ne106_1)) (Gb1.other W192 (Or.inl ne106_1)) (Ub1.other W192 ne106_2)
            · refine own_go (B := Tj.setTop (mkF m 191 #[.val (.int p0), .val (.int p1), .val (.int p2), .val (.int p3), .val (.int v6), .val (.ref ab), .val (.int v68), .val (.int v73), .val (.int nn), .val (.int v127), .val (.ref b106), .unset, .unset] [])) (fun _ k => XS.icmpYes Xj.here hx rfl (pc0 := 175) (pc' := 191) rfl (hb hby at_175) rfl (flt hc175).2.2.2 (by decide) (by decide) k) ?_
              exact jn191 hj172 Tj _ Xj ej Nj172 Oj172 Kj172 CHj172 CRj172 hkj172  (own_beyond Va1 2 (.int (own_at cb 2 v127 p3)) (own_le (i := (2 : Int32)) hnn.1 hc175 (by decide))) Eb1 Fb1 Gb1 Ub1
          refine own_go (B := Tj.setTop (mkF m 155 #[.val (.int p0), .val (.int p1), .val (.int p2), .val (.int p3), .val (.int v6), .val (.ref ab), .val (.int v68), .val (.int v73), .val (.int nn), .val (.int v127), .val (.ref b106), .unset, .unset] [(.int nn)])) (fun _ k => XS.iload Xj.here hx rfl (hb hby at_153) rfl k) ?_
          refine own_go (B := Tj.setTop (mkF m 156 #[.val (.int p0), .val (.int p1), .val (.int p2), .val (.int p3), .val (.int v6), .val (.ref ab), .val (.int v68), .val (.int v73), .val (.int nn), .val (.int v127), .val (.ref b106), .unset, .unset] [(.int (1 : Int32)), (.int nn)])) (fun _ k => XS.iconst Xj.here hx rfl (hb hby at_155) k) ?_
          by_cases hc156 : (1 : Int32) < nn
          · refine own_go (B := Tj.setTop (mkF m 159 #[.val (.int p0), .val (.int p1), .val (.int p2), .val (.int p3), .val (.int v6), .val (.ref ab), .val (.int v68), .val (.int v73), .val (.int nn), .val (.int v127), .val (.ref b106), .unset, .unset] [])) (fun _ k => XS.icmpNo Xj.here hx rfl (hb hby at_156) rfl (tlt hc156).2.2.2 k) ?_
            refine own_go (B := Tj.setTop (mkF m 161 #[.val (.int p0), .val (.int p1), .val (.int p2), .val (.int p3), .val (.int v6), .val (.ref ab), .val (.int v68), .val (.int v73), .val (.int nn), .val (.int v127), .val (.ref b106), .unset, .unset] [(.ref b106)])) (fun _ k => XS.aload Xj.here hx rfl (hb hby at_159) rfl rfl k) ?_
            refine own_go (B := Tj.setTop (mkF m 162 #[.val (.int p0), .val (.int p1), .val (.int p2), .val (.int p3), .val (.int v6), .val (.ref ab), .val (.int v68), .val (.int v73), .val (.int nn), .val (.int v127), .val (.ref b106), .unset, .unset] [(.int (1 : Int32)), (.ref b106)])) (fun _ k => XS.iconst Xj.here hx rfl (hb hby at_161) k) ?_
            refine own_go (B := Tj.setTop (mkF m 164 #[.val (.int p0), .val (.int p1), .val (.int p2), .val (.int p3), .val (.int v6), .val (.ref ab), .val (.int v68), .val (.int v73), .val (.int nn), .val (.int v127), .val (.ref b106), .unset, .unset] [(.ref ab), (.int (1 : Int32)), (.ref b106)])) (fun _ k => XS.aload Xj.here hx rfl (hb hby at_162) rfl rfl k) ?_
            refine own_go (B := Tj.setTop (mkF m 165 #[.val (.int p0), .val (.int p1), .val (.int p2), .val (.int p3), .val (.int v6), .val (.ref ab), .val (.int v68), .val (.int v73), .val (.int nn), .val (.int v127), .val (.ref b106), .unset, .unset] [(.int (1 : Int32)), (.ref ab), (.int (1 : Int32)), (.ref b106)])) (fun _ k => XS.iconst Xj.here hx rfl (hb hby at_164) k) ?_
            refine own_go (B := Tj.setTop (mkF m 167 #[.val (.int p0), .val (.int p1), .val (.int p2), .val (.int p3), .val (.int v6), .val (.ref ab), .val (.int v68), .val (.int v73), .val (.int nn), .val (.int v127), .val (.ref b106), .unset, .unset] [(.int v127), (.int (1 : Int32)), (.ref ab), (.int (1 : Int32)), (.ref b106)])) (fun _ k => XS.iload Xj.here hx rfl (hb hby at_165) rfl k) ?_
            refine own_go (B := Tj.setTop (mkF m 168 #[.val (.int p0), .val (.int p1), .val (.int p2), .val (.int p3), .val (.int v6), .val (.ref ab), .val (.int v68), .val (.int v73), .val (.int nn), .val (.int v127), .val (.ref b106), .unset, .unset] [(.int p3), (.int v127), (.int (1 : Int32)), (.ref ab), (.int (1 : Int32)), (.ref b106)])) (fun _ k => XS.iloadN Xj.here hx rfl (hb hby at_167) rfl k) ?_
            obtain ⟨_, _, ⟨T193, L193, k193, n193⟩, -, X193, ⟨Lc193, hQ193, l193, y193, z193⟩, st193⟩ := Jvm.LawKit.callS Xj hx (y := (⟨"com/example/void_repeat/voidrepeat/jdbc/RowStateOfPinLaw", "at", "(Ljava/lang/String;III)C"⟩ : MethodName)) hown (mvT hZ (hw _ (List.mem_of_getElem? (i := 72) rfl))) (mvT hZ (hw _ (List.mem_of_getElem? (i := 73) rfl))) (mvT hZ (hw _ (List.mem_of_getElem? (i := 74) rfl))) (mvT hZ (hw _ (List.mem_of_getElem? (i := 75) rfl))) (by decide) (backOf (W := 2) (rm10 l Z a0 hw [] wV wI wC wF sI tI sC tC sF tF k_wV k_tI k_tC k_tF zC fm G ab cb 1 v127 p3 hj153 n0 (Nat.le_trans Z0 Kj153.1) Oj153 (⟨t103, kb103, Nb103, vs103, Eb0, Fb0, Gb0, Ub0, cd103, rg103, ln103⟩ : own_Str Z hj153 ab cb) (by decide)) hZ (hw _ (List.mem_of_getElem? (i := 75) rfl)) (hw _ (List.mem_of_getElem? (i := 74) rfl)) (by decide) (by decide)) (g := (mkF m 168 #[.val (.int p0), .val (.int p1), .val (.int p2), .val (.int p3), .val (.int v6), .val (.ref ab), .val (.int v68), .val (.int v73), .val (.int nn), .val (.int v127), .val (.ref b106), .unset, .unset] [(.int p3), (.int v127), (.int (1 : Int32)), (.ref ab), (.int (1 : Int32)), (.ref b106)])) rfl (by rw [hml]; rfl) (argsL := [(.ref ab), (.int (1 : Int32)), (.int v127), (.int p3)]) (rest := [(.int (1 : Int32)), (.ref b106)]) (lenOf pd_7 rfl) rfl (by show 2 * 0 + _ ≤ _; exact Nat.le_of_eq rfl) (hb hby at_168) (fun _ _ => ⟨rfl, ej, (by decide : 3 + 0 ≤ 32), (by decide : 60 + 0 ≤ 5312)⟩)
            dsimp only [Pt.U, Pt.locs, Pt.cells, Pt.slots] at X193 l193 y193 z193 st193 hQ193
            subst l193 y193 z193
            obtain ⟨rfl, N193q, K193⟩ := hQ193
            have N193 := Fr.app Nj153 N193q
            have e193 : T193.heap = hj153 := K193
            refine own_go (B := T193.setTop (mkF m 171 #[.val (.int p0), .val (.int p1), .val (.int p2), .val (.int p3), .val (.int v6), .val (.ref ab), .val (.int v68), .val (.int v73), .val (.int nn), .val (.int v127), .val (.ref b106), .unset, .unset] [(.int (own_at cb 1 v127 p3)), (.int (1 : Int32)), (.ref b106)])) (st193) ?_
            obtain ⟨cl194, Ar194, q194, Sz194, Nn194, Hh194, Gg194⟩ := id Va0
            have hin194 : ¬ ((1 : Int32) < 0 ∨ cl194.slots.size ≤ ((1 : Int32)).toNatClampNeg) := inb_of Sz194 (own_inb hc156 (by decide))
            obtain ⟨T195, h195, X195, e195, W195, st195⟩ := stC X193 hx hZ e193 Ar194 (j := (1 : Int32)) hin194 (g := (mkF m 171 #[.val (.int p0), .val (.int p1), .val (.int p2), .val (.int p3), .val (.int v6), .val (.ref ab), .val (.int v68), .val (.int v73), .val (.int nn), .val (.int v127), .val (.ref b106), .unset, .unset] [(.int (own_at cb 1 v127 p3)), (.int (1 : Int32)), (.ref b106)])) rfl rfl (hb hby at_171)
            rw [own_nar (c := (own_at cb 1 v127 p3)) (own_at_rg rg103 1 v127 p3)] at W195
            have V195 := Arv.set Ar194 q194 Sz194 Nn194 Hh194 Gg194 (own_nar (c := (own_at cb 1 v127 p3)) (own_at_rg rg103 1 v127 p3) ▸ fits_nar_char (own_at cb 1 v127 p3)) W195 1 rfl (Nat.le_of_ble_eq_true rfl)
            have CH195 := CHv.wr W195 (Safe.arv hZ.alike Va0 (by decide)) CHj153
            have CR195 := CRj153.trans (CHr.wr W195 (Safe.arv hZ.alike Va0 (by decide)) CHj153)
            have O195 := Oj153.wr W195 g_b106
            have N195 := Fr.snoc X195 N193 g_b106
            have K195' : Keep h0 h195 ([] : List Addr) := Kj153.wr W195 (Or.inr sz_b106)
            replace V195 : Arv Z h195 b106 k106 .char nn [(.int (own_at cb 0 v127 p3)), (.int (own_at cb 1 v127 p3)), (.int (0 : Int32)), (.int (0 : Int32)), (.int (0 : Int32)), (.int (0 : Int32)), (.int (0 : Int32)), (.int (0 : Int32)), (.int (0 : Int32)), (.int (0 : Int32)), (.int (0 : Int32)), (.int (0 : Int32))] (.int (0 : Int32)) := V195
            refine own_go (B := T195.setTop (mkF m 172 #[.val (.int p0), .val (.int p1), .val (.int p2), .val (.int p3), .val (.int v6), .val (.ref ab), .val (.int v68), .val (.int v73), .val (.int nn), .val (.int v127), .val (.ref b106), .unset, .unset] [])) (st195) ?_
            exact jn172 h195 T195 _ X195 e195 N195 O195 K195' CH195 CR195 (Nat.le_trans hkj153 (Keep.of_wr W195).1)  V195 (Eb0.wr W195) (Fb0.other W195 (Or.inl ne106_1)) (Gb0.other W195 (Or.inl ne106_1)) (Ub0.other W195 ne106_2)
          · refine own_go (B := Tj.setTop (mkF m 172 #[.val (.int p0), .val (.int p1), .val (.int p2), .val (.int p3), .val (.int v6), .val (.ref ab), .val (.int v68), .val (.int v73), .val (.int nn), .val (.int v127), .val (.ref b106), .unset, .unset] [])) (fun _ k => XS.icmpYes Xj.here hx rfl (pc0 := 156) (pc' := 172) rfl (hb hby at_156) rfl (flt hc156).2.2.2 (by decide) (by decide) k) ?_
            exact jn172 hj153 Tj _ Xj ej Nj153 Oj153 Kj153 CHj153 CRj153 hkj153  (own_beyond Va0 1 (.int (own_at cb 1 v127 p3)) (own_le (i := (1 : Int32)) hnn.1 hc156 (by decide))) Eb0 Fb0 Gb0 Ub0
        refine own_go (B := T106.setTop (mkF m 137 #[.val (.int p0), .val (.int p1), .val (.int p2), .val (.int p3), .val (.int v6), .val (.ref ab), .val (.int v68), .val (.int v73), .val (.int nn), .val (.int v127), .val (.ref b106), .unset, .unset] [(.int nn)])) (fun _ k => XS.iload X106.here hx rfl (hb hby at_135) rfl k) ?_
        by_cases hc137 : (0 : Int32) < nn
        · refine own_go (B := T106.setTop (mkF m 140 #[.val (.int p0), .val (.int p1), .val (.int p2), .val (.int p3), .val (.int v6), .val (.ref ab), .val (.int v68), .val (.int v73), .val (.int nn), .val (.int v127), .val (.ref b106), .unset, .unset] [])) (fun _ k => XS.ifNo X106.here hx rfl (hb hby at_137) rfl ((if0 _ _).trans (tlt hc137).2.2.2) k) ?_
          refine own_go (B := T106.setTop (mkF m 142 #[.val (.int p0), .val (.int p1), .val (.int p2), .val (.int p3), .val (.int v6), .val (.ref ab), .val (.int v68), .val (.int v73), .val (.int nn), .val (.int v127), .val (.ref b106), .unset, .unset] [(.ref b106)])) (fun _ k => XS.aload X106.here hx rfl (hb hby at_140) rfl rfl k) ?_
          refine own_go (B := T106.setTop (mkF m 143 #[.val (.int p0), .val (.int p1), .val (.int p2), .val (.int p3), .val (.int v6), .val (.ref ab), .val (.int v68), .val (.int v73), .val (.int nn), .val (.int v127), .val (.ref b106), .unset, .unset] [(.int (0 : Int32)), (.ref b106)])) (fun _ k => XS.iconst X106.here hx rfl (hb hby at_142) k) ?_
          refine own_go (B := T106.setTop (mkF m 145 #[.val (.int p0), .val (.int p1), .val (.int p2), .val (.int p3), .val (.int v6), .val (.ref ab), .val (.int v68), .val (.int v73), .val (.int nn), .val (.int v127), .val (.ref b106), .unset, .unset] [(.ref ab), (.int (0 : Int32)), (.ref b106)])) (fun _ k => XS.aload X106.here hx rfl (hb hby at_143) rfl rfl k) ?_
          refine own_go (B := T106.setTop (mkF m 146 #[.val (.int p0), .val (.int p1), .val (.int p2), .val (.int p3), .val (.int v6), .val (.ref ab), .val (.int v68), .val (.int v73), .val (.int nn), .val (.int v127), .val (.ref b106), .unset, .unset] [(.int (0 : Int32)), (.ref ab), (.int (0 : Int32)), (.ref b106)])) (fun _ k => XS.iconst X106.here hx rfl (hb hby at_145) k) ?_
          refine own_go (B := T106.setTop (mkF m 148 #[.val (.int p0), .val (.int p1), .val (.int p2), .val (.int p3), .val (.int v6), .val (.ref ab), .val (.int v68), .val (.int v73), .val (.int nn), .val (.int v127), .val (.ref b106), .unset, .unset] [(.int v127), (.int (0 : Int32)), (.ref ab), (.int (0 : Int32)), (.ref b106)])) (fun _ k => XS.iload X106.here hx rfl (hb hby at_146) rfl k) ?_
          refine own_go (B := T106.setTop (mkF m 149 #[.val (.int p0), .val (.int p1), .val (.int p2), .val (.int p3), .val (.int v6), .val (.ref ab), .val (.int v68), .val (.int v73), .val (.int nn), .val (.int v127), .val (.ref b106), .unset, .unset] [(.int p3), (.int v127), (.int (0 : Int32)), (.ref ab), (.int (0 : Int32)), (.ref b106)])) (fun _ k => XS.iloadN X106.here hx rfl (hb hby at_148) rfl k) ?_
          obtain ⟨_, _, ⟨T196, L196, k196, n196⟩, -, X196, ⟨Lc196, hQ196, l196, y196, z196⟩, st196⟩ := Jvm.LawKit.callS X106 hx (y := (⟨"com/example/void_repeat/voidrepeat/jdbc/RowStateOfPinLaw", "at", "(Ljava/lang/String;III)C"⟩ : MethodName)) hown (mvT hZ (hw _ (List.mem_of_getElem? (i := 72) rfl))) (mvT hZ (hw _ (List.mem_of_getElem? (i := 73) rfl))) (mvT hZ (hw _ (List.mem_of_getElem? (i := 74) rfl))) (mvT hZ (hw _ (List.mem_of_getElem? (i := 75) rfl))) (by decide) (backOf (W := 2) (rm10 l Z a0 hw [] wV wI wC wF sI tI sC tC sF tF k_wV k_tI k_tC k_tF zC fm G ab cb 0 v127 p3 h106 n0 (Nat.le_trans Z0 K106'.1) O106 (⟨t103, kb103, Nb103, vs103, (Es103.ext E106), (Fv103.ext E106), (Fc103.ext E106), (Vb103.ext E106), cd103, rg103, ln103⟩ : own_Str Z h106 ab cb) (by decide)) hZ (hw _ (List.mem_of_getElem? (i := 75) rfl)) (hw _ (List.mem_of_getElem? (i := 74) rfl)) (by decide) (by decide)) (g := (mkF m 149 #[.val (.int p0), .val (.int p1), .val (.int p2), .val (.int p3), .val (.int v6), .val (.ref ab), .val (.int v68), .val (.int v73), .val (.int nn), .val (.int v127), .val (.ref b106), .unset, .unset] [(.int p3), (.int v127), (.int (0 : Int32)), (.ref ab), (.int (0 : Int32)), (.ref b106)])) rfl (by rw [hml]; rfl) (argsL := [(.ref ab), (.int (0 : Int32)), (.int v127), (.int p3)]) (rest := [(.int (0 : Int32)), (.ref b106)]) (lenOf pd_7 rfl) rfl (by show 2 * 0 + _ ≤ _; exact Nat.le_of_eq rfl) (hb hby at_149) (fun _ _ => ⟨rfl, e106, (by decide : 3 + 0 ≤ 32), (by decide : 60 + 0 ≤ 5312)⟩)
          dsimp only [Pt.U, Pt.locs, Pt.cells, Pt.slots] at X196 l196 y196 z196 st196 hQ196
          subst l196 y196 z196
          obtain ⟨rfl, N196q, K196⟩ := hQ196
          have N196 := Fr.app Nj121 N196q
          have e196 : T196.heap = h106 := K196
          refine own_go (B := T196.setTop (mkF m 152 #[.val (.int p0), .val (.int p1), .val (.int p2), .val (.int p3), .val (.int v6), .val (.ref ab), .val (.int v68), .val (.int v73), .val (.int nn), .val (.int v127), .val (.ref b106), .unset, .unset] [(.int (own_at cb 0 v127 p3)), (.int (0 : Int32)), (.ref b106)])) (st196) ?_
          obtain ⟨cl197, Ar197, q197, Sz197, Nn197, Hh197, Gg197⟩ := id V12
          have hin197 : ¬ ((0 : Int32) < 0 ∨ cl197.slots.size ≤ ((0 : Int32)).toNatClampNeg) := inb_of Sz197 (own_inb hc137 (by decide))
          obtain ⟨T198, h198, X198, e198, W198, st198⟩ := stC X196 hx hZ e196 Ar197 (j := (0 : Int32)) hin197 (g := (mkF m 152 #[.val (.int p0), .val (.int p1), .val (.int p2), .val (.int p3), .val (.int v6), .val (.ref ab), .val (.int v68), .val (.int v73), .val (.int nn), .val (.int v127), .val (.ref b106), .unset, .unset] [(.int (own_at cb 0 v127 p3)), (.int (0 : Int32)), (.ref b106)])) rfl rfl (hb hby at_152)
          rw [own_nar (c := (own_at cb 0 v127 p3)) (own_at_rg rg103 0 v127 p3)] at W198
          have V198 := Arv.set Ar197 q197 Sz197 Nn197 Hh197 Gg197 (own_nar (c := (own_at cb 0 v127 p3)) (own_at_rg rg103 0 v127 p3) ▸ fits_nar_char (own_at cb 0 v127 p3)) W198 0 rfl (Nat.le_of_ble_eq_true rfl)
          have CH198 := CHv.wr W198 Sf_b106 CH106
          have CR198 := CR106.trans (CHr.wr W198 Sf_b106 CH106)
          have O198 := O106.wr W198 g_b106
          have N198 := Fr.snoc X198 N196 g_b106
          have K198' : Keep h0 h198 ([] : List Addr) := K106'.wr W198 (Or.inr sz_b106)
          replace V198 : Arv Z h198 b106 k106 .char nn [(.int (own_at cb 0 v127 p3)), (.int (0 : Int32)), (.int (0 : Int32)), (.int (0 : Int32)), (.int (0 : Int32)), (.int (0 : Int32)), (.int (0 : Int32)), (.int (0 : Int32)), (.int (0 : Int32)), (.int (0 : Int32)), (.int (0 : Int32)), (.int (0 : Int32))] (.int (0 : Int32)) := V198
          refine own_go (B := T198.setTop (mkF m 153 #[.val (.int p0), .val (.int p1), .val (.int p2), .val (.int p3), .val (.int v6), .val (.ref ab), .val (.int v68), .val (.int v73), .val (.int nn), .val (.int v127), .val (.ref b106), .unset, .unset] [])) (st198) ?_
          exact jn153 h198 T198 _ X198 e198 N198 O198 K198' CH198 CR198 (Nat.le_trans (Nat.le_trans hkj61 E106.1) (Keep.of_wr W198).1)  V198 ((Es103.ext E106).wr W198) ((Fv103.ext E106).other W198 (Or.inl ne106_1)) ((Fc103.ext E106).other W198 (Or.inl ne106_1)) ((Vb103.ext E106).other W198 ne106_2)
        · refine own_go (B := T106.setTop (mkF m 153 #[.val (.int p0), .val (.int p1), .val (.int p2), .val (.int p3), .val (.int v6), .val (.ref ab), .val (.int v68), .val (.int v73), .val (.int nn), .val (.int v127), .val (.ref b106), .unset, .unset] [])) (fun _ k => XS.ifYes X106.here hx rfl (pc0 := 137) (pc' := 153) rfl (hb hby at_137) rfl ((if0 _ _).trans (flt hc137).2.2.2) (by decide) (by decide) k) ?_
          exact jn153 h106 T106 _ X106 e106 Nj121 O106 K106' CH106 CR106 (Nat.le_trans hkj61 E106.1)  (own_beyond V12 0 (.int (own_at cb 0 v127 p3)) (own_le (i := (0 : Int32)) hnn.1 hc137 (by decide))) (Es103.ext E106) (Fv103.ext E106) (Fc103.ext E106) (Vb103.ext E106)
      refine own_go (B := T104.setTop (mkF m 77 #[.val (.int p0), .val (.int p1), .val (.int p2), .val (.int p3), .val (.int v6), .val (.ref ab), .val (.int v68), .val (.int v73), .unset, .unset, .unset, .unset, .unset] [(.int v73)])) (fun _ k => XS.iload X104.here hx rfl (hb hby at_75) rfl k) ?_
      by_cases hc77 : v73 = (0 : Int32)
      · refine own_go (B := T104.setTop (mkF m 80 #[.val (.int p0), .val (.int p1), .val (.int p2), .val (.int p3), .val (.int v6), .val (.ref ab), .val (.int v68), .val (.int v73), .unset, .unset, .unset, .unset, .unset] [])) (fun _ k => XS.ifNo X104.here hx rfl (hb hby at_77) rfl ((if0 _ _).trans (teq hc77).2) k) ?_
        refine own_go (B := T104.setTop (mkF m 82 #[.val (.int p0), .val (.int p1), .val (.int p2), .val (.int p3), .val (.int v6), .val (.ref ab), .val (.int v68), .val (.int v73), .unset, .unset, .unset, .unset, .unset] [(.int v68)])) (fun _ k => XS.iload X104.here hx rfl (hb hby at_80) rfl k) ?_
        refine own_go (B := T104.setTop (mkF m 121 #[.val (.int p0), .val (.int p1), .val (.int p2), .val (.int p3), .val (.int v6), .val (.ref ab), .val (.int v68), .val (.int v73), .unset, .unset, .unset, .unset, .unset] [(.int v68)])) (fun _ k => XS.goto X104.here hx rfl (pc0 := 82) (pc' := 121) rfl (hb hby at_82) (by decide) (by decide) k) ?_
        exact jn121 T104 _ X104 N104 e104 v68 (own_n1 hv68 hcb)
      · refine own_go (B := T104.setTop (mkF m 85 #[.val (.int p0), .val (.int p1), .val (.int p2), .val (.int p3), .val (.int v6), .val (.ref ab), .val (.int v68), .val (.int v73), .unset, .unset, .unset, .unset, .unset] [])) (fun _ k => XS.ifYes X104.here hx rfl (pc0 := 77) (pc' := 85) rfl (hb hby at_77) rfl ((if0 _ _).trans (feq hc77).2) (by decide) (by decide) k) ?_
        refine own_go (B := T104.setTop (mkF m 87 #[.val (.int p0), .val (.int p1), .val (.int p2), .val (.int p3), .val (.int v6), .val (.ref ab), .val (.int v68), .val (.int v73), .unset, .unset, .unset, .unset, .unset] [(.int v73)])) (fun _ k => XS.iload X104.here hx rfl (hb hby at_85) rfl k) ?_
        refine own_go (B := T104.setTop (mkF m 88 #[.val (.int p0), .val (.int p1), .val (.int p2), .val (.int p3), .val (.int v6), .val (.ref ab), .val (.int v68), .val (.int v73), .unset, .unset, .unset, .unset, .unset] [(.int (1 : Int32)), (.int v73)])) (fun _ k => XS.iconst X104.here hx rfl (hb hby at_87) k) ?_
        by_cases hc88 : v73 = (1 : Int32)
        · refine own_go (B := T104.setTop (mkF m 91 #[.val (.int p0), .val (.int p1), .val (.int p2), .val (.int p3), .val (.int v6), .val (.ref ab), .val (.int v68), .val (.int v73), .unset, .unset, .unset, .unset, .unset] [])) (fun _ k => XS.icmpNo X104.here hx rfl (hb hby at_88) rfl (teq hc88).2 k) ?_
          refine own_go (B := T104.setTop (mkF m 93 #[.val (.int p0), .val (.int p1), .val (.int p2), .val (.int p3), .val (.int v6), .val (.ref ab), .val (.int v68), .val (.int v73), .unset, .unset, .unset, .unset, .unset] [(.int v68)])) (fun _ k => XS.iload X104.here hx rfl (hb hby at_91) rfl k) ?_
          refine own_go (B := T104.setTop (mkF m 94 #[.val (.int p0), .val (.int p1), .val (.int p2), .val (.int p3), .val (.int v6), .val (.ref ab), .val (.int v68), .val (.int v73), .unset, .unset, .unset, .unset, .unset] [(.int (1 : Int32)), (.int v68)])) (fun _ k => XS.iconst X104.here hx rfl (hb hby at_93) k) ?_
          refine own_go (B := T104.setTop (mkF m 95 #[.val (.int p0), .val (.int p1), .val (.int p2), .val (.int p3), .val (.int v6), .val (.ref ab), .val (.int v68), .val (.int v73), .unset, .unset, .unset, .unset, .unset] [(.int (v68 - (1 : Int32)))])) (fun _ k => XS.isub X104.here hx rfl (hb hby at_94) rfl k) ?_
          refine own_go (B := T104.setTop (mkF m 96 #[.val (.int p0), .val (.int p1), .val (.int p2), .val (.int p3), .val (.int v6), .val (.ref ab), .val (.int v68), .val (.int v73), .unset, .unset, .unset, .unset, .unset] [(.int (0 : Int32)), (.int (v68 - (1 : Int32)))])) (fun _ k => XS.iconst X104.here hx rfl (hb hby at_95) k) ?_
          obtain ⟨_, _, ⟨T199, L199, k199, n199⟩, -, X199, ⟨Lc199, hQ199, l199, y199, z199⟩, st199⟩ := Jvm.LawKit.callS X104 hx (y := (⟨"java/lang/Math", "max", "(II)I"⟩ : MethodName)) hown (mvT hZ (hw _ (List.mem_of_getElem? (i := 108) rfl))) (mvT hZ (hw _ (List.mem_of_getElem? (i := 109) rfl))) (mvT hZ (hw _ (List.mem_of_getElem? (i := 110) rfl))) (mvT hZ (hw _ (List.mem_of_getElem? (i := 111) rfl))) (by decide) (backOf (W := 0) (rm19 l Z a0 hw [] wV wI wC wF sI tI sC tC sF tF k_wV k_tI k_tC k_tF zC fm G (v68 - (1 : Int32)) (0 : Int32) hj61 n0 (Nat.le_trans Z0 Kj61.1) Oj61 ) hZ (hw _ (List.mem_of_getElem? (i := 111) rfl)) (hw _ (List.mem_of_getElem? (i := 110) rfl)) (by decide) (by decide)) (g := (mkF m 96 #[.val (.int p0), .val (.int p1), .val (.int p2), .val (.int p3), .val (.int v6), .val (.ref ab), .val (.int v68), .val (.int v73), .unset, .unset, .unset, .unset, .unset] [(.int (0 : Int32)), (.int (v68 - (1 : Int32)))])) rfl (by rw [hml]; rfl) (argsL := [(.int (v68 - (1 : Int32))), (.int (0 : Int32))]) (rest := []) (lenOf pd_8 rfl) rfl (by show 2 * 0 + _ ≤ _; exact Nat.le_of_eq rfl) (hb hby at_96) (fun _ _ => ⟨rfl, e104, (by decide : 2 + 0 ≤ 32), (by decide : 48 + 0 ≤ 5312)⟩)
          dsimp only [Pt.U, Pt.locs, Pt.cells, Pt.slots] at X199 l199 y199 z199 st199 hQ199
          subst l199 y199 z199
          obtain ⟨rfl, N199q, K199⟩ := hQ199
          have N199 := Fr.app N104 N199q
          have e199 : T199.heap = hj61 := K199
          refine own_go (B := T199.setTop (mkF m 99 #[.val (.int p0), .val (.int p1), .val (.int p2), .val (.int p3), .val (.int v6), .val (.ref ab), .val (.int v68), .val (.int v73), .unset, .unset, .unset, .unset, .unset] [(.int (own_max (v68 - (1 : Int32)) (0 : Int32)))])) (st199) ?_
          refine own_go (B := T199.setTop (mkF m 121 #[.val (.int p0), .val (.int p1), .val (.int p2), .val (.int p3), .val (.int v6), .val (.ref ab), .val (.int v68), .val (.int v73), .unset, .unset, .unset, .unset, .unset] [(.int (own_max (v68 - (1 : Int32)) (0 : Int32)))])) (fun _ k => XS.goto X199.here hx rfl (pc0 := 99) (pc' := 121) rfl (hb hby at_99) (by decide) (by decide) k) ?_
          exact jn121 T199 _ X199 N199 e199 (own_max (v68 - (1 : Int32)) (0 : Int32)) (own_n2 hv68 hcb)
        · refine own_go (B := T104.setTop (mkF m 102 #[.val (.int p0), .val (.int p1), .val (.int p2), .val (.int p3), .val (.int v6), .val (.ref ab), .val (.int v68), .val (.int v73), .unset, .unset, .unset, .unset, .unset] [])) (fun _ k => XS.icmpYes X104.here hx rfl (pc0 := 88) (pc' := 102) rfl (hb hby at_88) rfl (feq hc88).2 (by decide) (by decide) k) ?_
          refine own_go (B := T104.setTop (mkF m 104 #[.val (.int p0), .val (.int p1), .val (.int p2), .val (.int p3), .val (.int v6), .val (.ref ab), .val (.int v68), .val (.int v73), .unset, .unset, .unset, .unset, .unset] [(.int v73)])) (fun _ k => XS.iload X104.here hx rfl (hb hby at_102) rfl k) ?_
          refine own_go (B := T104.setTop (mkF m 105 #[.val (.int p0), .val (.int p1), .val (.int p2), .val (.int p3), .val (.int v6), .val (.ref ab), .val (.int v68), .val (.int v73), .unset, .unset, .unset, .unset, .unset] [(.int (2 : Int32)), (.int v73)])) (fun _ k => XS.iconst X104.here hx rfl (hb hby at_104) k) ?_
          by_cases hc105 : v73 = (2 : Int32)
          · refine own_go (B := T104.setTop (mkF m 108 #[.val (.int p0), .val (.int p1), .val (.int p2), .val (.int p3), .val (.int v6), .val (.ref ab), .val (.int v68), .val (.int v73), .unset, .unset, .unset, .unset, .unset] [])) (fun _ k => XS.icmpNo X104.here hx rfl (hb hby at_105) rfl (teq hc105).2 k) ?_
            refine own_go (B := T104.setTop (mkF m 110 #[.val (.int p0), .val (.int p1), .val (.int p2), .val (.int p3), .val (.int v6), .val (.ref ab), .val (.int v68), .val (.int v73), .unset, .unset, .unset, .unset, .unset] [(.int v68)])) (fun _ k => XS.iload X104.here hx rfl (hb hby at_108) rfl k) ?_
            refine own_go (B := T104.setTop (mkF m 111 #[.val (.int p0), .val (.int p1), .val (.int p2), .val (.int p3), .val (.int v6), .val (.ref ab), .val (.int v68), .val (.int v73), .unset, .unset, .unset, .unset, .unset] [(.int (1 : Int32)), (.int v68)])) (fun _ k => XS.iconst X104.here hx rfl (hb hby at_110) k) ?_
            refine own_go (B := T104.setTop (mkF m 112 #[.val (.int p0), .val (.int p1), .val (.int p2), .val (.int p3), .val (.int v6), .val (.ref ab), .val (.int v68), .val (.int v73), .unset, .unset, .unset, .unset, .unset] [(.int (v68 + (1 : Int32)))])) (fun _ k => XS.iadd X104.here hx rfl (hb hby at_111) rfl k) ?_
            refine own_go (B := T104.setTop (mkF m 121 #[.val (.int p0), .val (.int p1), .val (.int p2), .val (.int p3), .val (.int v6), .val (.ref ab), .val (.int v68), .val (.int v73), .unset, .unset, .unset, .unset, .unset] [(.int (v68 + (1 : Int32)))])) (fun _ k => XS.goto X104.here hx rfl (pc0 := 112) (pc' := 121) rfl (hb hby at_112) (by decide) (by decide) k) ?_
            exact jn121 T104 _ X104 N104 e104 (v68 + (1 : Int32)) (own_n3 hv68 hcb)
          · refine own_go (B := T104.setTop (mkF m 115 #[.val (.int p0), .val (.int p1), .val (.int p2), .val (.int p3), .val (.int v6), .val (.ref ab), .val (.int v68), .val (.int v73), .unset, .unset, .unset, .unset, .unset] [])) (fun _ k => XS.icmpYes X104.here hx rfl (pc0 := 105) (pc' := 115) rfl (hb hby at_105) rfl (feq hc105).2 (by decide) (by decide) k) ?_
            refine own_go (B := T104.setTop (mkF m 116 #[.val (.int p0), .val (.int p1), .val (.int p2), .val (.int p3), .val (.int v6), .val (.ref ab), .val (.int v68), .val (.int v73), .unset, .unset, .unset, .unset, .unset] [(.int p1)])) (fun _ k => XS.iloadN X104.here hx rfl (hb hby at_115) rfl k) ?_
            refine own_go (B := T104.setTop (mkF m 117 #[.val (.int p0), .val (.int p1), .val (.int p2), .val (.int p3), .val (.int v6), .val (.ref ab), .val (.int v68), .val (.int v73), .unset, .unset, .unset, .unset, .unset] [(.int (2 : Int32)), (.int p1)])) (fun _ k => XS.iconst X104.here hx rfl (hb hby at_116) k) ?_
            refine own_go (B := T104.setTop (mkF m 118 #[.val (.int p0), .val (.int p1), .val (.int p2), .val (.int p3), .val (.int v6), .val (.ref ab), .val (.int v68), .val (.int v73), .unset, .unset, .unset, .unset, .unset] [(.int ((p1.toUInt32 >>> ((2 : Int32) &&& 31).toUInt32).toInt32))])) (fun _ k => XS.iushr X104.here hx rfl (hb hby at_117) rfl k) ?_
            refine own_go (B := T104.setTop (mkF m 120 #[.val (.int p0), .val (.int p1), .val (.int p2), .val (.int p3), .val (.int v6), .val (.ref ab), .val (.int v68), .val (.int v73), .unset, .unset, .unset, .unset, .unset] [(.int (13 : Int32)), (.int ((p1.toUInt32 >>> ((2 : Int32) &&& 31).toUInt32).toInt32))])) (fun _ k => XS.bipush X104.here hx rfl (hb hby at_118) k) ?_
            refine own_go (B := T104.setTop (mkF m 121 #[.val (.int p0), .val (.int p1), .val (.int p2), .val (.int p3), .val (.int v6), .val (.ref ab), .val (.int v68), .val (.int v73), .unset, .unset, .unset, .unset, .unset] [(.int (((p1.toUInt32 >>> ((2 : Int32) &&& 31).toUInt32).toInt32) - (((p1.toUInt32 >>> ((2 : Int32) &&& 31).toUInt32).toInt32) / (13 : Int32)) * (13 : Int32)))])) (fun _ k => XS.irem X104.here hx rfl (hb hby at_120) rfl (by decide) k) ?_
            rw [irem_eq_mod ((p1.toUInt32 >>> ((2 : Int32) &&& 31).toUInt32).toInt32) (13 : Int32)]
            exact jn121 T104 _ X104 N104 e104 (((p1.toUInt32 >>> ((2 : Int32) &&& 31).toUInt32).toInt32) % (13 : Int32)) (own_rem13 p1)
    refine own_go (B := s₁.setTop (mkF m 29 #[.val (.int p0), .val (.int p1), .val (.int p2), .val (.int p3), .val (.int v6), .unset, .unset, .unset, .unset, .unset, .unset, .unset, .unset] [(.int v6)])) (fun _ k => XS.iload X0.here hx rfl (hb hby at_27) rfl k) ?_
    by_cases hc29 : v6 = (0 : Int32)
    · refine own_go (B := s₁.setTop (mkF m 32 #[.val (.int p0), .val (.int p1), .val (.int p2), .val (.int p3), .val (.int v6), .unset, .unset, .unset, .unset, .unset, .unset, .unset, .unset] [])) (fun _ k => XS.ifNo X0.here hx rfl (hb hby at_29) rfl ((if0 _ _).trans (teq hc29).2) k) ?_
      obtain ⟨la200, T200, h200, k200, tb200, kb200, X200, e200, E200, SN200, hk200, hZ, hown, Ex200, Fc200, Fv200, Vb200, -, -, CRq200, -, Ne200, st200⟩ := ldcCH (s := s) (vm0 := s.vm) X0 hx hZ hown (hw _ (List.mem_of_getElem? (i := 1) rfl)) wS e0 S0 (Nat.zero_le _) hEL (by decide) CH0 (vs := [(.int (105 : Int32)), (.int (110 : Int32)), (.int (45 : Int32)), (.int (112 : Int32)), (.int (114 : Int32)), (.int (111 : Int32)), (.int (103 : Int32)), (.int (114 : Int32)), (.int (101 : Int32)), (.int (115 : Int32)), (.int (115 : Int32))]) (z := (11 : Int32)) ⟨by decide, rfl⟩ (by decide) rfl (g := (mkF m 32 #[.val (.int p0), .val (.int p1), .val (.int p2), .val (.int p3), .val (.int v6), .unset, .unset, .unset, .unset, .unset, .unset, .unset, .unset] [])) rfl (hb hby at_32) (n := 44) (by decide) (by decide) (by decide) (by decide)
      have O200 := O0.ext E200
      have K200' : Keep h0 h200 ([] : List Addr) := K0.ext E200
      have CH200 := CRq200.1
      have CR200 := CR0.trans CRq200
      refine own_go (B := T200.setTop (mkF m 34 #[.val (.int p0), .val (.int p1), .val (.int p2), .val (.int p3), .val (.int v6), .unset, .unset, .unset, .unset, .unset, .unset, .unset, .unset] [(.ref la200)])) (st200) ?_
      refine own_go (B := T200.setTop (mkF m 61 #[.val (.int p0), .val (.int p1), .val (.int p2), .val (.int p3), .val (.int v6), .unset, .unset, .unset, .unset, .unset, .unset, .unset, .unset] [(.ref la200)])) (fun _ k => XS.goto X200.here hx rfl (pc0 := 34) (pc' := 61) rfl (hb hby at_34) (by decide) (by decide) k) ?_
      exact jn61 h200 T200 _ T200.vm X200 e200 N0 O200 K200' k200 SN200 hZ hown CH200 CR200 hk200 la200 [(105 : Int32), (110 : Int32), (45 : Int32), (112 : Int32), (114 : Int32), (111 : Int32), (103 : Int32), (114 : Int32), (101 : Int32), (115 : Int32), (115 : Int32)] (⟨tb200, kb200, (11 : Int32), [(.int (105 : Int32)), (.int (110 : Int32)), (.int (45 : Int32)), (.int (112 : Int32)), (.int (114 : Int32)), (.int (111 : Int32)), (.int (103 : Int32)), (.int (114 : Int32)), (.int (101 : Int32)), (.int (115 : Int32)), (.int (115 : Int32))], Ex200, Fv200, Fc200, Vb200, (Or.inl ⟨rfl, rfl, rfl, by decide⟩), (by decide), (by decide)⟩ : own_Str Z h200 la200 [(105 : Int32), (110 : Int32), (45 : Int32), (112 : Int32), (114 : Int32), (111 : Int32), (103 : Int32), (114 : Int32), (101 : Int32), (115 : Int32), (115 : Int32)]) (by decide)
    · refine own_go (B := s₁.setTop (mkF m 37 #[.val (.int p0), .val (.int p1), .val (.int p2), .val (.int p3), .val (.int v6), .unset, .unset, .unset, .unset, .unset, .unset, .unset, .unset] [])) (fun _ k => XS.ifYes X0.here hx rfl (pc0 := 29) (pc' := 37) rfl (hb hby at_29) rfl ((if0 _ _).trans (feq hc29).2) (by decide) (by decide) k) ?_
      refine own_go (B := s₁.setTop (mkF m 39 #[.val (.int p0), .val (.int p1), .val (.int p2), .val (.int p3), .val (.int v6), .unset, .unset, .unset, .unset, .unset, .unset, .unset, .unset] [(.int v6)])) (fun _ k => XS.iload X0.here hx rfl (hb hby at_37) rfl k) ?_
      refine own_go (B := s₁.setTop (mkF m 40 #[.val (.int p0), .val (.int p1), .val (.int p2), .val (.int p3), .val (.int v6), .unset, .unset, .unset, .unset, .unset, .unset, .unset, .unset] [(.int (1 : Int32)), (.int v6)])) (fun _ k => XS.iconst X0.here hx rfl (hb hby at_39) k) ?_
      by_cases hc40 : v6 = (1 : Int32)
      · refine own_go (B := s₁.setTop (mkF m 43 #[.val (.int p0), .val (.int p1), .val (.int p2), .val (.int p3), .val (.int v6), .unset, .unset, .unset, .unset, .unset, .unset, .unset, .unset] [])) (fun _ k => XS.icmpNo X0.here hx rfl (hb hby at_40) rfl (teq hc40).2 k) ?_
        obtain ⟨la201, T201, h201, k201, tb201, kb201, X201, e201, E201, SN201, hk201, hZ, hown, Ex201, Fc201, Fv201, Vb201, -, -, CRq201, -, Ne201, st201⟩ := ldcCH (s := s) (vm0 := s.vm) X0 hx hZ hown (hw _ (List.mem_of_getElem? (i := 45) rfl)) wS e0 S0 (Nat.zero_le _) hEL (by decide) CH0 (vs := [(.int (99 : Int32)), (.int (111 : Int32)), (.int (109 : Int32)), (.int (112 : Int32)), (.int (108 : Int32)), (.int (101 : Int32)), (.int (116 : Int32)), (.int (101 : Int32)), (.int (100 : Int32))]) (z := (9 : Int32)) ⟨by decide, rfl⟩ (by decide) rfl (g := (mkF m 43 #[.val (.int p0), .val (.int p1), .val (.int p2), .val (.int p3), .val (.int v6), .unset, .unset, .unset, .unset, .unset, .unset, .unset, .unset] [])) rfl (hb hby at_43) (n := 44) (by decide) (by decide) (by decide) (by decide)
        have O201 := O0.ext E201
        have K201' : Keep h0 h201 ([] : List Addr) := K0.ext E201
        have CH201 := CRq201.1
        have CR201 := CR0.trans CRq201
        refine own_go (B := T201.setTop (mkF m 45 #[.val (.int p0), .val (.int p1), .val (.int p2), .val (.int p3), .val (.int v6), .unset, .unset, .unset, .unset, .unset, .unset, .unset, .unset] [(.ref la201)])) (st201) ?_
        refine own_go (B := T201.setTop (mkF m 61 #[.val (.int p0), .val (.int p1), .val (.int p2), .val (.int p3), .val (.int v6), .unset, .unset, .unset, .unset, .unset, .unset, .unset, .unset] [(.ref la201)])) (fun _ k => XS.goto X201.here hx rfl (pc0 := 45) (pc' := 61) rfl (hb hby at_45) (by decide) (by decide) k) ?_
        exact jn61 h201 T201 _ T201.vm X201 e201 N0 O201 K201' k201 SN201 hZ hown CH201 CR201 hk201 la201 [(99 : Int32), (111 : Int32), (109 : Int32), (112 : Int32), (108 : Int32), (101 : Int32), (116 : Int32), (101 : Int32), (100 : Int32)] (⟨tb201, kb201, (9 : Int32), [(.int (99 : Int32)), (.int (111 : Int32)), (.int (109 : Int32)), (.int (112 : Int32)), (.int (108 : Int32)), (.int (101 : Int32)), (.int (116 : Int32)), (.int (101 : Int32)), (.int (100 : Int32))], Ex201, Fv201, Fc201, Vb201, (Or.inl ⟨rfl, rfl, rfl, by decide⟩), (by decide), (by decide)⟩ : own_Str Z h201 la201 [(99 : Int32), (111 : Int32), (109 : Int32), (112 : Int32), (108 : Int32), (101 : Int32), (116 : Int32), (101 : Int32), (100 : Int32)]) (by decide)
      · refine own_go (B := s₁.setTop (mkF m 48 #[.val (.int p0), .val (.int p1), .val (.int p2), .val (.int p3), .val (.int v6), .unset, .unset, .unset, .unset, .unset, .unset, .unset, .unset] [])) (fun _ k => XS.icmpYes X0.here hx rfl (pc0 := 40) (pc' := 48) rfl (hb hby at_40) rfl (feq hc40).2 (by decide) (by decide) k) ?_
        refine own_go (B := s₁.setTop (mkF m 50 #[.val (.int p0), .val (.int p1), .val (.int p2), .val (.int p3), .val (.int v6), .unset, .unset, .unset, .unset, .unset, .unset, .unset, .unset] [(.int v6)])) (fun _ k => XS.iload X0.here hx rfl (hb hby at_48) rfl k) ?_
        refine own_go (B := s₁.setTop (mkF m 51 #[.val (.int p0), .val (.int p1), .val (.int p2), .val (.int p3), .val (.int v6), .unset, .unset, .unset, .unset, .unset, .unset, .unset, .unset] [(.int (2 : Int32)), (.int v6)])) (fun _ k => XS.iconst X0.here hx rfl (hb hby at_50) k) ?_
        by_cases hc51 : v6 = (2 : Int32)
        · refine own_go (B := s₁.setTop (mkF m 54 #[.val (.int p0), .val (.int p1), .val (.int p2), .val (.int p3), .val (.int v6), .unset, .unset, .unset, .unset, .unset, .unset, .unset, .unset] [])) (fun _ k => XS.icmpNo X0.here hx rfl (hb hby at_51) rfl (teq hc51).2 k) ?_
          obtain ⟨la202, T202, h202, k202, tb202, kb202, X202, e202, E202, SN202, hk202, hZ, hown, Ex202, Fc202, Fv202, Vb202, -, -, CRq202, -, Ne202, st202⟩ := ldcCH (s := s) (vm0 := s.vm) X0 hx hZ hown (hw _ (List.mem_of_getElem? (i := 46) rfl)) wS e0 S0 (Nat.zero_le _) hEL (by decide) CH0 (vs := [(.int (102 : Int32)), (.int (97 : Int32)), (.int (105 : Int32)), (.int (108 : Int32)), (.int (101 : Int32)), (.int (100 : Int32))]) (z := (6 : Int32)) ⟨by decide, rfl⟩ (by decide) rfl (g := (mkF m 54 #[.val (.int p0), .val (.int p1), .val (.int p2), .val (.int p3), .val (.int v6), .unset, .unset, .unset, .unset, .unset, .unset, .unset, .unset] [])) rfl (hb hby at_54) (n := 44) (by decide) (by decide) (by decide) (by decide)
          have O202 := O0.ext E202
          have K202' : Keep h0 h202 ([] : List Addr) := K0.ext E202
          have CH202 := CRq202.1
          have CR202 := CR0.trans CRq202
          refine own_go (B := T202.setTop (mkF m 56 #[.val (.int p0), .val (.int p1), .val (.int p2), .val (.int p3), .val (.int v6), .unset, .unset, .unset, .unset, .unset, .unset, .unset, .unset] [(.ref la202)])) (st202) ?_
          refine own_go (B := T202.setTop (mkF m 61 #[.val (.int p0), .val (.int p1), .val (.int p2), .val (.int p3), .val (.int v6), .unset, .unset, .unset, .unset, .unset, .unset, .unset, .unset] [(.ref la202)])) (fun _ k => XS.goto X202.here hx rfl (pc0 := 56) (pc' := 61) rfl (hb hby at_56) (by decide) (by decide) k) ?_
          exact jn61 h202 T202 _ T202.vm X202 e202 N0 O202 K202' k202 SN202 hZ hown CH202 CR202 hk202 la202 [(102 : Int32), (97 : Int32), (105 : Int32), (108 : Int32), (101 : Int32), (100 : Int32)] (⟨tb202, kb202, (6 : Int32), [(.int (102 : Int32)), (.int (97 : Int32)), (.int (105 : Int32)), (.int (108 : Int32)), (.int (101 : Int32)), (.int (100 : Int32))], Ex202, Fv202, Fc202, Vb202, (Or.inl ⟨rfl, rfl, rfl, by decide⟩), (by decide), (by decide)⟩ : own_Str Z h202 la202 [(102 : Int32), (97 : Int32), (105 : Int32), (108 : Int32), (101 : Int32), (100 : Int32)]) (by decide)
        · refine own_go (B := s₁.setTop (mkF m 59 #[.val (.int p0), .val (.int p1), .val (.int p2), .val (.int p3), .val (.int v6), .unset, .unset, .unset, .unset, .unset, .unset, .unset, .unset] [])) (fun _ k => XS.icmpYes X0.here hx rfl (pc0 := 51) (pc' := 59) rfl (hb hby at_51) rfl (feq hc51).2 (by decide) (by decide) k) ?_
          obtain ⟨la203, T203, h203, k203, tb203, kb203, X203, e203, E203, SN203, hk203, hZ, hown, Ex203, Fc203, Fv203, Vb203, -, -, CRq203, -, Ne203, st203⟩ := ldcCH (s := s) (vm0 := s.vm) X0 hx hZ hown (hw _ (List.mem_of_getElem? (i := 112) rfl)) wS e0 S0 (Nat.zero_le _) hEL (by decide) CH0 (vs := []) (z := (0 : Int32)) ⟨by decide, rfl⟩ (by decide) rfl (g := (mkF m 59 #[.val (.int p0), .val (.int p1), .val (.int p2), .val (.int p3), .val (.int v6), .unset, .unset, .unset, .unset, .unset, .unset, .unset, .unset] [])) rfl (hb hby at_59) (n := 44) (by decide) (by decide) (by decide) (by decide)
          have O203 := O0.ext E203
          have K203' : Keep h0 h203 ([] : List Addr) := K0.ext E203
          have CH203 := CRq203.1
          have CR203 := CR0.trans CRq203
          refine own_go (B := T203.setTop (mkF m 61 #[.val (.int p0), .val (.int p1), .val (.int p2), .val (.int p3), .val (.int v6), .unset, .unset, .unset, .unset, .unset, .unset, .unset, .unset] [(.ref la203)])) (st203) ?_
          exact jn61 h203 T203 _ T203.vm X203 e203 N0 O203 K203' k203 SN203 hZ hown CH203 CR203 hk203 la203 [] (⟨tb203, kb203, (0 : Int32), [], Ex203, Fv203, Fc203, Vb203, (Or.inl ⟨rfl, rfl, rfl, by decide⟩), (by decide), (by decide)⟩ : own_Str Z h203 la203 []) (by decide)
set_option maxRecDepth 65536 in
set_option maxHeartbeats 40000000 in
theorem comes_1 {Post : Tables → Env → Array Value → State → Outcome → State → Prop} (hpost : ∀ tb e args s v u, (limb_1_1.after args s (.returned v) u = true ∧ limb_1_2.after args s (.returned v) u = true ∧ True) → ReturnedEndW s (.returned v) u (Jvm.fieldLocs frame_1_writes args s ++ Jvm.arrayLocs frame_1_arrays args s ++ Jvm.staticLocs frame_1_statics s) 32 5312 → Post tb e args s (.returned v) u) :
    ArmFor flags0 classFile x code maxLocals ret World_1 tables_1 room_1 Calls_1 rest_1 Pre_1 Post := by
  intro l hfl _ _ p e ha hc hk s m args below hf hA hF happ hP
  obtain ⟨hcalls, hrest, hpre⟩ := hP
  obtain ⟨-, -, -, hnamed, -, -, -, hat⟩ := (Spec.applies_iff hf).mp happ
  obtain ⟨hg, hn⟩ := and_e (Cond.before_iff.mp (show (Jvm.Cond.and given_1 narrow_1).before args s = true from hpre))
  obtain ⟨hcount, hg1⟩ := and_e hg
  obtain ⟨ga0, hg1'⟩ := and_e hg1
  obtain ⟨ga1, hg1''⟩ := and_e hg1'
  obtain ⟨ga2, hg1'''⟩ := and_e hg1''
  obtain ⟨w0, w1, w2, w3, rfl⟩ : ∃ w0 w1 w2 w3 : Value, args = #[w0, w1, w2, w3] := by
    have hs : args.size = 4 := by simpa [Cond.value, given_1] using hcount
    obtain ⟨L⟩ := args
    match L, hs with
    | [w0, w1, w2, w3], _ => exact ⟨w0, w1, w2, w3, rfl⟩
  have hw := fun d (hd : d ∈ tables_1) => atoms_spec (ws := Jvm.Cond.code x code maxLocals ret :: tables_1) hat d (List.mem_cons_of_mem _ hd)
  have hfit : Fit s := fun {y c} hc i hi => by
    obtain ⟨ha, rfl⟩ := Array.getElem?_eq_some_iff.mp hc
    have q := List.all_eq_true.mp ((Array.all_eq_true_iff_forall_mem.mp hF) _ (Array.getElem_mem ha)) i (List.mem_range.mpr hi)
    simpa [Array.getElem?_eq_getElem hi] using q
  obtain ⟨hsets, hown0⟩ := atoms_of _ (rest_1_c_eq ▸ (show rest_1_c.before _ s = true from hrest))
  have hr0 := Cond.before_iff.mp hown0
  obtain ⟨i0, ei0⟩ := is_v ga0
  obtain rfl : w0 = (.int i0) := Option.some.inj ei0
  obtain ⟨i1, ei1⟩ := is_v ga1
  obtain rfl : w1 = (.int i1) := Option.some.inj ei1
  obtain ⟨i2, ei2⟩ := is_v ga2
  obtain rfl : w2 = (.int i2) := Option.some.inj ei2
  obtain ⟨i3, ei3⟩ := is_v hg1'''
  obtain rfl : w3 = (.int i3) := Option.some.inj ei3
  obtain ⟨hN1, hN1'⟩ := and_e hn
  obtain ⟨hN2, hN2'⟩ := and_e hN1'
  obtain ⟨hN3, hN3'⟩ := and_e hN2'
  obtain ⟨hN4, hN4'⟩ := and_e hN3'
  obtain ⟨hN5, hN5'⟩ := and_e hN4'
  obtain ⟨hN6, hN6'⟩ := and_e hN5'
  obtain ⟨hN7, hN7'⟩ := and_e hN6'
  obtain ⟨hN8, hN8'⟩ := and_e hN7'
  obtain ⟨hN9, hN9'⟩ := and_e hN8'
  obtain ⟨hN10, hN10'⟩ := and_e hN9'
  obtain ⟨hN11, hN11'⟩ := and_e hN10'
  obtain ⟨hN12, hN12'⟩ := and_e hN11'
  obtain ⟨hN13, hN13'⟩ := and_e hN12'
  obtain ⟨hN14, hN14'⟩ := and_e hN13'
  obtain ⟨hN15, hN15'⟩ := and_e hN14'
  obtain ⟨hN16, hN16'⟩ := and_e hN15'
  obtain ⟨hN17, hN17'⟩ := and_e hN16'
  obtain ⟨hN18, hN18'⟩ := and_e hN17'
  obtain ⟨hN19, hN19'⟩ := and_e hN18'
  obtain ⟨hN20, hN20'⟩ := and_e hN19'
  obtain ⟨hN21, hN21'⟩ := and_e hN20'
  obtain ⟨hN22, hN22'⟩ := and_e hN21'
  obtain ⟨hN23, hN23'⟩ := and_e hN22'
  obtain ⟨hN24, hN24'⟩ := and_e hN23'
  obtain ⟨hN25, hN25'⟩ := and_e hN24'
  obtain ⟨hN26, hN26'⟩ := and_e hN25'
  obtain ⟨hN27, hN27'⟩ := and_e hN26'
  obtain ⟨hN28, hN28'⟩ := and_e hN27'
  obtain ⟨hN29, hN29'⟩ := and_e hN28'
  obtain ⟨hN30, hN30'⟩ := and_e hN29'
  obtain ⟨hN31, hN31'⟩ := and_e hN30'
  obtain ⟨hN32, hN32'⟩ := and_e hN31'
  obtain ⟨hN33, hN33'⟩ := and_e hN32'
  obtain ⟨hN34, hN34'⟩ := and_e hN33'
  obtain ⟨hN35, hN35'⟩ := and_e hN34'
  obtain ⟨hN36, hN36'⟩ := and_e hN35'
  obtain ⟨hN37, hN37'⟩ := and_e hN36'
  obtain ⟨hN38, hN38'⟩ := and_e hN37'
  obtain ⟨hN39, hN39'⟩ := and_e hN38'
  obtain ⟨hN40, hN40'⟩ := and_e hN39'
  obtain ⟨hN41, hN41'⟩ := and_e hN40'
  obtain ⟨hN42, hN42'⟩ := and_e hN41'
  obtain ⟨hN43, hN43'⟩ := and_e hN42'
  obtain ⟨hN44, hN44'⟩ := and_e hN43'
  obtain ⟨hN45, hN45'⟩ := and_e hN44'
  obtain ⟨hN46, hN46'⟩ := and_e hN45'
  obtain ⟨wV, ev_wV⟩ := arr_v hN1
  have S_RowState_VALUES := Sta.start ev_wV (Or.inr ⟨(hw _ (List.mem_of_getElem? (i := 49) rfl)), (hw _ (List.mem_of_getElem? (i := 55) rfl))⟩)
  obtain ⟨cl_wV, Ar_wV⟩ := Arr.start ev_wV hN1
  have E_wV := Exa.start ev_wV hN2
  obtain ⟨wI, ev_wI⟩ := exa_v hN4
  have S_RowState_IN_PROGRESS := Sta.start ev_wI (Or.inr ⟨(hw _ (List.mem_of_getElem? (i := 49) rfl)), (hw _ (List.mem_of_getElem? (i := 63) rfl))⟩)
  have E_wI := Exa.start ev_wI hN4
  obtain ⟨wC, ev_wC⟩ := exa_v hN6
  have S_RowState_COMPLETED := Sta.start ev_wC (Or.inr ⟨(hw _ (List.mem_of_getElem? (i := 49) rfl)), (hw _ (List.mem_of_getElem? (i := 64) rfl))⟩)
  have E_wC := Exa.start ev_wC hN6
  obtain ⟨wF, ev_wF⟩ := exa_v hN8
  have S_RowState_FAILED := Sta.start ev_wF (Or.inr ⟨(hw _ (List.mem_of_getElem? (i := 49) rfl)), (hw _ (List.mem_of_getElem? (i := 65) rfl))⟩)
  have E_wF := Exa.start ev_wF hN8
  obtain ⟨sI, ev_sI⟩ := exa_v hN10
  have F_text_wI := Fld.start ((fld_at ev_wI).symm.trans ev_sI)
  have E_sI := Exa.start ev_sI hN10
  obtain ⟨tI, ev_tI⟩ := arr_v hN12
  have F_value_sI := Fld.start ((fld_at ev_sI).symm.trans ev_tI)
  obtain ⟨cl_tI, Ar_tI⟩ := Arr.start ev_tI hN12
  obtain ⟨sC, ev_sC⟩ := exa_v hN14
  have F_text_wC := Fld.start ((fld_at ev_wC).symm.trans ev_sC)
  have E_sC := Exa.start ev_sC hN14
  obtain ⟨tC, ev_tC⟩ := arr_v hN16
  have F_value_sC := Fld.start ((fld_at ev_sC).symm.trans ev_tC)
  obtain ⟨cl_tC, Ar_tC⟩ := Arr.start ev_tC hN16
  obtain ⟨sF, ev_sF⟩ := exa_v hN18
  have F_text_wF := Fld.start ((fld_at ev_wF).symm.trans ev_sF)
  have E_sF := Exa.start ev_sF hN18
  obtain ⟨tF, ev_tF⟩ := arr_v hN20
  have F_value_sF := Fld.start ((fld_at ev_sF).symm.trans ev_tF)
  obtain ⟨cl_tF, Ar_tF⟩ := Arr.start ev_tF hN20
  have Ln_wV := own_len ev_wV Ar_wV hN3
  have El_wV_0 := own_el ev_wV Ar_wV (own_eqr ev_wI hN5)
  have El_wV_1 := own_el ev_wV Ar_wV (own_eqr ev_wC hN7)
  have El_wV_2 := own_el ev_wV Ar_wV (own_eqr ev_wF hN9)
  have F_coder_sI := Fld.start ((fld_at ev_sI).symm.trans (eqv_i (y := 0) rfl hN11))
  have Ln_tI := own_len ev_tI Ar_tI hN13
  have F_coder_sC := Fld.start ((fld_at ev_sC).symm.trans (eqv_i (y := 0) rfl hN15))
  have Ln_tC := own_len ev_tC Ar_tC hN17
  have F_coder_sF := Fld.start ((fld_at ev_sF).symm.trans (eqv_i (y := 0) rfl hN19))
  have Ln_tF := own_len ev_tF Ar_tF hN21
  have El_tI_0 := own_el ev_tI Ar_tI (eqv_i (y := 105) rfl hN22)
  have El_tI_1 := own_el ev_tI Ar_tI (eqv_i (y := 110) rfl hN23)
  have El_tI_2 := own_el ev_tI Ar_tI (eqv_i (y := 45) rfl hN24)
  have El_tI_3 := own_el ev_tI Ar_tI (eqv_i (y := 112) rfl hN25)
  have El_tI_4 := own_el ev_tI Ar_tI (eqv_i (y := 114) rfl hN26)
  have El_tI_5 := own_el ev_tI Ar_tI (eqv_i (y := 111) rfl hN27)
  have El_tI_6 := own_el ev_tI Ar_tI (eqv_i (y := 103) rfl hN28)
  have El_tI_7 := own_el ev_tI Ar_tI (eqv_i (y := 114) rfl hN29)
  have El_tI_8 := own_el ev_tI Ar_tI (eqv_i (y := 101) rfl hN30)
  have El_tI_9 := own_el ev_tI Ar_tI (eqv_i (y := 115) rfl hN31)
  have El_tI_10 := own_el ev_tI Ar_tI (eqv_i (y := 115) rfl hN32)
  have El_tC_0 := own_el ev_tC Ar_tC (eqv_i (y := 99) rfl hN33)
  have El_tC_1 := own_el ev_tC Ar_tC (eqv_i (y := 111) rfl hN34)
  have El_tC_2 := own_el ev_tC Ar_tC (eqv_i (y := 109) rfl hN35)
  have El_tC_3 := own_el ev_tC Ar_tC (eqv_i (y := 112) rfl hN36)
  have El_tC_4 := own_el ev_tC Ar_tC (eqv_i (y := 108) rfl hN37)
  have El_tC_5 := own_el ev_tC Ar_tC (eqv_i (y := 101) rfl hN38)
  have El_tC_6 := own_el ev_tC Ar_tC (eqv_i (y := 116) rfl hN39)
  have El_tC_7 := own_el ev_tC Ar_tC (eqv_i (y := 101) rfl hN40)
  have El_tC_8 := own_el ev_tC Ar_tC (eqv_i (y := 100) rfl hN41)
  have El_tF_0 := own_el ev_tF Ar_tF (eqv_i (y := 102) rfl hN42)
  have El_tF_1 := own_el ev_tF Ar_tF (eqv_i (y := 97) rfl hN43)
  have El_tF_2 := own_el ev_tF Ar_tF (eqv_i (y := 105) rfl hN44)
  have El_tF_3 := own_el ev_tF Ar_tF (eqv_i (y := 108) rfl hN45)
  have El_tF_4 := own_el ev_tF Ar_tF (eqv_i (y := 101) rfl hN46)
  have El_tF_5 := own_el ev_tF Ar_tF (eqv_i (y := 100) rfl hN46')
  have V_wV : Arv s s.heap wV cl_wV.cls (.object "com/example/void_repeat/voidrepeat/jdbc/RowState") (3 : Int32) [(.ref wI), (.ref wC), (.ref wF)] .null := Arv.start hfit Ar_wV Ln_wV.1 Ln_wV.2 (by decide) rfl ⟨El_wV_0, El_wV_1, El_wV_2, trivial⟩
  have V_tI : Arv s s.heap tI cl_tI.cls .byte (11 : Int32) [(.int (105 : Int32)), (.int (110 : Int32)), (.int (45 : Int32)), (.int (112 : Int32)), (.int (114 : Int32)), (.int (111 : Int32)), (.int (103 : Int32)), (.int (114 : Int32)), (.int (101 : Int32)), (.int (115 : Int32)), (.int (115 : Int32))] (.int 0) := Arv.start hfit Ar_tI Ln_tI.1 Ln_tI.2 (by decide) rfl ⟨El_tI_0, El_tI_1, El_tI_2, El_tI_3, El_tI_4, El_tI_5, El_tI_6, El_tI_7, El_tI_8, El_tI_9, El_tI_10, trivial⟩
  have V_tC : Arv s s.heap tC cl_tC.cls .byte (9 : Int32) [(.int (99 : Int32)), (.int (111 : Int32)), (.int (109 : Int32)), (.int (112 : Int32)), (.int (108 : Int32)), (.int (101 : Int32)), (.int (116 : Int32)), (.int (101 : Int32)), (.int (100 : Int32))] (.int 0) := Arv.start hfit Ar_tC Ln_tC.1 Ln_tC.2 (by decide) rfl ⟨El_tC_0, El_tC_1, El_tC_2, El_tC_3, El_tC_4, El_tC_5, El_tC_6, El_tC_7, El_tC_8, trivial⟩
  have V_tF : Arv s s.heap tF cl_tF.cls .byte (6 : Int32) [(.int (102 : Int32)), (.int (97 : Int32)), (.int (105 : Int32)), (.int (108 : Int32)), (.int (101 : Int32)), (.int (100 : Int32))] (.int 0) := Arv.start hfit Ar_tF Ln_tF.1 Ln_tF.2 (by decide) rfl ⟨El_tF_0, El_tF_1, El_tF_2, El_tF_3, El_tF_4, El_tF_5, trivial⟩
  obtain ⟨zC, ev_zC⟩ := is_v (Cond.before_iff.mp (hsets _ (List.mem_of_getElem? (i := 1) rfl)))
  have S_String_COMPACT_STRINGS := Sta.start ev_zC (Or.inl (hsets _ (List.mem_of_getElem? (i := 0) rfl)))
  have hzC := gotF (Cond.eq_ints ev_zC rfl) (not_v (Cond.before_iff.mp (hsets _ (List.mem_of_getElem? (i := 2) rfl))))
  obtain ⟨fm, ev_fm, hfm⟩ := isR_v (Cond.before_iff.mp (hsets _ (List.mem_of_getElem? (i := 8) rfl)))
  have S_Preconditions_SIOOBE_FORMATTER := Sta.start ev_fm (Or.inl (hsets _ (List.mem_of_getElem? (i := 7) rfl)))
  have Sx_sI := (⟨tI, _, _, _, E_sI, F_value_sI, F_coder_sI, V_tI, Or.inl ⟨rfl, rfl, rfl, by decide⟩, by decide, by decide⟩ : own_Str s s.heap sI [(105 : Int32), (110 : Int32), (45 : Int32), (112 : Int32), (114 : Int32), (111 : Int32), (103 : Int32), (114 : Int32), (101 : Int32), (115 : Int32), (115 : Int32)])
  have Sx_sC := (⟨tC, _, _, _, E_sC, F_value_sC, F_coder_sC, V_tC, Or.inl ⟨rfl, rfl, rfl, by decide⟩, by decide, by decide⟩ : own_Str s s.heap sC [(99 : Int32), (111 : Int32), (109 : Int32), (112 : Int32), (108 : Int32), (101 : Int32), (116 : Int32), (101 : Int32), (100 : Int32)])
  have Sx_sF := (⟨tF, _, _, _, E_sF, F_value_sF, F_coder_sF, V_tF, Or.inl ⟨rfl, rfl, rfl, by decide⟩, by decide, by decide⟩ : own_Str s s.heap sF [(102 : Int32), (97 : Int32), (105 : Int32), (108 : Int32), (101 : Int32), (100 : Int32)])
  have CHs : CHv s own_EL s.vm s.heap := CHv.start (own_EW hw) (fun p hp => hcalls.1 p hp) (hsets _ (List.mem_of_getElem? (i := 2) rfl)) (own_wS hw _ (by decide)) (own_wS hw _ (by decide))
  obtain ⟨n, o, h1, h2, h3, _, L, rfl, ⟨rfl, N⟩, -, hq⟩ := rm0 l s _ hw tables_1 wV wI wC wF sI tI sC tC sF tF cl_wV.cls cl_tI.cls cl_tC.cls cl_tF.cls zC fm ⟨S_RowState_VALUES, E_wV, S_RowState_IN_PROGRESS, E_wI, S_RowState_COMPLETED, E_wC, S_RowState_FAILED, E_wF, F_text_wI, E_sI, F_value_sI, F_text_wC, E_sC, F_value_sC, F_text_wF, E_sF, F_value_sF, F_coder_sI, F_coder_sC, F_coder_sF, V_wV, V_tI, V_tC, V_tF, S_String_COMPACT_STRINGS, hzC, S_Preconditions_SIOOBE_FORMATTER, hfm, Sx_sI, Sx_sC, Sx_sF, trivial⟩ i0 i1 i2 i3 s.heap s.heap.size (Nat.le_refl _) (Old.start s)  p e ha hc hk s m _ below hf ((Spec.applies_iff_loose hf).mp happ).1 ⟨rfl, State.Warmed39.refl s, rfl, CHs, all0⟩ trivial
  refine ⟨n, _, h1, h2, h3, hpost _ _ _ _ _ _ ⟨Cond.after_iff.mpr rfl, Cond.after_iff.mpr (eq_i res_at (Term.int_eval (1)) rfl), trivial⟩ ⟨hq.1, hq.2.1, hq.2.2.1, (hq.2.2.2.sift fun y hy => Or.inr (N y hy)).mono (by decide) (by decide)⟩⟩
theorem main_1_1 : Claimed_1_1 := comes_1 fun _ _ _ _ _ _ h hF => ⟨h.1, hF⟩
theorem main_1_2 : Claimed_1_2 := comes_1 fun _ _ _ _ _ _ h hF => ⟨h.2.1, hF⟩
end Jvm.Pilot.@@N@@
namespace Jvm.Pilot.@@N@@
open Jvm Jvm.ClassFile Sem Op Lib Jvm.Free Jvm.Stand Jvm.Pilot.@@N@@.Jvm.D
/-! MADE BY PROGRAM (witnessworld.py) out of the Statement's table words and the real class files: 23 classes; the members and pool entries that the words name. The judged class is class 1, her method 2. -/
namespace start1
open Jvm.ClassFile
def u (s : String) : CpInfo := .utf8 (stringToUtf16 s)
/-- a pool by its gaps: so many unusable entries, then the entry; so many at the end -/
def gap : Nat → List CpInfo → List CpInfo
  | 0, r => r
  | n + 1, r => .unusable :: gap n r
def poolList (es : List (Nat × CpInfo)) (last : Nat) : List CpInfo := es.foldr (fun e r => gap e.1 (e.2 :: r)) (gap last [])
def pool (es : List (Nat × CpInfo)) (last : Nat) : Array CpInfo := ⟨poolList es last⟩
def fileOf (pool : Array CpInfo) (this : Nat) (attrs : Array Attribute := #[]) (ms : Array MethodInfo := #[]) (fl : Nat := 33) (sup : Nat := 0) (ifs : Array Nat := #[]) (fds : Array FieldInfo := #[]) : ClassFile where
  minorVersion := 0
  majorVersion := 65
  constantPool := pool
  accessFlags := fl
  thisClass := this
  superClass := sup
  interfaces := ifs
  fields := fds
  methods := ms
  attributes := attrs
def plain (name : String) (sup : Option ClassId) : Class where
  name := name
  kind := .ordinary
  loader := none
  accessFlags := 33
  super := sup
  interfaces := #[]
  cf := none
  fields := #[]
  methods := #[]
  instanceTypes := #[]
  staticTypes := #[]
  resolved := #[]
  callSites := []
  init := .initialized
  statics := none
  mirror := none

def pool0 : Array CpInfo := pool [(5, u "<init>"), (0, u "()V"), (1, .class_ 10), (1, u "java/lang/Object"), (85, u "clone"), (0, u "()Ljava/lang/Object;")] 26

def k0c0 : Code := { maxStack := 0, maxLocals := 1, code := object_method_1_code, exceptionTable := #[], attributes := #[] }
def k0m0 : Method := { name := "<init>", desc := "()V", sig := { parameters := [], returnType := none }, accessFlags := 1, code := some k0c0 }
def k0m1 : Method := { name := "clone", desc := "()Ljava/lang/Object;", sig := { parameters := [], returnType := some (.object "java/lang/Object") }, accessFlags := 260, code := none }
/-- java/lang/Object -/
def k0 : Class := { plain "java/lang/Object" none with
  accessFlags := 33
  interfaces := #[]
  cf := some (fileOf pool0 8 #[] #[{ accessFlags := 1, nameIndex := 5, descriptorIndex := 6, attributes := #[] }, { accessFlags := 260, nameIndex := 96, descriptorIndex := 97, attributes := #[] }] 33 0 #[] #[])
  fields := #[]
  methods := #[k0m0, k0m1]
  instanceTypes := #[]
  staticTypes := #[]
  resolved := Array.replicate 124 none
  statics := none }

def pool1 : Array CpInfo := pool [(2, .class_ 4), (1, u "java/lang/Object"), (0, u "<init>"), (0, u "()V"), (0, .methodref 8 9), (0, .class_ 10), (0, .nameAndType 11 12), (0, u "java/lang/String"), (0, u "length"), (0, u "()I"), (0, .methodref 8 14), (0, .nameAndType 15 16), (0, u "charAt"), (0, u "(I)C"), (0, .integer 2147483647), (0, .methodref 19 20), (0, .class_ 21), (0, .nameAndType 22 23), (0, u "com/example/void_repeat/voidrepeat/jdbc/RowState"), (0, u "of"), (0, u "(Ljava/lang/String;)Lcom/example/void_repeat/voidrepeat/jdbc/RowState;"), (0, .string 25), (0, u "in-progress"), (0, .string 27), (0, u "completed"), (0, .string 29), (0, u "failed"), (0, .string 31), (0, u ""), (0, .methodref 33 34), (0, .class_ 35), (0, .nameAndType 36 37), (0, u "java/lang/Math"), (0, u "max"), (0, u "(II)I"), (0, .methodref 39 40), (0, .class_ 41), (0, .nameAndType 42 43), (0, u "com/example/void_repeat/voidrepeat/jdbc/RowStateOfPinLaw"), (0, u "at"), (0, u "(Ljava/lang/String;III)C"), (0, .methodref 8 45), (0, .nameAndType 5 46), (0, u "([C)V"), (0, .methodref 8 48), (0, .nameAndType 49 50), (0, u "equals"), (0, u "(Ljava/lang/Object;)Z"), (0, .fieldref 19 52), (0, .nameAndType 53 54), (0, u "IN_PROGRESS"), (0, u "Lcom/example/void_repeat/voidrepeat/jdbc/RowState;"), (0, .fieldref 19 56), (0, .nameAndType 57 54), (0, u "COMPLETED"), (0, .fieldref 19 59), (0, .nameAndType 60 54), (0, u "FAILED"), (3, u "law"), (0, u "(IIII)Z")] 4

def k1m0 : Method := { name := "<init>", desc := "()V", sig := { parameters := [], returnType := none }, accessFlags := 1, code := none }
def k1c1 : Code := { maxStack := 2, maxLocals := 4, code := method_2_code, exceptionTable := #[], attributes := #[] }
def k1m1 : Method := { name := "at", desc := "(Ljava/lang/String;III)C", sig := { parameters := [(.object "java/lang/String"), .int, .int, .int], returnType := some .char }, accessFlags := 10, code := some k1c1 }
def k1c2 : Code := { maxStack := 6, maxLocals := 13, code := code, exceptionTable := #[], attributes := #[] }
def k1m2 : Method := { name := "law", desc := "(IIII)Z", sig := { parameters := [.int, .int, .int, .int], returnType := some .boolean }, accessFlags := 9, code := some k1c2 }
/-- com/example/void_repeat/voidrepeat/jdbc/RowStateOfPinLaw -/
def k1 : Class := { plain "com/example/void_repeat/voidrepeat/jdbc/RowStateOfPinLaw" (some 0) with
  accessFlags := 49
  interfaces := #[]
  cf := some (fileOf pool1 39 #[] #[{ accessFlags := 1, nameIndex := 5, descriptorIndex := 6, attributes := #[] }, { accessFlags := 10, nameIndex := 42, descriptorIndex := 43, attributes := #[] }, { accessFlags := 9, nameIndex := 64, descriptorIndex := 65, attributes := #[] }] 49 2 #[] #[])
  fields := #[]
  methods := #[k1m0, k1m1, k1m2]
  instanceTypes := #[]
  staticTypes := #[]
  resolved := Array.replicate 70 none
  statics := none }

def pool2 : Array CpInfo := pool [(1, .class_ 2), (0, u "java/io/Serializable"), (0, .class_ 4), (0, u "java/lang/Object")] 2

/-- java/io/Serializable -/
def k2 : Class := { plain "java/io/Serializable" (some 0) with
  accessFlags := 1537
  interfaces := #[]
  cf := some (fileOf pool2 1 #[] #[] 1537 3 #[] #[])
  fields := #[]
  methods := #[]
  instanceTypes := #[]
  staticTypes := #[]
  resolved := Array.replicate 7 none
  statics := none }

def pool3 : Array CpInfo := pool [(1, .class_ 2), (0, u "java/lang/Comparable"), (0, .class_ 4), (0, u "java/lang/Object")] 7

/-- java/lang/Comparable -/
def k3 : Class := { plain "java/lang/Comparable" (some 0) with
  accessFlags := 1537
  interfaces := #[]
  cf := some (fileOf pool3 1 #[] #[] 1537 3 #[] #[])
  fields := #[]
  methods := #[]
  instanceTypes := #[]
  staticTypes := #[]
  resolved := Array.replicate 12 none
  statics := none }

def pool4 : Array CpInfo := pool [(2, .class_ 4), (1, u "java/lang/CharSequence"), (42, .class_ 48), (0, u "java/lang/CharSequence$1CodePointIterator"), (10, .class_ 60), (0, u "java/lang/CharSequence$1CharIterator"), (5, .class_ 67), (0, u "java/lang/Object")] 63

/-- java/lang/CharSequence -/
def k4 : Class := { plain "java/lang/CharSequence" (some 0) with
  accessFlags := 1537
  interfaces := #[]
  cf := some (fileOf pool4 2 #[.nestMembers #[47, 59]] #[] 1537 66 #[] #[])
  fields := #[]
  methods := #[]
  instanceTypes := #[]
  staticTypes := #[]
  resolved := Array.replicate 131 none
  statics := none }

def pool5 : Array CpInfo := pool [(1, .class_ 2), (0, u "java/lang/constant/Constable"), (0, .class_ 4), (0, u "java/lang/Object")] 6

/-- java/lang/constant/Constable -/
def k5 : Class := { plain "java/lang/constant/Constable" (some 0) with
  accessFlags := 1537
  interfaces := #[]
  cf := some (fileOf pool5 1 #[] #[] 1537 3 #[] #[])
  fields := #[]
  methods := #[]
  instanceTypes := #[]
  staticTypes := #[]
  resolved := Array.replicate 11 none
  statics := none }

def pool6 : Array CpInfo := pool [(1, .class_ 2), (0, u "java/lang/constant/ConstantDesc"), (0, .class_ 4), (0, u "java/lang/Object")] 32

/-- java/lang/constant/ConstantDesc -/
def k6 : Class := { plain "java/lang/constant/ConstantDesc" (some 0) with
  accessFlags := 1537
  interfaces := #[]
  cf := some (fileOf pool6 1 #[] #[] 1537 3 #[] #[])
  fields := #[]
  methods := #[]
  instanceTypes := #[]
  staticTypes := #[]
  resolved := Array.replicate 37 none
  statics := none }

def pool7 : Array CpInfo := pool [(1, .methodref 2 3), (0, .class_ 4), (0, .nameAndType 5 6), (0, u "java/lang/Object"), (0, u "<init>"), (0, u "()V"), (0, .string 8), (0, u ""), (0, .fieldref 10 11), (0, .class_ 12), (0, .nameAndType 13 14), (0, u "java/lang/String"), (0, u "value"), (0, u "[B"), (0, .fieldref 10 16), (0, .nameAndType 17 18), (0, u "coder"), (0, u "B"), (2, u "hash"), (0, u "I"), (2, u "hashIsZero"), (0, u "Z"), (0, .methodref 10 28), (0, .nameAndType 5 29), (0, u "([CIILjava/lang/Void;)V"), (8, .fieldref 10 39), (0, .nameAndType 40 26), (0, u "COMPACT_STRINGS"), (1, .class_ 44), (1, u "java/lang/StringUTF16"), (0, u "compress"), (1, .methodref 42 48), (0, .nameAndType 49 50), (0, u "coderFromArrayLen"), (0, u "([BI)B"), (56, .class_ 109), (1, u "java/lang/StringLatin1"), (32, u "()Z"), (34, .methodref 42 178), (0, .nameAndType 45 179), (0, u "([CII)[B"), (154, u "()I"), (0, .methodref 10 336), (0, .nameAndType 17 337), (0, u "()B"), (25, u "([BI)C"), (27, u "(II)V"), (35, u "(I)C"), (64, .methodref 10 493), (0, .nameAndType 494 142), (0, u "isLatin1"), (0, .methodref 107 496), (0, .nameAndType 497 363), (0, u "charAt"), (3, u "checkIndex"), (5, u "length"), (33, .methodref 107 542), (0, .nameAndType 543 544), (0, u "equals"), (0, u "([B[B)Z"), (28, u "(Ljava/lang/Object;)Z"), (1, .class_ 576), (0, u "java/lang/CharSequence"), (22, u "CASE_INSENSITIVE_ORDER"), (0, u "Ljava/util/Comparator;"), (409, u "([C)V"), (42, .fieldref 1054 1055), (0, .class_ 1056), (0, .nameAndType 1057 1058), (0, u "jdk/internal/util/Preconditions"), (0, u "SIOOBE_FORMATTER"), (0, u "Ljava/util/function/BiFunction;"), (0, .methodref 1054 1060), (0, .nameAndType 501 1061), (0, u "(IILjava/util/function/BiFunction;)I"), (39, u "serialPersistentFields"), (0, u "[Ljava/io/ObjectStreamField;"), (0, .class_ 1104), (0, u "java/lang/String$CaseInsensitiveComparator"), (1, .class_ 1107), (0, u "java/io/Serializable"), (0, .class_ 1109), (0, u "java/lang/Comparable"), (0, .class_ 1111), (0, u "java/lang/constant/Constable"), (0, .class_ 1113), (0, u "java/lang/constant/ConstantDesc"), (2, u "serialVersionUID"), (0, u "J"), (3, u "REPL"), (0, u "C"), (2, u "LATIN1"), (1, u "UTF16")] 323

def k7m0 : Method := { name := "<init>", desc := "()V", sig := { parameters := [], returnType := none }, accessFlags := 1, code := none }
def k7c1 : Code := { maxStack := 5, maxLocals := 2, code := jdk_42_method_3_code, exceptionTable := #[], attributes := #[] }
def k7m1 : Method := { name := "<init>", desc := "([C)V", sig := { parameters := [(.array .char)], returnType := none }, accessFlags := 1, code := some k7c1 }
def k7c2 : Code := { maxStack := 2, maxLocals := 1, code := jdk_42_method_54_code, exceptionTable := #[], attributes := #[] }
def k7m2 : Method := { name := "length", desc := "()I", sig := { parameters := [], returnType := some .int }, accessFlags := 1, code := some k7c2 }
def k7c3 : Code := { maxStack := 2, maxLocals := 2, code := jdk_42_method_56_code, exceptionTable := #[], attributes := #[] }
def k7m3 : Method := { name := "charAt", desc := "(I)C", sig := { parameters := [.int], returnType := some .char }, accessFlags := 1, code := some k7c3 }
def k7c4 : Code := { maxStack := 2, maxLocals := 3, code := jdk_42_method_66_code, exceptionTable := #[], attributes := #[] }
def k7m4 : Method := { name := "equals", desc := "(Ljava/lang/Object;)Z", sig := { parameters := [(.object "java/lang/Object")], returnType := some .boolean }, accessFlags := 1, code := some k7c4 }
def k7c5 : Code := { maxStack := 4, maxLocals := 6, code := jdk_42_method_149_code, exceptionTable := #[], attributes := #[] }
def k7m5 : Method := { name := "<init>", desc := "([CIILjava/lang/Void;)V", sig := { parameters := [(.array .char), .int, .int, (.object "java/lang/Void")], returnType := none }, accessFlags := 2, code := some k7c5 }
def k7c6 : Code := { maxStack := 1, maxLocals := 1, code := jdk_42_method_152_code, exceptionTable := #[], attributes := #[] }
def k7m6 : Method := { name := "coder", desc := "()B", sig := { parameters := [], returnType := some .byte }, accessFlags := 0, code := some k7c6 }
def k7c7 : Code := { maxStack := 1, maxLocals := 1, code := jdk_42_method_154_code, exceptionTable := #[], attributes := #[] }
def k7m7 : Method := { name := "isLatin1", desc := "()Z", sig := { parameters := [], returnType := some .boolean }, accessFlags := 0, code := some k7c7 }
def k7c8 : Code := { maxStack := 3, maxLocals := 2, code := jdk_42_method_155_code, exceptionTable := #[], attributes := #[] }
def k7m8 : Method := { name := "checkIndex", desc := "(II)V", sig := { parameters := [.int, .int], returnType := none }, accessFlags := 8, code := some k7c8 }
/-- java/lang/String -/
def k7 : Class := { plain "java/lang/String" (some 0) with
  accessFlags := 49
  interfaces := #[2, 3, 4, 5, 6]
  cf := some (fileOf pool7 10 #[.nestMembers #[1103]] #[{ accessFlags := 1, nameIndex := 5, descriptorIndex := 6, attributes := #[] }, { accessFlags := 1, nameIndex := 5, descriptorIndex := 1010, attributes := #[] }, { accessFlags := 1, nameIndex := 507, descriptorIndex := 334, attributes := #[] }, { accessFlags := 1, nameIndex := 497, descriptorIndex := 427, attributes := #[] }, { accessFlags := 1, nameIndex := 543, descriptorIndex := 573, attributes := #[] }, { accessFlags := 2, nameIndex := 5, descriptorIndex := 29, attributes := #[] }, { accessFlags := 0, nameIndex := 17, descriptorIndex := 337, attributes := #[] }, { accessFlags := 0, nameIndex := 494, descriptorIndex := 142, attributes := #[] }, { accessFlags := 8, nameIndex := 501, descriptorIndex := 391, attributes := #[] }] 49 2 #[1106, 1108, 575, 1110, 1112] #[{ accessFlags := 18, nameIndex := 13, descriptorIndex := 14, attributes := #[] }, { accessFlags := 18, nameIndex := 17, descriptorIndex := 18, attributes := #[] }, { accessFlags := 2, nameIndex := 21, descriptorIndex := 22, attributes := #[] }, { accessFlags := 2, nameIndex := 25, descriptorIndex := 26, attributes := #[] }, { accessFlags := 26, nameIndex := 1116, descriptorIndex := 1117, attributes := #[] }, { accessFlags := 24, nameIndex := 40, descriptorIndex := 26, attributes := #[] }, { accessFlags := 26, nameIndex := 1101, descriptorIndex := 1102, attributes := #[] }, { accessFlags := 26, nameIndex := 1121, descriptorIndex := 1122, attributes := #[] }, { accessFlags := 25, nameIndex := 599, descriptorIndex := 600, attributes := #[] }, { accessFlags := 24, nameIndex := 1125, descriptorIndex := 18, attributes := #[] }, { accessFlags := 24, nameIndex := 1127, descriptorIndex := 18, attributes := #[] }])
  fields := #[{ name := "value", type := (.array .byte), accessFlags := 18, slot := 0, constantValue := 0 }, { name := "coder", type := .byte, accessFlags := 18, slot := 1, constantValue := 0 }, { name := "hash", type := .int, accessFlags := 2, slot := 2, constantValue := 0 }, { name := "hashIsZero", type := .boolean, accessFlags := 2, slot := 3, constantValue := 0 }, { name := "serialVersionUID", type := .long, accessFlags := 26, slot := 0, constantValue := 0 }, { name := "COMPACT_STRINGS", type := .boolean, accessFlags := 24, slot := 1, constantValue := 0 }, { name := "serialPersistentFields", type := (.array (.object "java/io/ObjectStreamField")), accessFlags := 26, slot := 2, constantValue := 0 }, { name := "REPL", type := .char, accessFlags := 26, slot := 3, constantValue := 0 }, { name := "CASE_INSENSITIVE_ORDER", type := (.object "java/util/Comparator"), accessFlags := 25, slot := 4, constantValue := 0 }, { name := "LATIN1", type := .byte, accessFlags := 24, slot := 5, constantValue := 0 }, { name := "UTF16", type := .byte, accessFlags := 24, slot := 6, constantValue := 0 }]
  methods := #[k7m0, k7m1, k7m2, k7m3, k7m4, k7m5, k7m6, k7m7, k7m8]
  instanceTypes := #[(.array .byte), .byte, .int, .boolean]
  staticTypes := #[.long, .boolean, (.array (.object "java/io/ObjectStreamField")), .char, (.object "java/util/Comparator"), .byte, .byte]
  resolved := Array.replicate 1451 none
  statics := some 0 }

def pool8 : Array CpInfo := pool [(1, .class_ 2), (0, u "java/lang/String"), (1, .class_ 6), (1, u "java/lang/Object"), (0, u "<init>"), (0, u "()V"), (0, .methodref 1 10), (0, .nameAndType 11 12), (0, u "checkIndex"), (0, u "(II)V"), (1, .class_ 16), (1, u "java/lang/StringLatin1"), (36, u "([BI)C"), (67, u "$assertionsDisabled"), (0, u "Z"), (98, .class_ 223), (1, u "java/lang/StringLatin1$LinesSpliterator"), (28, u "charAt"), (28, u "equals"), (0, u "([B[B)Z"), (107, .class_ 391), (0, u "java/lang/StringLatin1$CharsSpliterator")] 3

def k8m0 : Method := { name := "<init>", desc := "()V", sig := { parameters := [], returnType := none }, accessFlags := 0, code := none }
def k8c1 : Code := { maxStack := 2, maxLocals := 2, code := jdk_43_method_2_code, exceptionTable := #[], attributes := #[] }
def k8m1 : Method := { name := "charAt", desc := "([BI)C", sig := { parameters := [(.array .byte), .int], returnType := some .char }, accessFlags := 9, code := some k8c1 }
def k8c2 : Code := { maxStack := 3, maxLocals := 3, code := jdk_43_method_13_code, exceptionTable := #[], attributes := #[] }
def k8m2 : Method := { name := "equals", desc := "([B[B)Z", sig := { parameters := [(.array .byte), (.array .byte)], returnType := some .boolean }, accessFlags := 9, code := some k8c2 }
/-- java/lang/StringLatin1 -/
def k8 : Class := { plain "java/lang/StringLatin1" (some 0) with
  accessFlags := 48
  interfaces := #[]
  cf := some (fileOf pool8 14 #[.nestMembers #[390, 221]] #[{ accessFlags := 0, nameIndex := 7, descriptorIndex := 8, attributes := #[] }, { accessFlags := 9, nameIndex := 252, descriptorIndex := 53, attributes := #[] }, { accessFlags := 9, nameIndex := 281, descriptorIndex := 282, attributes := #[] }] 48 4 #[] #[{ accessFlags := 4120, nameIndex := 121, descriptorIndex := 122, attributes := #[] }])
  fields := #[{ name := "$assertionsDisabled", type := .boolean, accessFlags := 4120, slot := 0, constantValue := 0 }]
  methods := #[k8m0, k8m1, k8m2]
  instanceTypes := #[]
  staticTypes := #[.boolean]
  resolved := Array.replicate 395 none
  statics := none }

def pool9 : Array CpInfo := pool [(2, .class_ 4), (1, u "java/lang/Enum"), (0, u "name"), (0, u "Ljava/lang/String;"), (2, u "ordinal"), (0, u "I"), (1, .class_ 14), (1, u "java/lang/Object"), (4, u "hash"), (86, .class_ 108), (1, u "java/lang/Enum$EnumDesc"), (2, .class_ 112), (0, u "java/lang/constant/Constable"), (0, .class_ 114), (0, u "java/lang/Comparable"), (0, .class_ 116), (0, u "java/io/Serializable")] 87

/-- java/lang/Enum -/
def k9 : Class := { plain "java/lang/Enum" (some 0) with
  accessFlags := 1057
  interfaces := #[5, 3, 2]
  cf := some (fileOf pool9 2 #[.nestMembers #[106]] #[] 1057 12 #[111, 113, 115] #[{ accessFlags := 18, nameIndex := 5, descriptorIndex := 6, attributes := #[] }, { accessFlags := 18, nameIndex := 9, descriptorIndex := 10, attributes := #[] }, { accessFlags := 2, nameIndex := 19, descriptorIndex := 10, attributes := #[] }])
  fields := #[{ name := "name", type := (.object "java/lang/String"), accessFlags := 18, slot := 0, constantValue := 0 }, { name := "ordinal", type := .int, accessFlags := 18, slot := 1, constantValue := 0 }, { name := "hash", type := .int, accessFlags := 2, slot := 2, constantValue := 0 }]
  methods := #[]
  instanceTypes := #[(.object "java/lang/String"), .int, .int]
  staticTypes := #[]
  resolved := Array.replicate 204 none
  statics := none }

def pool10 : Array CpInfo := pool [(1, .class_ 2), (0, u "com/example/void_repeat/voidrepeat/jdbc/RowState"), (2, u "IN_PROGRESS"), (0, u "Lcom/example/void_repeat/voidrepeat/jdbc/RowState;"), (2, u "COMPLETED"), (2, u "FAILED"), (0, .fieldref 1 14), (0, .nameAndType 15 16), (0, u "$VALUES"), (0, u "[Lcom/example/void_repeat/voidrepeat/jdbc/RowState;"), (0, .methodref 18 19), (0, .class_ 16), (0, .nameAndType 20 21), (0, u "clone"), (0, u "()Ljava/lang/Object;"), (1, .class_ 25), (1, u "java/lang/Enum"), (6, .fieldref 1 33), (0, .nameAndType 34 35), (0, u "text"), (0, u "Ljava/lang/String;"), (4, .methodref 1 41), (0, .nameAndType 42 43), (0, u "values"), (0, u "()[Lcom/example/void_repeat/voidrepeat/jdbc/RowState;"), (0, .methodref 45 46), (0, .class_ 47), (0, .nameAndType 48 49), (0, u "java/lang/String"), (0, u "equals"), (0, u "(Ljava/lang/Object;)Z"), (37, u "(Ljava/lang/String;)Lcom/example/void_repeat/voidrepeat/jdbc/RowState;"), (3, u "of")] 21

def k10c0 : Code := { maxStack := 1, maxLocals := 0, code := prog_36_method_1_code, exceptionTable := #[], attributes := #[] }
def k10m0 : Method := { name := "values", desc := "()[Lcom/example/void_repeat/voidrepeat/jdbc/RowState;", sig := { parameters := [], returnType := some (.array (.object "com/example/void_repeat/voidrepeat/jdbc/RowState")) }, accessFlags := 9, code := some k10c0 }
def k10c1 : Code := { maxStack := 2, maxLocals := 5, code := prog_36_method_5_code, exceptionTable := #[], attributes := #[] }
def k10m1 : Method := { name := "of", desc := "(Ljava/lang/String;)Lcom/example/void_repeat/voidrepeat/jdbc/RowState;", sig := { parameters := [(.object "java/lang/String")], returnType := some (.object "com/example/void_repeat/voidrepeat/jdbc/RowState") }, accessFlags := 8, code := some k10c1 }
/-- com/example/void_repeat/voidrepeat/jdbc/RowState -/
def k10 : Class := { plain "com/example/void_repeat/voidrepeat/jdbc/RowState" (some 9) with
  accessFlags := 16432
  interfaces := #[]
  cf := some (fileOf pool10 1 #[] #[{ accessFlags := 9, nameIndex := 42, descriptorIndex := 43, attributes := #[] }, { accessFlags := 8, nameIndex := 91, descriptorIndex := 87, attributes := #[] }] 16432 23 #[] #[{ accessFlags := 16409, nameIndex := 5, descriptorIndex := 6, attributes := #[] }, { accessFlags := 16409, nameIndex := 9, descriptorIndex := 6, attributes := #[] }, { accessFlags := 16409, nameIndex := 12, descriptorIndex := 6, attributes := #[] }, { accessFlags := 18, nameIndex := 34, descriptorIndex := 35, attributes := #[] }, { accessFlags := 4122, nameIndex := 15, descriptorIndex := 16, attributes := #[] }])
  fields := #[{ name := "IN_PROGRESS", type := (.object "com/example/void_repeat/voidrepeat/jdbc/RowState"), accessFlags := 16409, slot := 0, constantValue := 0 }, { name := "COMPLETED", type := (.object "com/example/void_repeat/voidrepeat/jdbc/RowState"), accessFlags := 16409, slot := 1, constantValue := 0 }, { name := "FAILED", type := (.object "com/example/void_repeat/voidrepeat/jdbc/RowState"), accessFlags := 16409, slot := 2, constantValue := 0 }, { name := "text", type := (.object "java/lang/String"), accessFlags := 18, slot := 3, constantValue := 0 }, { name := "$VALUES", type := (.array (.object "com/example/void_repeat/voidrepeat/jdbc/RowState")), accessFlags := 4122, slot := 3, constantValue := 0 }]
  methods := #[k10m0, k10m1]
  instanceTypes := #[(.object "java/lang/String"), .int, .int, (.object "java/lang/String")]
  staticTypes := #[(.object "com/example/void_repeat/voidrepeat/jdbc/RowState"), (.object "com/example/void_repeat/voidrepeat/jdbc/RowState"), (.object "com/example/void_repeat/voidrepeat/jdbc/RowState"), (.array (.object "com/example/void_repeat/voidrepeat/jdbc/RowState"))]
  resolved := Array.replicate 113 none
  statics := some 1 }

def pool11 : Array CpInfo := pool [(1, .class_ 2), (0, u "java/lang/Cloneable"), (0, .class_ 4), (0, u "java/lang/Object")] 2

/-- java/lang/Cloneable -/
def k11 : Class := { plain "java/lang/Cloneable" (some 0) with
  accessFlags := 1537
  interfaces := #[]
  cf := some (fileOf pool11 1 #[] #[] 1537 3 #[] #[])
  fields := #[]
  methods := #[]
  instanceTypes := #[]
  staticTypes := #[]
  resolved := Array.replicate 7 none
  statics := none }

def pool12 : Array CpInfo := pool [(2, .class_ 4), (1, u "java/lang/Object"), (0, u "<init>"), (0, u "()V"), (17, .class_ 26), (1, u "jdk/internal/util/Preconditions"), (6, u "checkIndex"), (21, .class_ 56), (0, u "jdk/internal/util/Preconditions$4"), (57, .class_ 115), (0, u "jdk/internal/util/Preconditions$1"), (7, u "SIOOBE_FORMATTER"), (0, u "Ljava/util/function/BiFunction;"), (0, .class_ 126), (0, u "jdk/internal/util/Preconditions$2"), (3, u "AIOOBE_FORMATTER"), (0, .class_ 132), (0, u "jdk/internal/util/Preconditions$3"), (3, u "IOOBE_FORMATTER"), (41, u "(IILjava/util/function/BiFunction;)I")] 15

def k12m0 : Method := { name := "<init>", desc := "()V", sig := { parameters := [], returnType := none }, accessFlags := 1, code := none }
def k12c1 : Code := { maxStack := 3, maxLocals := 3, code := jdk_41_method_11_code, exceptionTable := #[], attributes := #[] }
def k12m1 : Method := { name := "checkIndex", desc := "(IILjava/util/function/BiFunction;)I", sig := { parameters := [.int, .int, (.object "java/util/function/BiFunction")], returnType := some .int }, accessFlags := 9, code := some k12c1 }
/-- jdk/internal/util/Preconditions -/
def k12 : Class := { plain "jdk/internal/util/Preconditions" (some 0) with
  accessFlags := 33
  interfaces := #[]
  cf := some (fileOf pool12 24 #[.nestMembers #[55, 131, 125, 114]] #[{ accessFlags := 1, nameIndex := 5, descriptorIndex := 6, attributes := #[] }, { accessFlags := 9, nameIndex := 33, descriptorIndex := 178, attributes := #[] }] 33 2 #[] #[{ accessFlags := 25, nameIndex := 123, descriptorIndex := 124, attributes := #[] }, { accessFlags := 25, nameIndex := 130, descriptorIndex := 124, attributes := #[] }, { accessFlags := 25, nameIndex := 136, descriptorIndex := 124, attributes := #[] }])
  fields := #[{ name := "SIOOBE_FORMATTER", type := (.object "java/util/function/BiFunction"), accessFlags := 25, slot := 0, constantValue := 0 }, { name := "AIOOBE_FORMATTER", type := (.object "java/util/function/BiFunction"), accessFlags := 25, slot := 1, constantValue := 0 }, { name := "IOOBE_FORMATTER", type := (.object "java/util/function/BiFunction"), accessFlags := 25, slot := 2, constantValue := 0 }]
  methods := #[k12m0, k12m1]
  instanceTypes := #[]
  staticTypes := #[(.object "java/util/function/BiFunction"), (.object "java/util/function/BiFunction"), (.object "java/util/function/BiFunction")]
  resolved := Array.replicate 194 none
  statics := some 2 }

def pool13 : Array CpInfo := pool [(6, .class_ 8), (1, u "java/lang/Object"), (0, u "<init>"), (0, u "()V"), (1, .class_ 14), (1, u "java/lang/StringUTF16"), (31, u "$assertionsDisabled"), (0, u "Z"), (13, u "HI_BYTE_SHIFT"), (0, u "I"), (2, u "LO_BYTE_SHIFT"), (49, .methodref 12 116), (0, .nameAndType 117 118), (0, u "compress"), (0, u "([CI[BII)I"), (3, u "([CII)[B"), (138, u "coderFromArrayLen"), (0, u "([BI)B"), (106, .class_ 371), (1, u "java/lang/StringUTF16$LinesSpliterator"), (58, u "MAX_LENGTH"), (196, .class_ 628), (0, u "java/lang/StringUTF16$CodePointsSpliterator"), (0, .class_ 630), (0, u "java/lang/StringUTF16$CharsSpliterator")] 4

def k13m0 : Method := { name := "<init>", desc := "()V", sig := { parameters := [], returnType := none }, accessFlags := 0, code := none }
def k13c1 : Code := { maxStack := 2, maxLocals := 2, code := jdk_52_method_15_code, exceptionTable := #[], attributes := #[] }
def k13m1 : Method := { name := "coderFromArrayLen", desc := "([BI)B", sig := { parameters := [(.array .byte), .int], returnType := some .byte }, accessFlags := 8, code := some k13c1 }
def k13c2 : Code := { maxStack := 5, maxLocals := 6, code := jdk_52_method_16_code, exceptionTable := #[], attributes := #[] }
def k13m2 : Method := { name := "compress", desc := "([CII)[B", sig := { parameters := [(.array .char), .int, .int], returnType := some (.array .byte) }, accessFlags := 9, code := some k13c2 }
def k13c3 : Code := { maxStack := 3, maxLocals := 7, code := jdk_52_method_21_code, exceptionTable := #[], attributes := #[] }
def k13m3 : Method := { name := "compress", desc := "([CI[BII)I", sig := { parameters := [(.array .char), .int, (.array .byte), .int, .int], returnType := some .int }, accessFlags := 9, code := some k13c3 }
/-- java/lang/StringUTF16 -/
def k13 : Class := { plain "java/lang/StringUTF16" (some 0) with
  accessFlags := 48
  interfaces := #[]
  cf := some (fileOf pool13 12 #[.nestMembers #[627, 629, 369]] #[{ accessFlags := 0, nameIndex := 9, descriptorIndex := 10, attributes := #[] }, { accessFlags := 8, nameIndex := 261, descriptorIndex := 262, attributes := #[] }, { accessFlags := 9, nameIndex := 117, descriptorIndex := 122, attributes := #[] }, { accessFlags := 9, nameIndex := 117, descriptorIndex := 118, attributes := #[] }] 48 6 #[] #[{ accessFlags := 26, nameIndex := 61, descriptorIndex := 62, attributes := #[] }, { accessFlags := 26, nameIndex := 65, descriptorIndex := 62, attributes := #[] }, { accessFlags := 24, nameIndex := 430, descriptorIndex := 62, attributes := #[] }, { accessFlags := 4120, nameIndex := 46, descriptorIndex := 47, attributes := #[] }])
  fields := #[{ name := "HI_BYTE_SHIFT", type := .int, accessFlags := 26, slot := 0, constantValue := 0 }, { name := "LO_BYTE_SHIFT", type := .int, accessFlags := 26, slot := 1, constantValue := 0 }, { name := "MAX_LENGTH", type := .int, accessFlags := 24, slot := 2, constantValue := 0 }, { name := "$assertionsDisabled", type := .boolean, accessFlags := 4120, slot := 3, constantValue := 0 }]
  methods := #[k13m0, k13m1, k13m2, k13m3]
  instanceTypes := #[]
  staticTypes := #[.int, .int, .int, .boolean]
  resolved := Array.replicate 635 none
  statics := none }

def pool14 : Array CpInfo := pool [(1, .class_ 2), (0, u "java/lang/Math"), (1, .class_ 6), (1, u "java/lang/Object"), (0, u "<init>"), (0, u "()V"), (89, .class_ 100), (1, u "java/lang/Math$RandomNumberGeneratorHolder"), (71, u "negativeZeroFloatBits"), (0, u "J"), (2, u "negativeZeroDoubleBits"), (21, u "max"), (46, u "$assertionsDisabled"), (0, u "Z"), (88, u "(II)I"), (2, u "twoToTheDoubleScaleDown"), (0, u "D"), (4, u "twoToTheDoubleScaleUp"), (9, u "E"), (3, u "PI"), (2, u "TAU"), (2, u "DEGREES_TO_RADIANS"), (0, u "RADIANS_TO_DEGREES")] 94

def k14m0 : Method := { name := "<init>", desc := "()V", sig := { parameters := [], returnType := none }, accessFlags := 2, code := none }
def k14c1 : Code := { maxStack := 2, maxLocals := 2, code := jdk_29_method_65_code, exceptionTable := #[], attributes := #[] }
def k14m1 : Method := { name := "max", desc := "(II)I", sig := { parameters := [.int, .int], returnType := some .int }, accessFlags := 9, code := some k14c1 }
/-- java/lang/Math -/
def k14 : Class := { plain "java/lang/Math" (some 0) with
  accessFlags := 49
  interfaces := #[]
  cf := some (fileOf pool14 1 #[.nestMembers #[98]] #[{ accessFlags := 2, nameIndex := 7, descriptorIndex := 8, attributes := #[] }, { accessFlags := 9, nameIndex := 198, descriptorIndex := 335, attributes := #[] }] 49 4 #[] #[{ accessFlags := 25, nameIndex := 354, descriptorIndex := 339, attributes := #[] }, { accessFlags := 25, nameIndex := 358, descriptorIndex := 339, attributes := #[] }, { accessFlags := 25, nameIndex := 361, descriptorIndex := 339, attributes := #[] }, { accessFlags := 26, nameIndex := 364, descriptorIndex := 339, attributes := #[] }, { accessFlags := 26, nameIndex := 365, descriptorIndex := 339, attributes := #[] }, { accessFlags := 26, nameIndex := 172, descriptorIndex := 173, attributes := #[] }, { accessFlags := 26, nameIndex := 176, descriptorIndex := 173, attributes := #[] }, { accessFlags := 8, nameIndex := 344, descriptorIndex := 339, attributes := #[] }, { accessFlags := 8, nameIndex := 338, descriptorIndex := 339, attributes := #[] }, { accessFlags := 4120, nameIndex := 245, descriptorIndex := 246, attributes := #[] }])
  fields := #[{ name := "E", type := .double, accessFlags := 25, slot := 0, constantValue := 0 }, { name := "PI", type := .double, accessFlags := 25, slot := 1, constantValue := 0 }, { name := "TAU", type := .double, accessFlags := 25, slot := 2, constantValue := 0 }, { name := "DEGREES_TO_RADIANS", type := .double, accessFlags := 26, slot := 3, constantValue := 0 }, { name := "RADIANS_TO_DEGREES", type := .double, accessFlags := 26, slot := 4, constantValue := 0 }, { name := "negativeZeroFloatBits", type := .long, accessFlags := 26, slot := 5, constantValue := 0 }, { name := "negativeZeroDoubleBits", type := .long, accessFlags := 26, slot := 6, constantValue := 0 }, { name := "twoToTheDoubleScaleUp", type := .double, accessFlags := 8, slot := 7, constantValue := 0 }, { name := "twoToTheDoubleScaleDown", type := .double, accessFlags := 8, slot := 8, constantValue := 0 }, { name := "$assertionsDisabled", type := .boolean, accessFlags := 4120, slot := 9, constantValue := 0 }]
  methods := #[k14m0, k14m1]
  instanceTypes := #[]
  staticTypes := #[.double, .double, .double, .double, .double, .long, .long, .double, .double, .boolean]
  resolved := Array.replicate 460 none
  statics := none }

def pool15 : Array CpInfo := pool [(9, u "<init>"), (6, .class_ 18), (1, u "java/lang/Object"), (0, u "()V"), (1, .class_ 23), (1, u "jdk/internal/util/ArraysSupport"), (0, u "LOG2_ARRAY_LONG_INDEX_SCALE"), (0, u "I"), (2, u "U"), (0, u "Ljdk/internal/misc/Unsafe;"), (8, u "BIG_ENDIAN"), (0, u "Z"), (8, u "LOG2_BYTE_BIT_SIZE"), (4, u "LOG2_ARRAY_INT_INDEX_SCALE"), (54, u "JLA"), (0, u "Ljdk/internal/access/JavaLangAccess;"), (11, u "LOG2_ARRAY_BOOLEAN_INDEX_SCALE"), (9, u "LOG2_ARRAY_BYTE_INDEX_SCALE"), (5, u "LOG2_ARRAY_CHAR_INDEX_SCALE"), (5, u "LOG2_ARRAY_SHORT_INDEX_SCALE"), (18, u "LOG2_ARRAY_FLOAT_INDEX_SCALE"), (24, u "LOG2_ARRAY_DOUBLE_INDEX_SCALE"), (89, u "T_BOOLEAN"), (2, u "T_CHAR"), (1, u "T_FLOAT"), (1, u "T_DOUBLE"), (1, u "T_BYTE"), (1, u "T_SHORT"), (1, u "T_INT"), (1, u "T_LONG"), (1, u "SOFT_MAX_ARRAY_LENGTH")] 83

def k15m0 : Method := { name := "<init>", desc := "()V", sig := { parameters := [], returnType := none }, accessFlags := 2, code := none }
/-- jdk/internal/util/ArraysSupport -/
def k15 : Class := { plain "jdk/internal/util/ArraysSupport" (some 0) with
  accessFlags := 33
  interfaces := #[]
  cf := some (fileOf pool15 21 #[] #[{ accessFlags := 2, nameIndex := 9, descriptorIndex := 19, attributes := #[] }] 33 16 #[] #[{ accessFlags := 24, nameIndex := 28, descriptorIndex := 29, attributes := #[] }, { accessFlags := 26, nameIndex := 38, descriptorIndex := 39, attributes := #[] }, { accessFlags := 25, nameIndex := 121, descriptorIndex := 25, attributes := #[] }, { accessFlags := 25, nameIndex := 131, descriptorIndex := 25, attributes := #[] }, { accessFlags := 25, nameIndex := 137, descriptorIndex := 25, attributes := #[] }, { accessFlags := 25, nameIndex := 143, descriptorIndex := 25, attributes := #[] }, { accessFlags := 25, nameIndex := 53, descriptorIndex := 25, attributes := #[] }, { accessFlags := 25, nameIndex := 24, descriptorIndex := 25, attributes := #[] }, { accessFlags := 25, nameIndex := 162, descriptorIndex := 25, attributes := #[] }, { accessFlags := 25, nameIndex := 187, descriptorIndex := 25, attributes := #[] }, { accessFlags := 26, nameIndex := 48, descriptorIndex := 25, attributes := #[] }, { accessFlags := 25, nameIndex := 277, descriptorIndex := 25, attributes := #[] }, { accessFlags := 25, nameIndex := 280, descriptorIndex := 25, attributes := #[] }, { accessFlags := 25, nameIndex := 282, descriptorIndex := 25, attributes := #[] }, { accessFlags := 25, nameIndex := 284, descriptorIndex := 25, attributes := #[] }, { accessFlags := 25, nameIndex := 286, descriptorIndex := 25, attributes := #[] }, { accessFlags := 25, nameIndex := 288, descriptorIndex := 25, attributes := #[] }, { accessFlags := 25, nameIndex := 290, descriptorIndex := 25, attributes := #[] }, { accessFlags := 25, nameIndex := 292, descriptorIndex := 25, attributes := #[] }, { accessFlags := 26, nameIndex := 108, descriptorIndex := 109, attributes := #[] }, { accessFlags := 25, nameIndex := 294, descriptorIndex := 25, attributes := #[] }])
  fields := #[{ name := "U", type := (.object "jdk/internal/misc/Unsafe"), accessFlags := 24, slot := 0, constantValue := 0 }, { name := "BIG_ENDIAN", type := .boolean, accessFlags := 26, slot := 1, constantValue := 0 }, { name := "LOG2_ARRAY_BOOLEAN_INDEX_SCALE", type := .int, accessFlags := 25, slot := 2, constantValue := 0 }, { name := "LOG2_ARRAY_BYTE_INDEX_SCALE", type := .int, accessFlags := 25, slot := 3, constantValue := 0 }, { name := "LOG2_ARRAY_CHAR_INDEX_SCALE", type := .int, accessFlags := 25, slot := 4, constantValue := 0 }, { name := "LOG2_ARRAY_SHORT_INDEX_SCALE", type := .int, accessFlags := 25, slot := 5, constantValue := 0 }, { name := "LOG2_ARRAY_INT_INDEX_SCALE", type := .int, accessFlags := 25, slot := 6, constantValue := 0 }, { name := "LOG2_ARRAY_LONG_INDEX_SCALE", type := .int, accessFlags := 25, slot := 7, constantValue := 0 }, { name := "LOG2_ARRAY_FLOAT_INDEX_SCALE", type := .int, accessFlags := 25, slot := 8, constantValue := 0 }, { name := "LOG2_ARRAY_DOUBLE_INDEX_SCALE", type := .int, accessFlags := 25, slot := 9, constantValue := 0 }, { name := "LOG2_BYTE_BIT_SIZE", type := .int, accessFlags := 26, slot := 10, constantValue := 0 }, { name := "T_BOOLEAN", type := .int, accessFlags := 25, slot := 11, constantValue := 0 }, { name := "T_CHAR", type := .int, accessFlags := 25, slot := 12, constantValue := 0 }, { name := "T_FLOAT", type := .int, accessFlags := 25, slot := 13, constantValue := 0 }, { name := "T_DOUBLE", type := .int, accessFlags := 25, slot := 14, constantValue := 0 }, { name := "T_BYTE", type := .int, accessFlags := 25, slot := 15, constantValue := 0 }, { name := "T_SHORT", type := .int, accessFlags := 25, slot := 16, constantValue := 0 }, { name := "T_INT", type := .int, accessFlags := 25, slot := 17, constantValue := 0 }, { name := "T_LONG", type := .int, accessFlags := 25, slot := 18, constantValue := 0 }, { name := "JLA", type := (.object "jdk/internal/access/JavaLangAccess"), accessFlags := 26, slot := 19, constantValue := 0 }, { name := "SOFT_MAX_ARRAY_LENGTH", type := .int, accessFlags := 25, slot := 20, constantValue := 0 }]
  methods := #[k15m0]
  instanceTypes := #[]
  staticTypes := #[(.object "jdk/internal/misc/Unsafe"), .boolean, .int, .int, .int, .int, .int, .int, .int, .int, .int, .int, .int, .int, .int, .int, .int, .int, .int, (.object "jdk/internal/access/JavaLangAccess"), .int]
  resolved := Array.replicate 378 none
  statics := none }

/-- the primitive byte -/
def k16 : Class := { plain "byte" none with kind := .primitive 'B', accessFlags := 0x411 }
/-- [B -/
def k17 : Class := { plain "[B" (some 0) with kind := .array 16 .byte, interfaces := #[11, 2], accessFlags := 1041 }

/-- the primitive char -/
def k18 : Class := { plain "char" none with kind := .primitive 'C', accessFlags := 0x411 }
/-- [C -/
def k19 : Class := { plain "[C" (some 0) with kind := .array 18 .char, interfaces := #[11, 2], accessFlags := 1041 }

/-- the primitive int -/
def k20 : Class := { plain "int" none with kind := .primitive 'I', accessFlags := 0x411 }
/-- [I -/
def k21 : Class := { plain "[I" (some 0) with kind := .array 20 .int, interfaces := #[11, 2], accessFlags := 1041 }

/-- [Lcom/example/void_repeat/voidrepeat/jdbc/RowState; -/
def k22 : Class := { plain "[Lcom/example/void_repeat/voidrepeat/jdbc/RowState;" (some 0) with kind := .array 10 (.object "com/example/void_repeat/voidrepeat/jdbc/RowState"), interfaces := #[11, 2], accessFlags := 1041 }

def heap : Heap := #[{ cls := 7, slots := #[.long 0, .int 1, .null, .int 0, .null, .int 0, .int 0], vm := .statics 7 },
  { cls := 10, slots := #[.ref 4, .ref 5, .ref 6, .ref 3], vm := .statics 10 },
  { cls := 12, slots := #[.null, .null, .null], vm := .statics 12 },
  { cls := 22, slots := #[.ref 4, .ref 5, .ref 6], vm := .none },
  { cls := 10, slots := #[.null, .int 0, .int 0, .ref 7], vm := .none },
  { cls := 10, slots := #[.null, .int 0, .int 0, .ref 9], vm := .none },
  { cls := 10, slots := #[.null, .int 0, .int 0, .ref 11], vm := .none },
  { cls := 7, slots := #[.ref 8, .int 0, .int 0, .int 0], vm := .none },
  { cls := 17, slots := #[.int 105, .int 110, .int 45, .int 112, .int 114, .int 111, .int 103, .int 114, .int 101, .int 115, .int 115], vm := .none },
  { cls := 7, slots := #[.ref 10, .int 0, .int 0, .int 0], vm := .none },
  { cls := 17, slots := #[.int 99, .int 111, .int 109, .int 112, .int 108, .int 101, .int 116, .int 101, .int 100], vm := .none },
  { cls := 7, slots := #[.ref 12, .int 0, .int 0, .int 0], vm := .none },
  { cls := 17, slots := #[.int 102, .int 97, .int 105, .int 108, .int 101, .int 100], vm := .none }]
def classes : Array Class := #[k0, k1, k2, k3, k4, k5, k6, k7, k8, k9, k10, k11, k12, k13, k14, k15, k16, k17, k18, k19, k20, k21, k22]
def interned : List (Array UInt16 × Addr) := []
def slotsUsed : Nat := 67
def theMethod : MethodId := ⟨1, 2⟩
def args0 : Array Value := #[.int 5, .int 6, .int 7, .int 8]
def aboutOver (below : List Frame) : State where
  vm := { classes := classes, interned := interned.toArray }
  heap := heap
  slotsUsed := slotsUsed
  threads := #[{ frames := .invoking theMethod args0 :: below }]
def below0 : List Frame := [.native { method := ⟨0, 0⟩, args := #[] }]
def about1 : State := aboutOver below0
def p0 : Program := .bare "" "" ""
def e0 : Env := launch0.env 0 0 0
theorem w_frames : about1.frames = Frame.invoking theMethod args0 :: below0 := rfl
set_option maxRecDepth 65536 in
theorem w_args : argsFit about1.vm theMethod args0 = true := by decide +kernel
set_option maxRecDepth 65536 in
theorem w_heap : heapFits about1 = true := by decide +kernel
set_option maxRecDepth 65536 in
theorem w_runnable : about1.curStatus? = some .runnable := by decide +kernel
set_option maxRecDepth 65536 in
theorem w_alone : about1.alone = true := by decide +kernel
set_option maxRecDepth 65536 in
theorem w_named : about1.methodNamed? x = some theMethod := by decide +kernel
set_option maxRecDepth 65536 in
theorem w_hears : about1.hears theMethod below0 = true := by decide +kernel
set_option maxRecDepth 65536 in
theorem w_ripe : about1.ripe theMethod args0 below0 = true := by decide +kernel
theorem w_running : about1.status = .running := rfl
set_option maxRecDepth 65536 in
theorem w_room : about1.hasRoom e0.platform room_1 = true :=
  launch0.hasRoom_least _ room_1 (by decide +kernel) (by decide +kernel) (by decide +kernel) (by decide +kernel) (by decide +kernel) (by decide +kernel)
theorem allAtoms_all (ts : List Jvm.Cond) (a : Array Jvm.Value) (st : Jvm.State) : (allAtoms ts).before a st = ts.all (fun c => c.before a st) := by
  induction ts with
  | nil => rfl
  | cons c t ih =>
    show (Jvm.Cond.and c (allAtoms t)).before a st = _
    rw [Jvm.Cond.before_and, ih, List.all_cons]
def words1 : List Jvm.Cond := Jvm.Cond.code x code maxLocals ret :: tables_1
/-- a 'code' word, met by the world's own term for the bytes: nothing is compared byte by byte -/
theorem code_word {y : MethodName} {bytes : ByteArray} {mx : Nat} {rt : Option FieldType} {a : Array Value} {s : State} {m : MethodId} {meth : Method} {c : Code} (h1 : s.methodNamed? y = some m) (h2 : s.vm.method? m = some meth) (h3 : meth.code = some c) (h4 : c.code = bytes)
    (h5 : (c.maxLocals == mx && c.exceptionTable.isEmpty && decide (c.maxStack ≤ mostOperands) && decide (meth.sig.returnType = rt) && !meth.locks && decide (parseMethodDescriptor y.desc = some meth.sig)) = true) : (Jvm.Cond.code y bytes mx rt).before a s = true := by
  simp only [Bool.and_eq_true, beq_iff_eq, Bool.not_eq_true', decide_eq_true_eq] at h5
  obtain ⟨⟨⟨⟨⟨g1, g2⟩, g3⟩, g4⟩, g5⟩, g6⟩ := h5
  simp [Cond.before, Cond.holds, Cond.value, h1, h2, h3, h4, g1, g2, g3, g4, g5, g6]
def isCode : Jvm.Cond → Bool
  | .code _ _ _ _ => true
  | _ => false
theorem all_split {L : List Jvm.Cond} {P : Jvm.Cond → Bool} (h1 : L.all (fun c => isCode c || P c) = true) (h2 : ∀ c ∈ L.filter isCode, P c = true) : L.all P = true := by
  refine List.all_eq_true.mpr fun c hc => ?_
  have h := List.all_eq_true.mp h1 c hc
  rcases Bool.eq_false_or_eq_true (isCode c) with hi | hi
  · exact h2 c (List.mem_filter.mpr ⟨hc, hi⟩)
  · simpa [hi] using h
set_option maxRecDepth 65536 in
theorem w_c0 : (Jvm.Cond.code x code maxLocals ret).before args0 about1 = true := code_word (m := ⟨1, 2⟩) (meth := k1m2) (c := k1c2) (by decide +kernel) rfl rfl rfl (by decide +kernel)
set_option maxRecDepth 65536 in
theorem w_c1 : (Jvm.Cond.code ({ cls := "java/lang/String", name := "length", desc := "()I" } : Jvm.MethodName) jdk_42_method_54_code (1 : Nat) (Option.some Jvm.ClassFile.FieldType.int)).before args0 about1 = true := code_word (m := ⟨7, 2⟩) (meth := k7m2) (c := k7c2) (by decide +kernel) rfl rfl rfl (by decide +kernel)
set_option maxRecDepth 65536 in
theorem w_c2 : (Jvm.Cond.code ({ cls := "java/lang/String", name := "coder", desc := "()B" } : Jvm.MethodName) jdk_42_method_152_code (1 : Nat) (Option.some Jvm.ClassFile.FieldType.byte)).before args0 about1 = true := code_word (m := ⟨7, 6⟩) (meth := k7m6) (c := k7c6) (by decide +kernel) rfl rfl rfl (by decide +kernel)
set_option maxRecDepth 65536 in
theorem w_c3 : (Jvm.Cond.code ({ cls := "java/lang/String", name := "<init>", desc := "([C)V" } : Jvm.MethodName) jdk_42_method_3_code (2 : Nat) (Option.none : Option Jvm.ClassFile.FieldType)).before args0 about1 = true := code_word (m := ⟨7, 1⟩) (meth := k7m1) (c := k7c1) (by decide +kernel) rfl rfl rfl (by decide +kernel)
set_option maxRecDepth 65536 in
theorem w_c4 : (Jvm.Cond.code ({ cls := "java/lang/String", name := "<init>", desc := "([CIILjava/lang/Void;)V" } : Jvm.MethodName) jdk_42_method_149_code (6 : Nat) (Option.none : Option Jvm.ClassFile.FieldType)).before args0 about1 = true := code_word (m := ⟨7, 5⟩) (meth := k7m5) (c := k7c5) (by decide +kernel) rfl rfl rfl (by decide +kernel)
set_option maxRecDepth 65536 in
theorem w_c5 : (Jvm.Cond.code ({ cls := "java/lang/Object", name := "<init>", desc := "()V" } : Jvm.MethodName) object_method_1_code (1 : Nat) (Option.none : Option Jvm.ClassFile.FieldType)).before args0 about1 = true := code_word (m := ⟨0, 0⟩) (meth := k0m0) (c := k0c0) (by decide +kernel) rfl rfl rfl (by decide +kernel)
set_option maxRecDepth 65536 in
theorem w_c6 : (Jvm.Cond.code ({ cls := "java/lang/String", name := "equals", desc := "(Ljava/lang/Object;)Z" } : Jvm.MethodName) jdk_42_method_66_code (3 : Nat) (Option.some Jvm.ClassFile.FieldType.boolean)).before args0 about1 = true := code_word (m := ⟨7, 4⟩) (meth := k7m4) (c := k7c4) (by decide +kernel) rfl rfl rfl (by decide +kernel)
set_option maxRecDepth 65536 in
theorem w_c7 : (Jvm.Cond.code ({ cls := "java/lang/StringLatin1", name := "equals", desc := "([B[B)Z" } : Jvm.MethodName) jdk_43_method_13_code (3 : Nat) (Option.some Jvm.ClassFile.FieldType.boolean)).before args0 about1 = true := code_word (m := ⟨8, 2⟩) (meth := k8m2) (c := k8c2) (by decide +kernel) rfl rfl rfl (by decide +kernel)
set_option maxRecDepth 65536 in
theorem w_c8 : (Jvm.Cond.code ({ cls := "com/example/void_repeat/voidrepeat/jdbc/RowState", name := "of", desc := "(Ljava/lang/String;)Lcom/example/void_repeat/voidrepeat/jdbc/RowState;" } : Jvm.MethodName) prog_36_method_5_code (5 : Nat) (Option.some (Jvm.ClassFile.FieldType.object "com/example/void_repeat/voidrepeat/jdbc/RowState"))).before args0 about1 = true := code_word (m := ⟨10, 1⟩) (meth := k10m1) (c := k10c1) (by decide +kernel) rfl rfl rfl (by decide +kernel)
set_option maxRecDepth 65536 in
theorem w_c9 : (Jvm.Cond.code ({ cls := "com/example/void_repeat/voidrepeat/jdbc/RowState", name := "values", desc := "()[Lcom/example/void_repeat/voidrepeat/jdbc/RowState;" } : Jvm.MethodName) prog_36_method_1_code (0 : Nat) (Option.some (Jvm.ClassFile.FieldType.array (Jvm.ClassFile.FieldType.object "com/example/void_repeat/voidrepeat/jdbc/RowState")))).before args0 about1 = true := code_word (m := ⟨10, 0⟩) (meth := k10m0) (c := k10c0) (by decide +kernel) rfl rfl rfl (by decide +kernel)
set_option maxRecDepth 65536 in
theorem w_c10 : (Jvm.Cond.code ({ cls := "com/example/void_repeat/voidrepeat/jdbc/RowStateOfPinLaw", name := "at", desc := "(Ljava/lang/String;III)C" } : Jvm.MethodName) method_2_code (4 : Nat) (Option.some Jvm.ClassFile.FieldType.char)).before args0 about1 = true := code_word (m := ⟨1, 1⟩) (meth := k1m1) (c := k1c1) (by decide +kernel) rfl rfl rfl (by decide +kernel)
set_option maxRecDepth 65536 in
theorem w_c11 : (Jvm.Cond.code ({ cls := "java/lang/String", name := "charAt", desc := "(I)C" } : Jvm.MethodName) jdk_42_method_56_code (2 : Nat) (Option.some Jvm.ClassFile.FieldType.char)).before args0 about1 = true := code_word (m := ⟨7, 3⟩) (meth := k7m3) (c := k7c3) (by decide +kernel) rfl rfl rfl (by decide +kernel)
set_option maxRecDepth 65536 in
theorem w_c12 : (Jvm.Cond.code ({ cls := "java/lang/String", name := "isLatin1", desc := "()Z" } : Jvm.MethodName) jdk_42_method_154_code (1 : Nat) (Option.some Jvm.ClassFile.FieldType.boolean)).before args0 about1 = true := code_word (m := ⟨7, 7⟩) (meth := k7m7) (c := k7c7) (by decide +kernel) rfl rfl rfl (by decide +kernel)
set_option maxRecDepth 65536 in
theorem w_c13 : (Jvm.Cond.code ({ cls := "java/lang/StringLatin1", name := "charAt", desc := "([BI)C" } : Jvm.MethodName) jdk_43_method_2_code (2 : Nat) (Option.some Jvm.ClassFile.FieldType.char)).before args0 about1 = true := code_word (m := ⟨8, 1⟩) (meth := k8m1) (c := k8c1) (by decide +kernel) rfl rfl rfl (by decide +kernel)
set_option maxRecDepth 65536 in
theorem w_c14 : (Jvm.Cond.code ({ cls := "java/lang/String", name := "checkIndex", desc := "(II)V" } : Jvm.MethodName) jdk_42_method_155_code (2 : Nat) (Option.none : Option Jvm.ClassFile.FieldType)).before args0 about1 = true := code_word (m := ⟨7, 8⟩) (meth := k7m8) (c := k7c8) (by decide +kernel) rfl rfl rfl (by decide +kernel)
set_option maxRecDepth 65536 in
theorem w_c15 : (Jvm.Cond.code ({ cls := "jdk/internal/util/Preconditions", name := "checkIndex", desc := "(IILjava/util/function/BiFunction;)I" } : Jvm.MethodName) jdk_41_method_11_code (3 : Nat) (Option.some Jvm.ClassFile.FieldType.int)).before args0 about1 = true := code_word (m := ⟨12, 1⟩) (meth := k12m1) (c := k12c1) (by decide +kernel) rfl rfl rfl (by decide +kernel)
set_option maxRecDepth 65536 in
theorem w_c16 : (Jvm.Cond.code ({ cls := "java/lang/StringUTF16", name := "compress", desc := "([CII)[B" } : Jvm.MethodName) jdk_52_method_16_code (6 : Nat) (Option.some (Jvm.ClassFile.FieldType.array Jvm.ClassFile.FieldType.byte))).before args0 about1 = true := code_word (m := ⟨13, 2⟩) (meth := k13m2) (c := k13c2) (by decide +kernel) rfl rfl rfl (by decide +kernel)
set_option maxRecDepth 65536 in
theorem w_c17 : (Jvm.Cond.code ({ cls := "java/lang/StringUTF16", name := "compress", desc := "([CI[BII)I" } : Jvm.MethodName) jdk_52_method_21_code (7 : Nat) (Option.some Jvm.ClassFile.FieldType.int)).before args0 about1 = true := code_word (m := ⟨13, 3⟩) (meth := k13m3) (c := k13c3) (by decide +kernel) rfl rfl rfl (by decide +kernel)
set_option maxRecDepth 65536 in
theorem w_c18 : (Jvm.Cond.code ({ cls := "java/lang/StringUTF16", name := "coderFromArrayLen", desc := "([BI)B" } : Jvm.MethodName) jdk_52_method_15_code (2 : Nat) (Option.some Jvm.ClassFile.FieldType.byte)).before args0 about1 = true := code_word (m := ⟨13, 1⟩) (meth := k13m1) (c := k13c1) (by decide +kernel) rfl rfl rfl (by decide +kernel)
set_option maxRecDepth 65536 in
theorem w_c19 : (Jvm.Cond.code ({ cls := "java/lang/Math", name := "max", desc := "(II)I" } : Jvm.MethodName) jdk_29_method_65_code (2 : Nat) (Option.some Jvm.ClassFile.FieldType.int)).before args0 about1 = true := code_word (m := ⟨14, 1⟩) (meth := k14m1) (c := k14c1) (by decide +kernel) rfl rfl rfl (by decide +kernel)
def codes1 : List Jvm.Cond := [Jvm.Cond.code x code maxLocals ret, Jvm.Cond.code ({ cls := "java/lang/String", name := "length", desc := "()I" } : Jvm.MethodName) jdk_42_method_54_code (1 : Nat) (Option.some Jvm.ClassFile.FieldType.int), Jvm.Cond.code ({ cls := "java/lang/String", name := "coder", desc := "()B" } : Jvm.MethodName) jdk_42_method_152_code (1 : Nat) (Option.some Jvm.ClassFile.FieldType.byte), Jvm.Cond.code ({ cls := "java/lang/String", name := "<init>", desc := "([C)V" } : Jvm.MethodName) jdk_42_method_3_code (2 : Nat) (Option.none : Option Jvm.ClassFile.FieldType), Jvm.Cond.code ({ cls := "java/lang/String", name := "<init>", desc := "([CIILjava/lang/Void;)V" } : Jvm.MethodName) jdk_42_method_149_code (6 : Nat) (Option.none : Option Jvm.ClassFile.FieldType), Jvm.Cond.code ({ cls := "java/lang/Object", name := "<init>", desc := "()V" } : Jvm.MethodName) object_method_1_code (1 : Nat) (Option.none : Option Jvm.ClassFile.FieldType), Jvm.Cond.code ({ cls := "java/lang/String", name := "equals", desc := "(Ljava/lang/Object;)Z" } : Jvm.MethodName) jdk_42_method_66_code (3 : Nat) (Option.some Jvm.ClassFile.FieldType.boolean), Jvm.Cond.code ({ cls := "java/lang/StringLatin1", name := "equals", desc := "([B[B)Z" } : Jvm.MethodName) jdk_43_method_13_code (3 : Nat) (Option.some Jvm.ClassFile.FieldType.boolean), Jvm.Cond.code ({ cls := "com/example/void_repeat/voidrepeat/jdbc/RowState", name := "of", desc := "(Ljava/lang/String;)Lcom/example/void_repeat/voidrepeat/jdbc/RowState;" } : Jvm.MethodName) prog_36_method_5_code (5 : Nat) (Option.some (Jvm.ClassFile.FieldType.object "com/example/void_repeat/voidrepeat/jdbc/RowState")), Jvm.Cond.code ({ cls := "com/example/void_repeat/voidrepeat/jdbc/RowState", name := "values", desc := "()[Lcom/example/void_repeat/voidrepeat/jdbc/RowState;" } : Jvm.MethodName) prog_36_method_1_code (0 : Nat) (Option.some (Jvm.ClassFile.FieldType.array (Jvm.ClassFile.FieldType.object "com/example/void_repeat/voidrepeat/jdbc/RowState"))), Jvm.Cond.code ({ cls := "com/example/void_repeat/voidrepeat/jdbc/RowStateOfPinLaw", name := "at", desc := "(Ljava/lang/String;III)C" } : Jvm.MethodName) method_2_code (4 : Nat) (Option.some Jvm.ClassFile.FieldType.char), Jvm.Cond.code ({ cls := "java/lang/String", name := "charAt", desc := "(I)C" } : Jvm.MethodName) jdk_42_method_56_code (2 : Nat) (Option.some Jvm.ClassFile.FieldType.char), Jvm.Cond.code ({ cls := "java/lang/String", name := "isLatin1", desc := "()Z" } : Jvm.MethodName) jdk_42_method_154_code (1 : Nat) (Option.some Jvm.ClassFile.FieldType.boolean), Jvm.Cond.code ({ cls := "java/lang/StringLatin1", name := "charAt", desc := "([BI)C" } : Jvm.MethodName) jdk_43_method_2_code (2 : Nat) (Option.some Jvm.ClassFile.FieldType.char), Jvm.Cond.code ({ cls := "java/lang/String", name := "checkIndex", desc := "(II)V" } : Jvm.MethodName) jdk_42_method_155_code (2 : Nat) (Option.none : Option Jvm.ClassFile.FieldType), Jvm.Cond.code ({ cls := "jdk/internal/util/Preconditions", name := "checkIndex", desc := "(IILjava/util/function/BiFunction;)I" } : Jvm.MethodName) jdk_41_method_11_code (3 : Nat) (Option.some Jvm.ClassFile.FieldType.int), Jvm.Cond.code ({ cls := "java/lang/StringUTF16", name := "compress", desc := "([CII)[B" } : Jvm.MethodName) jdk_52_method_16_code (6 : Nat) (Option.some (Jvm.ClassFile.FieldType.array Jvm.ClassFile.FieldType.byte)), Jvm.Cond.code ({ cls := "java/lang/StringUTF16", name := "compress", desc := "([CI[BII)I" } : Jvm.MethodName) jdk_52_method_21_code (7 : Nat) (Option.some Jvm.ClassFile.FieldType.int), Jvm.Cond.code ({ cls := "java/lang/StringUTF16", name := "coderFromArrayLen", desc := "([BI)B" } : Jvm.MethodName) jdk_52_method_15_code (2 : Nat) (Option.some Jvm.ClassFile.FieldType.byte), Jvm.Cond.code ({ cls := "java/lang/Math", name := "max", desc := "(II)I" } : Jvm.MethodName) jdk_29_method_65_code (2 : Nat) (Option.some Jvm.ClassFile.FieldType.int)]
set_option maxRecDepth 65536 in
theorem codes_eq : words1.filter isCode = codes1 := rfl
theorem w_codes : ∀ c ∈ words1.filter isCode, c.before args0 about1 = true := by
  rw [codes_eq]
  intro c hc
  simp only [codes1, List.mem_cons, List.not_mem_nil, or_false] at hc
  rcases hc with rfl | rfl | rfl | rfl | rfl | rfl | rfl | rfl | rfl | rfl | rfl | rfl | rfl | rfl | rfl | rfl | rfl | rfl | rfl | rfl
  · exact w_c0
  · exact w_c1
  · exact w_c2
  · exact w_c3
  · exact w_c4
  · exact w_c5
  · exact w_c6
  · exact w_c7
  · exact w_c8
  · exact w_c9
  · exact w_c10
  · exact w_c11
  · exact w_c12
  · exact w_c13
  · exact w_c14
  · exact w_c15
  · exact w_c16
  · exact w_c17
  · exact w_c18
  · exact w_c19
set_option maxRecDepth 65536 in
theorem w_t1 : (words1.take 24).all (fun c => isCode c || c.before args0 about1) = true := by decide +kernel
set_option maxRecDepth 65536 in
theorem w_t2 : ((words1.drop 24).take 24).all (fun c => isCode c || c.before args0 about1) = true := by decide +kernel
set_option maxRecDepth 65536 in
theorem w_t3 : (((words1.drop 24).drop 24).take 24).all (fun c => isCode c || c.before args0 about1) = true := by decide +kernel
set_option maxRecDepth 65536 in
theorem w_t4 : ((((words1.drop 24).drop 24).drop 24).take 24).all (fun c => isCode c || c.before args0 about1) = true := by decide +kernel
set_option maxRecDepth 65536 in
theorem w_t5 : ((((words1.drop 24).drop 24).drop 24).drop 24).all (fun c => isCode c || c.before args0 about1) = true := by decide +kernel
theorem w_tables : (allAtoms (Jvm.Cond.code x code maxLocals ret :: tables_1)).before args0 about1 = true := by
  rw [allAtoms_all]
  show words1.all (fun c => c.before args0 about1) = true
  refine all_split ?_ w_codes
  rw [← List.take_append_drop 24 words1, List.all_append, w_t1, ← List.take_append_drop 24 (words1.drop 24), List.all_append, w_t2, ← List.take_append_drop 24 ((words1.drop 24).drop 24), List.all_append, w_t3, ← List.take_append_drop 24 (((words1.drop 24).drop 24).drop 24), List.all_append, w_t4, w_t5]
  rfl
set_option maxRecDepth 65536 in
theorem w_rest : rest_1_c.before args0 about1 = true := by decide +kernel
set_option maxRecDepth 65536 in
theorem w_case : (Jvm.Cond.and given_1 narrow_1).before args0 about1 = true := by decide +kernel
set_option maxRecDepth 65536 in
theorem w_consts : constsHeld consts_1 about1 := Jvm.Lit.constsHeldB_iff.mp (by decide +kernel)
theorem w_applies : (headSpec (Jvm.Cond.code x code maxLocals ret :: tables_1) room_1).applies x e0.platform about1 = true :=
  (Spec.applies_iff w_frames).mpr ⟨w_running, w_runnable, w_alone, w_named, w_hears, w_ripe, w_room, w_tables⟩
theorem atStart : AtStart classFile x code maxLocals ret World_1 tables_1 room_1 Calls_1 rest_1 Pre_1 launch0 p0 e0 about1 theMethod args0 below0 :=
  ⟨lists_1, trivial, launch0.admits_env _ _ _, launch0.least_env, fairChoices_fair.cas, fairChoices_fair.clock, w_frames, w_args, w_heap, w_applies, ⟨w_consts, trivial⟩, w_rest, w_case⟩
end start1
theorem witness_1 : WitnessClaimed_1 := ⟨start1.p0, start1.e0, start1.about1, start1.theMethod, start1.args0, start1.below0, start1.atStart⟩
end Jvm.Pilot.@@N@@
