import JvmDerived
import JvmDerived.Pilot.@@N@@Statement
import JvmDerived.Pilot.@@N@@Code
set_option linter.unusedVariables false
set_option linter.unusedSimpArgs false
/- laws to paste: Road.backV, Road.eqW, Road.codOf (cut by pick.py; bodies as the Statement names them) -/
namespace Jvm.Pilot.@@N@@
namespace StrChars
open Jvm Sem ClassFile Op Lib Jvm.Stand Jvm.Free.XT Jvm.Free.ALB Jvm.Free.JM Jvm.Free
open Jvm.Lib.Cold (StaticIs)
/-- a char array whose places are chars -/
def Ch (a : Addr) (A : Cell) (U : State) : Prop := Arr .char a A U ∧ Typed .char A
theorem Ch.mv {a : Addr} {A : Cell} {U U' : State} (h : Ch a A U) (hal : U.vm.Alike U'.vm) (hh : U'.heap = U.heap) : Ch a A U' := ⟨h.1.mv hal hh, h.2⟩
theorem Ch.keep {a : Addr} {A : Cell} {U U' : State} (h : Ch a A U) (hal : U.vm.Alike U'.vm) (hk : U'.heap[a]? = some A) : Ch a A U' := ⟨h.1.keep hal hk, h.2⟩
/-- what place i of a char[]'s cell holds -/
def cv (A : Cell) (i : Nat) : Int32 := match A.slots[i]? with | some (.int x) => x | _ => 0
theorem Ch.get {a : Addr} {A : Cell} {U : State} (h : Ch a A U) {i : Nat} (hi : i < A.slots.size) : A.slots[i]? = some (.int (cv A i)) := by
  have e := Array.getElem?_eq_getElem hi
  have f := h.2 i _ e
  unfold cv; rw [e]
  generalize A.slots[i] = v at f
  cases v <;> simp [fits] at f ⊢
/-- the byte that i2b leaves of a char -/
def lo8 (x : Int32) : Int32 := x.toInt8.toInt32
theorem fits_lo8 (y : Int32) : fits .byte (.int (lo8 y)) = true := by
  have h1 := y.toInt8.le_toInt
  have h2 := y.toInt8.toInt_lt
  simp only [lo8, fits, Bool.and_eq_true, decide_eq_true_eq, Int32.le_iff_toInt_le, Int8.toInt_toInt32, show (-128 : Int32).toInt = -128 from by decide, show (127 : Int32).toInt = 127 from by decide]
  omega
/-- A' is A but that each place j of lo .. hi - 1 holds f j -/
def Laid (A A' : Cell) (lo hi : Nat) (f : Nat → Value) : Prop := A'.cls = A.cls ∧ A'.vm = A.vm ∧ A'.slots.size = A.slots.size ∧ ∀ i, A'.slots[i]? = if lo ≤ i ∧ i < hi then some (f i) else A.slots[i]?
theorem Laid.zero (A : Cell) (lo : Nat) (f : Nat → Value) : Laid A A lo (lo + 0) f := ⟨rfl, rfl, rfl, fun i => by rw [if_neg (by omega)]⟩
theorem Laid.step {A Ak : Cell} {lo k : Nat} {f : Nat → Value} {v : Value} (h : Laid A Ak lo k f) (hlo : lo ≤ k) (hk : k < Ak.slots.size) (hv : v = f k) : Laid A (Ak.setSlot k v) lo (k + 1) f := by
  refine ⟨h.1, h.2.1, by simpa [Cell.setSlot] using h.2.2.1, fun i => ?_⟩
  by_cases e : k = i
  · subst e; rw [Cell.slots_setSlot_self v hk, if_pos (by omega), hv]
  · rw [Cell.slots_setSlot_ne v e, h.2.2.2 i]
    by_cases q : lo ≤ i ∧ i < k
    · rw [if_pos q, if_pos (by omega)]
    · rw [if_neg q, if_neg (by omega)]
def U16 : String := "java/lang/StringUTF16"
namespace Cmp5
def yN : MethodName := ⟨"java/lang/StringUTF16", "compress", "([CI[BII)I"⟩
abbrev yB : ByteArray := jdk_52_method_21_code
theorem d0 : decode yB 0 = .ok (.iconst 0, 1) := by decide +kernel
theorem d1 : decode yB 1 = .ok (.istore 5, 2) := by decide +kernel
theorem d3 : decode yB 3 = .ok (.iload 5, 2) := by decide +kernel
theorem d5 : decode yB 5 = .ok (.iload 4, 2) := by decide +kernel
theorem d7 : decode yB 7 = .ok (.if_icmp (.ge) 37, 3) := by decide +kernel
theorem d10 : decode yB 10 = .ok (.aload_n 0, 1) := by decide +kernel
theorem d11 : decode yB 11 = .ok (.iload_n 1, 1) := by decide +kernel
theorem d12 : decode yB 12 = .ok (.caload, 1) := by decide +kernel
theorem d13 : decode yB 13 = .ok (.istore 6, 2) := by decide +kernel
theorem d15 : decode yB 15 = .ok (.iload 6, 2) := by decide +kernel
theorem d17 : decode yB 17 = .ok (.sipush 255, 3) := by decide +kernel
theorem d20 : decode yB 20 = .ok (.if_icmp (.le) 6, 3) := by decide +kernel
theorem d26 : decode yB 26 = .ok (.aload_n 2, 1) := by decide +kernel
theorem d27 : decode yB 27 = .ok (.iload_n 3, 1) := by decide +kernel
theorem d28 : decode yB 28 = .ok (.iload 6, 2) := by decide +kernel
theorem d30 : decode yB 30 = .ok (.i2b, 1) := by decide +kernel
theorem d31 : decode yB 31 = .ok (.bastore, 1) := by decide +kernel
theorem d32 : decode yB 32 = .ok (.iinc 1 1, 3) := by decide +kernel
theorem d35 : decode yB 35 = .ok (.iinc 3 1, 3) := by decide +kernel
theorem d38 : decode yB 38 = .ok (.iinc 5 1, 3) := by decide +kernel
theorem d41 : decode yB 41 = .ok (.goto (-38), 3) := by decide +kernel
theorem d44 : decode yB 44 = .ok (.iload 4, 2) := by decide +kernel
theorem d46 : decode yB 46 = .ok (.ireturn, 1) := by decide +kernel
def site : List Cond := []
def tab : Cond := tabOf yN yB 7 (some .int) site
def P (b : Addr) (A : Cell) (d : Addr) (B : Cell) (o q len : Nat) (args : Array Value) (s : State) : Prop := args = #[.ref b, .int (Int32.ofNat o), .ref d, .int (Int32.ofNat q), .int (Int32.ofNat len)] ∧ Ch b A s ∧ Arr .byte d B s ∧ b ≠ d ∧ o + len ≤ A.slots.size ∧ q + len ≤ B.slots.size ∧ ∀ i, i < len → ¬ 255 < cv A (o + i)
def E (b : Addr) (A : Cell) (d : Addr) (B : Cell) (o q len : Nat) (r : Option Value) (s u : State) : Prop := r = some (.int (Int32.ofNat len)) ∧ ∃ B', Put d B' s u ∧ Laid B B' q (q + len) (fun j => Value.int (lo8 (cv A (o + (j - q)))))
/-- no char of the range above 255: len; the places written hold each char's low byte -/
theorem law (l : Launch) (b : Addr) (A : Cell) (d : Addr) (B : Cell) (o q len : Nat) : Law l yN 5 5 0 0 yB 7 (some .int) site (P b A d B o q len) (E b A d B o q len) (copyLocs d q len) 0 0 := by
  refine Law.of_walk (plainFor_of_name (by decide +kernel)) (by decide +kernel) (by decide +kernel) (by decide) (fun _ _ h => by rw [h.1]; rfl) (fun _ U U' hal hh h => ⟨h.1, h.2.1.mv hal hh, h.2.2.1.mv hal hh, h.2.2.2⟩) (fun r U U' V V' h1 hal h2 h => ⟨h.1, h.2.elim fun B' q => ⟨B', q.1.mv h1 h2, q.2⟩⟩) ?_
  intro p e s m args below meth c s₁ X0 hexec hbytes hml hret hlk hnm hown hh0 W hP
  obtain ⟨rfl, hA, hB, hne, l1, l2, hp⟩ := hP
  have c1 : Steps p.tables e below (s₁.setTop (entryFrame m #[.ref b, .int (Int32.ofNat o), .ref d, .int (Int32.ofNat q), .int (Int32.ofNat len)] 7)) (s₁.setTop (mkF m 0 #[.val (.ref b), .val (.int (Int32.ofNat o)), .val (.ref d), .val (.int (Int32.ofNat q)), .val (.int (Int32.ofNat len)), .unset, .unset] [])) := entry rfl
  have hA0 := hA.1.mv X0.warmed.alike hh0
  have hB0 := hB.mv X0.warmed.alike hh0
  have a31 := hA.1.2.2.2
  have c2 : Steps p.tables e below (s₁.setTop (entryFrame m #[.ref b, .int (Int32.ofNat o), .ref d, .int (Int32.ofNat q), .int (Int32.ofNat len)] 7)) (s₁.setTop (mkF m 3 #[.val (.ref b), .val (.int (Int32.ofNat o)), .val (.ref d), .val (.int (Int32.ofNat q)), .val (.int (Int32.ofNat len)), .val (.int 0), .unset] [])) := c1.trans (by
    refine iconstV X0.here hexec rfl 0 (hb hbytes d0) (by decide) ?_
    refine XS.istore X0.here hexec rfl (hb hbytes d1) rfl rfl ?_
    exact Steps.refl _)
  have loop : ∀ (r i : Nat), i + r = len → ∀ (z : Slot), (z = .unset ∨ ∃ w, z = .val w ∧ w.category = 1) → ∀ (Tl : State) (Bk : Cell), Stand p l e { frames := 0, locals := 0, cells := 0, slots := 0 } s m #[.ref b, .int (Int32.ofNat o), .ref d, .int (Int32.ofNat q), .int (Int32.ofNat len)] below meth c Tl ([] ++ copyLocs d q i) 0 0 → Put d Bk s₁ Tl → Laid B Bk q (q + i) (fun j => Value.int (lo8 (cv A (o + (j - q))))) →
      Steps p.tables e below (s₁.setTop (entryFrame m #[.ref b, .int (Int32.ofNat o), .ref d, .int (Int32.ofNat q), .int (Int32.ofNat len)] 7)) (Tl.setTop (mkF m 3 #[.val (.ref b), .val (.int (Int32.ofNat (o + i))), .val (.ref d), .val (.int (Int32.ofNat (q + i))), .val (.int (Int32.ofNat len)), .val (.int (Int32.ofNat i)), z] [])) → ∃ (T' : State) (B' : Cell) (z' : Slot), Stand p l e { frames := 0, locals := 0, cells := 0, slots := 0 } s m #[.ref b, .int (Int32.ofNat o), .ref d, .int (Int32.ofNat q), .int (Int32.ofNat len)] below meth c T' ([] ++ copyLocs d q len) 0 0 ∧ Put d B' s₁ T' ∧ Laid B B' q (q + len) (fun j => Value.int (lo8 (cv A (o + (j - q))))) ∧
      Steps p.tables e below (s₁.setTop (entryFrame m #[.ref b, .int (Int32.ofNat o), .ref d, .int (Int32.ofNat q), .int (Int32.ofNat len)] 7)) (T'.setTop (mkF m 3 #[.val (.ref b), .val (.int (Int32.ofNat (o + len))), .val (.ref d), .val (.int (Int32.ofNat (q + len))), .val (.int (Int32.ofNat len)), .val (.int (Int32.ofNat len)), z'] [])) := by
    intro r
    induction r with
    | zero =>
      intro i hi z hz Tl Bk Xl pl fl cl
      have hil : i = len := by omega
      rw [hil] at Xl fl cl
      exact ⟨Tl, Bk, z, Xl, pl, fl, cl⟩
    | succ r ih =>
      intro i hi z hz Tl Bk Xl pl fl cl
      have all := X0.warmed.alike.symm.trans Xl.warmed.alike
      have hAl := hA0.keep all (pl.other hne hA0.1)
      have hBk := hB0.like all pl.1 fl.1 fl.2.1 fl.2.2.1
      have hlt : q + i < Bk.slots.size := by rw [fl.2.2.1]; omega
      have c3 : Steps p.tables e below (s₁.setTop (entryFrame m #[.ref b, .int (Int32.ofNat o), .ref d, .int (Int32.ofNat q), .int (Int32.ofNat len)] 7)) (Tl.setTop (mkF m 12 #[.val (.ref b), .val (.int (Int32.ofNat (o + i))), .val (.ref d), .val (.int (Int32.ofNat (q + i))), .val (.int (Int32.ofNat len)), .val (.int (Int32.ofNat i)), z] [.int (Int32.ofNat (o + i)), .ref b])) := cl.trans (by
        refine XS.iload Xl.here hexec rfl (hb hbytes d3) rfl ?_
        refine XS.iload Xl.here hexec rfl (hb hbytes d5) rfl ?_
        refine XS.icmpNo Xl.here hexec rfl (hb hbytes d7) rfl (ii_ge_f (lt32 (by omega) (by omega))) ?_
        refine XS.aloadN Xl.here hexec rfl (hb hbytes d10) rfl rfl ?_
        refine XS.iloadN Xl.here hexec rfl (hb hbytes d11) rfl ?_
        exact Steps.refl _)
      have c4 : Steps p.tables e below (s₁.setTop (entryFrame m #[.ref b, .int (Int32.ofNat o), .ref d, .int (Int32.ofNat q), .int (Int32.ofNat len)] 7)) (Tl.setTop (mkF m 13 #[.val (.ref b), .val (.int (Int32.ofNat (o + i))), .val (.ref d), .val (.int (Int32.ofNat (q + i))), .val (.int (Int32.ofNat len)), .val (.int (Int32.ofNat i)), z] [.int (cv A (o + i))])) := c3.trans (by
        refine Xl.aget hexec hAl rfl (hA.get (i := o + i) (by omega)) rfl rfl (hb hbytes d12) ?_
        exact Steps.refl _)
      have c5 : Steps p.tables e below (s₁.setTop (entryFrame m #[.ref b, .int (Int32.ofNat o), .ref d, .int (Int32.ofNat q), .int (Int32.ofNat len)] 7)) (Tl.setTop (mkF m 15 #[.val (.ref b), .val (.int (Int32.ofNat (o + i))), .val (.ref d), .val (.int (Int32.ofNat (q + i))), .val (.int (Int32.ofNat len)), .val (.int (Int32.ofNat i)), .val (.int (cv A (o + i)))] [])) := c4.trans (by
        refine XS.istoreS Xl.here hexec rfl (hb hbytes d13) rfl rfl hz ?_
        exact Steps.refl _)
      have c6 : Steps p.tables e below (s₁.setTop (entryFrame m #[.ref b, .int (Int32.ofNat o), .ref d, .int (Int32.ofNat q), .int (Int32.ofNat len)] 7)) (Tl.setTop (mkF m 31 #[.val (.ref b), .val (.int (Int32.ofNat (o + i))), .val (.ref d), .val (.int (Int32.ofNat (q + i))), .val (.int (Int32.ofNat len)), .val (.int (Int32.ofNat i)), .val (.int (cv A (o + i)))] [.int (lo8 (cv A (o + i))), .int (Int32.ofNat (q + i)), .ref d])) := c5.trans (by
        refine XS.iload Xl.here hexec rfl (hb hbytes d15) rfl ?_
        refine sipushV Xl.here hexec rfl 255 (hb hbytes d17) (by decide) ?_
        refine XS.icmpYes Xl.here hexec rfl (pc0 := 20) rfl (hb hbytes d20) rfl (ii_le_t (hp i (by omega))) (by decide) rfl ?_
        refine XS.aloadN Xl.here hexec rfl (hb hbytes d26) rfl rfl ?_
        refine XS.iloadN Xl.here hexec rfl (hb hbytes d27) rfl ?_
        refine XS.iload Xl.here hexec rfl (hb hbytes d28) rfl ?_
        refine i2b Xl.here hexec rfl (hb hbytes d30) rfl ?_
        exact Steps.refl _)
      obtain ⟨T7, X7, p7, st7⟩ := Xl.aput hexec hBk rfl hlt rfl (fits_lo8 (cv A (o + i))) (g := (mkF m 31 #[.val (.ref b), .val (.int (Int32.ofNat (o + i))), .val (.ref d), .val (.int (Int32.ofNat (q + i))), .val (.int (Int32.ofNat len)), .val (.int (Int32.ofNat i)), .val (.int (cv A (o + i)))] [.int (lo8 (cv A (o + i))), .int (Int32.ofNat (q + i)), .ref d])) rfl (rest := []) rfl (hb hbytes d31)
      have c8 : Steps p.tables e below (s₁.setTop (entryFrame m #[.ref b, .int (Int32.ofNat o), .ref d, .int (Int32.ofNat q), .int (Int32.ofNat len)] 7)) (T7.setTop (mkF m 32 #[.val (.ref b), .val (.int (Int32.ofNat (o + i))), .val (.ref d), .val (.int (Int32.ofNat (q + i))), .val (.int (Int32.ofNat len)), .val (.int (Int32.ofNat i)), .val (.int (cv A (o + i)))] [])) := c6.trans (st7 _ (Steps.refl _))
      have c9 : Steps p.tables e below (s₁.setTop (entryFrame m #[.ref b, .int (Int32.ofNat o), .ref d, .int (Int32.ofNat q), .int (Int32.ofNat len)] 7)) (T7.setTop (mkF m 3 #[.val (.ref b), .val (.int (Int32.ofNat (o + i) + 1)), .val (.ref d), .val (.int (Int32.ofNat (q + i) + 1)), .val (.int (Int32.ofNat len)), .val (.int (Int32.ofNat i + 1)), .val (.int (cv A (o + i)))] [])) := c8.trans (by
        refine iincV X7.here hexec rfl 1 (hb hbytes d32) (by decide) rfl rfl ?_
        refine iincV X7.here hexec rfl 1 (hb hbytes d35) (by decide) rfl rfl ?_
        refine iincV X7.here hexec rfl 1 (hb hbytes d38) (by decide) rfl rfl ?_
        refine XS.goto X7.here hexec rfl (pc0 := 41) rfl (hb hbytes d41) (by decide) rfl ?_
        exact Steps.refl _)
      have c10 : Steps p.tables e below (s₁.setTop (entryFrame m #[.ref b, .int (Int32.ofNat o), .ref d, .int (Int32.ofNat q), .int (Int32.ofNat len)] 7)) (T7.setTop (mkF m 3 #[.val (.ref b), .val (.int (Int32.ofNat (o + (i + 1)))), .val (.ref d), .val (.int (Int32.ofNat (q + (i + 1)))), .val (.int (Int32.ofNat len)), .val (.int (Int32.ofNat (i + 1))), .val (.int (cv A (o + i)))] [])) := by
        have := c9
        rw [succ32, succ32, succ32] at this
        exact this
      exact ih (i + 1) (by omega) _ (Or.inr ⟨_, rfl, rfl⟩) T7 _ (by rw [copyLocs_step, ← List.append_assoc]; exact X7) (pl.trans p7) (fl.step (by omega) hlt (by simp)) c10
  obtain ⟨T9, B9, z9, X9, p9, f9, g9⟩ := loop len 0 (by omega) .unset (Or.inl rfl) s₁ B (by simpa [copyLocs] using X0) ⟨hB0.1, fun _ _ => rfl, rfl⟩ (Laid.zero _ _ _) c2
  have c11 : Steps p.tables e below (s₁.setTop (entryFrame m #[.ref b, .int (Int32.ofNat o), .ref d, .int (Int32.ofNat q), .int (Int32.ofNat len)] 7)) (T9.setTop (mkF m 46 #[.val (.ref b), .val (.int (Int32.ofNat (o + len))), .val (.ref d), .val (.int (Int32.ofNat (q + len))), .val (.int (Int32.ofNat len)), .val (.int (Int32.ofNat len)), z9] [.int (Int32.ofNat len)])) := g9.trans (by
    refine XS.iload X9.here hexec rfl (hb hbytes d3) rfl ?_
    refine XS.iload X9.here hexec rfl (hb hbytes d5) rfl ?_
    refine XS.icmpYes X9.here hexec rfl (pc0 := 7) rfl (hb hbytes d7) rfl (ii_ge_t (nlt32 (by omega) (Nat.le_refl _))) (by decide) rfl ?_
    refine XS.iload X9.here hexec rfl (hb hbytes d44) rfl ?_
    exact Steps.refl _)
  exact ⟨T9, some (.int (Int32.ofNat len)), _, _, _, X9, by simp, rfl, rfl, (fun h => by cases h), ⟨rfl, B9, p9.from hh0, f9⟩, fun fs hl => c11.trans (X9.ireturnOut hexec hret rfl (Or.inl rfl) (hb hbytes d46) hl)⟩
end Cmp5
namespace Cmp3
def yN : MethodName := ⟨"java/lang/StringUTF16", "compress", "([CII)[B"⟩
abbrev yB : ByteArray := jdk_52_method_16_code
theorem d0 : decode yB 0 = .ok (.iload_n 2, 1) := by decide +kernel
theorem d1 : decode yB 1 = .ok (.newarray .byte, 2) := by decide +kernel
theorem d3 : decode yB 3 = .ok (.astore_n 3, 1) := by decide +kernel
theorem d4 : decode yB 4 = .ok (.aload_n 0, 1) := by decide +kernel
theorem d5 : decode yB 5 = .ok (.iload_n 1, 1) := by decide +kernel
theorem d6 : decode yB 6 = .ok (.aload_n 3, 1) := by decide +kernel
theorem d7 : decode yB 7 = .ok (.iconst 0, 1) := by decide +kernel
theorem d8 : decode yB 8 = .ok (.iload_n 2, 1) := by decide +kernel
theorem d9 : decode yB 9 = .ok (.invokestatic 115, 3) := by decide +kernel
theorem d12 : decode yB 12 = .ok (.istore 4, 2) := by decide +kernel
theorem d14 : decode yB 14 = .ok (.iload 4, 2) := by decide +kernel
theorem d16 : decode yB 16 = .ok (.iload_n 2, 1) := by decide +kernel
theorem d17 : decode yB 17 = .ok (.if_icmp (.eq) 40, 3) := by decide +kernel
theorem d57 : decode yB 57 = .ok (.aload_n 3, 1) := by decide +kernel
theorem d58 : decode yB 58 = .ok (.areturn, 1) := by decide +kernel
def site : List Cond := [.arrayClass .byte, Cmp5.tab] ++ staticW U16 115 Cmp5.yN
def tab : Cond := tabOf yN yB 6 (some (.array .byte)) site
def P (b : Addr) (A : Cell) (o len : Nat) (args : Array Value) (s : State) : Prop := args = #[.ref b, .int (Int32.ofNat o), .int (Int32.ofNat len)] ∧ Ch b A s ∧ o + len ≤ A.slots.size ∧ len ≤ 536870912 ∧ ∀ i, i < len → ¬ 255 < cv A (o + i)
def E (b : Addr) (A : Cell) (o len : Nat) (r : Option Value) (s u : State) : Prop := NewArr .byte "[B" len (fun j => .int (lo8 (cv A (o + j)))) r s u ∧ u.heap.size = s.heap.size + 1
/-- no char of the range above 255: a new byte[] of their low bytes -/
theorem law (l : Launch) (b : Addr) (A : Cell) (o len : Nat) : Law l yN 3 3 1 18 yB 6 (some (.array .byte)) site (P b A o len) (E b A o len) [] 1 len := by
  refine Law.of_walk (plainFor_of_name (by decide +kernel)) (by decide +kernel) (by decide +kernel) (by decide) (fun _ _ h => by rw [h.1]; rfl) (fun _ U U' hal hh h => ⟨h.1, h.2.1.mv hal hh, h.2.2⟩) (fun r U U' V V' h1 hal h2 h => ⟨NewArr.mv r U U' V V' h1 hal h2 h.1, by rw [h1, h2]; exact h.2⟩) ?_
  intro p e s m args below meth c s₁ X0 hexec hbytes hml hret hlk hnm hown hh0 W hP
  obtain ⟨rfl, hA, l1, l2, hp⟩ := hP
  have a31 := hA.1.2.2.2
  have c1 : Steps p.tables e below (s₁.setTop (entryFrame m #[.ref b, .int (Int32.ofNat o), .int (Int32.ofNat len)] 6)) (s₁.setTop (mkF m 0 #[.val (.ref b), .val (.int (Int32.ofNat o)), .val (.int (Int32.ofNat len)), .unset, .unset, .unset] [])) := entry rfl
  have c2 : Steps p.tables e below (s₁.setTop (entryFrame m #[.ref b, .int (Int32.ofNat o), .int (Int32.ofNat len)] 6)) (s₁.setTop (mkF m 1 #[.val (.ref b), .val (.int (Int32.ofNat o)), .val (.int (Int32.ofNat len)), .unset, .unset, .unset] [.int (Int32.ofNat len)])) := c1.trans (by
    refine XS.iloadN X0.here hexec rfl (hb hbytes d0) rfl ?_
    exact Steps.refl _)
  obtain ⟨T3, B3, X3, ba3, bs3, bv3, bh3, bf3, st3⟩ := X0.anew hexec (atype := .byte) (wk W (.arrayClass .byte)) rfl (by show len * 1 ≤ _; omega) (by omega) (g := (mkF m 1 #[.val (.ref b), .val (.int (Int32.ofNat o)), .val (.int (Int32.ofNat len)), .unset, .unset, .unset] [.int (Int32.ofNat len)])) rfl (hb hbytes d1) (rest := []) rfl (Nat.le_refl _) (by show 0 + len ≤ len; omega)
  rw [hh0] at ba3 st3
  have kp3 : XT.Kept s T3 := (XT.Kept.of_eq hh0).push bh3
  have hA3 := hA.keep X3.warmed.alike (kp3 _ _ hA.1.1)
  have hne : b ≠ s.heap.size := hA.1.ne
  have c4 : Steps p.tables e below (s₁.setTop (entryFrame m #[.ref b, .int (Int32.ofNat o), .int (Int32.ofNat len)] 6)) (T3.setTop (mkF m 3 #[.val (.ref b), .val (.int (Int32.ofNat o)), .val (.int (Int32.ofNat len)), .unset, .unset, .unset] [.ref s.heap.size])) := c2.trans (st3 _ (Steps.refl _))
  have c5 : Steps p.tables e below (s₁.setTop (entryFrame m #[.ref b, .int (Int32.ofNat o), .int (Int32.ofNat len)] 6)) (T3.setTop (mkF m 9 #[.val (.ref b), .val (.int (Int32.ofNat o)), .val (.int (Int32.ofNat len)), .val (.ref s.heap.size), .unset, .unset] [.int (Int32.ofNat len), .int 0, .ref s.heap.size, .int (Int32.ofNat o), .ref b])) := c4.trans (by
    refine XS.astoreN X3.here hexec rfl (hb hbytes d3) rfl rfl rfl ?_
    refine XS.aloadN X3.here hexec rfl (hb hbytes d4) rfl rfl ?_
    refine XS.iloadN X3.here hexec rfl (hb hbytes d5) rfl ?_
    refine XS.aloadN X3.here hexec rfl (hb hbytes d6) rfl rfl ?_
    refine iconstV X3.here hexec rfl 0 (hb hbytes d7) (by decide) ?_
    refine XS.iloadN X3.here hexec rfl (hb hbytes d8) rfl ?_
    exact Steps.refl _)
  obtain ⟨v6, T6, X6, E6, g6⟩ := X3.callS hexec (Cmp5.law l b A s.heap.size B3 o 0 len) hown (wks W (staticW U16 115 Cmp5.yN)) (wk W Cmp5.tab) (W := 0) (Nat.le_of_ble_eq_true rfl) (Nat.le_of_ble_eq_true rfl) (Nat.le_refl _) (by show 0 + len + 0 ≤ len; omega) (g := (mkF m 9 #[.val (.ref b), .val (.int (Int32.ofNat o)), .val (.int (Int32.ofNat len)), .val (.ref s.heap.size), .unset, .unset] [.int (Int32.ofNat len), .int (Int32.ofNat 0), .ref s.heap.size, .int (Int32.ofNat o), .ref b])) rfl (by rw [hml]; rfl) c5 (argsL := [.ref b, .int (Int32.ofNat o), .ref s.heap.size, .int (Int32.ofNat 0), .int (Int32.ofNat len)]) (rest := []) rfl rfl (by show 2 * 0 + 0 ≤ _; decide) (hb hbytes d9) (⟨rfl, hA3, ba3, hne, l1, by rw [bs3]; simp, hp⟩)
  obtain ⟨rfl, B6, p6, f6⟩ := E6
  have c7 : Steps p.tables e below (s₁.setTop (entryFrame m #[.ref b, .int (Int32.ofNat o), .int (Int32.ofNat len)] 6)) (T6.setTop (mkF m 12 #[.val (.ref b), .val (.int (Int32.ofNat o)), .val (.int (Int32.ofNat len)), .val (.ref s.heap.size), .unset, .unset] [.int (Int32.ofNat len)])) := g6
  have c8 : Steps p.tables e below (s₁.setTop (entryFrame m #[.ref b, .int (Int32.ofNat o), .int (Int32.ofNat len)] 6)) (T6.setTop (mkF m 58 #[.val (.ref b), .val (.int (Int32.ofNat o)), .val (.int (Int32.ofNat len)), .val (.ref s.heap.size), .val (.int (Int32.ofNat len)), .unset] [.ref s.heap.size])) := c7.trans (by
    refine XS.istore X6.here hexec rfl (hb hbytes d12) rfl rfl ?_
    refine XS.iload X6.here hexec rfl (hb hbytes d14) rfl ?_
    refine XS.iloadN X6.here hexec rfl (hb hbytes d16) rfl ?_
    refine XS.icmpYes X6.here hexec rfl (pc0 := 17) rfl (hb hbytes d17) rfl (ii_eq_t rfl) (by decide) rfl ?_
    refine XS.aloadN X6.here hexec rfl (hb hbytes d57) rfl rfl ?_
    exact Steps.refl _)
  have X8 := X6.wide (L' := []) (cells' := 1) (slots' := len) (fun x hx hlt => by
    simp only [List.nil_append, copyLocs, List.mem_map, List.mem_range] at hx
    obtain ⟨i, -, rfl⟩ := hx
    exact absurd hlt (Nat.lt_irrefl _)) (Nat.le_refl _) (by omega)
  exact ⟨T6, some (.ref s.heap.size), _, _, _, X8, rfl, rfl, rfl, (fun h => by cases h), ⟨⟨rfl, B6, ba3.like (X3.warmed.alike.symm.trans X6.warmed.alike) p6.1 f6.1 f6.2.1 f6.2.2.1, f6.2.1.trans bv3, by rw [X6.warmed.alike.findClass, f6.1]; exact bf3, by rw [f6.2.2.1, bs3]; simp, fun j hj => by rw [f6.2.2.2 j, if_pos (by omega)]; rfl, kp3.put p6 (Nat.le_refl _)⟩, by rw [p6.2.2, bh3, hh0]; simp⟩, fun fs hl => c8.trans (X8.areturnOut hexec rfl hret rfl (hb hbytes d58) hl)⟩
end Cmp3
namespace CodL
def yN : MethodName := ⟨"java/lang/StringUTF16", "coderFromArrayLen", "([BI)B"⟩
abbrev yB : ByteArray := jdk_52_method_15_code
theorem d0 : decode yB 0 = .ok (.iload_n 1, 1) := by decide +kernel
theorem d1 : decode yB 1 = .ok (.aload_n 0, 1) := by decide +kernel
theorem d2 : decode yB 2 = .ok (.arraylength, 1) := by decide +kernel
theorem d3 : decode yB 3 = .ok (.isub, 1) := by decide +kernel
theorem d4 : decode yB 4 = .ok (.bipush 31, 2) := by decide +kernel
theorem d6 : decode yB 6 = .ok (.iushr, 1) := by decide +kernel
theorem d7 : decode yB 7 = .ok (.i2b, 1) := by decide +kernel
theorem d8 : decode yB 8 = .ok (.ireturn, 1) := by decide +kernel
def site : List Cond := []
def tab : Cond := tabOf yN yB 2 (some .byte) site
def P (d : Addr) (B : Cell) (args : Array Value) (s : State) : Prop := args = #[.ref d, .int (Int32.ofNat B.slots.size)] ∧ Arr .byte d B s
def E (r : Option Value) (s u : State) : Prop := XT.PureE (some (.int 0)) r s u
/-- an array as long as the number of chars: LATIN1 -/
theorem law (l : Launch) (d : Addr) (B : Cell) : Law l yN 2 2 0 0 yB 2 (some .byte) site (P d B) E [] 0 0 := by
  refine Law.of_walk (plainFor_of_name (by decide +kernel)) (by decide +kernel) (by decide +kernel) (by decide) (fun _ _ h => by rw [h.1]; rfl) (fun _ U U' hal hh h => ⟨h.1, h.2.mv hal hh⟩) (fun r U U' V V' h1 hal h2 h => XT.PureE.mv r U U' V V' h1 hal h2 h) ?_
  intro p e s m args below meth c s₁ X0 hexec hbytes hml hret hlk hnm hown hh0 W hP
  obtain ⟨rfl, hB⟩ := hP
  have hB0 := hB.mv X0.warmed.alike hh0
  have c1 : Steps p.tables e below (s₁.setTop (entryFrame m #[.ref d, .int (Int32.ofNat B.slots.size)] 2)) (s₁.setTop (mkF m 0 #[.val (.ref d), .val (.int (Int32.ofNat B.slots.size))] [])) := entry rfl
  have c2 : Steps p.tables e below (s₁.setTop (entryFrame m #[.ref d, .int (Int32.ofNat B.slots.size)] 2)) (s₁.setTop (mkF m 2 #[.val (.ref d), .val (.int (Int32.ofNat B.slots.size))] [.ref d, .int (Int32.ofNat B.slots.size)])) := c1.trans (by
    refine XS.iloadN X0.here hexec rfl (hb hbytes d0) rfl ?_
    refine XS.aloadN X0.here hexec rfl (hb hbytes d1) rfl rfl ?_
    exact Steps.refl _)
  have c3 : Steps p.tables e below (s₁.setTop (entryFrame m #[.ref d, .int (Int32.ofNat B.slots.size)] 2)) (s₁.setTop (mkF m 8 #[.val (.ref d), .val (.int (Int32.ofNat B.slots.size))] [.int (lo8 (ushr (Int32.ofNat B.slots.size - Int32.ofNat B.slots.size) 31))])) := c2.trans (by
    refine X0.alen hexec hB0 rfl rfl (hb hbytes d2) ?_
    refine XS.isub X0.here hexec rfl (hb hbytes d3) rfl ?_
    refine bipushV X0.here hexec rfl 31 (hb hbytes d4) (by decide) ?_
    refine iushr X0.here hexec rfl (hb hbytes d6) rfl ?_
    refine i2b X0.here hexec rfl (hb hbytes d7) rfl ?_
    exact Steps.refl _)
  have e0 : lo8 (ushr (Int32.ofNat B.slots.size - Int32.ofNat B.slots.size) 31) = 0 := by rw [Int32.sub_self]; decide
  rw [e0] at c3
  exact ⟨s₁, some (.int 0), _, _, _, X0, rfl, rfl, rfl, (fun h => by cases h), ⟨rfl, hh0⟩, fun fs hl => c3.trans (X0.ireturnOut hexec hret rfl (Or.inr (Or.inr (Or.inl rfl))) (hb hbytes d8) hl)⟩
end CodL
/-- the String at a is Latin-1 over a new byte[] (the heap's one new cell): the low bytes of the len chars of A from o on; every cell but a is kept -/
def Got (a : Addr) (D : Cell) (fV fC : Field) (A : Cell) (o len : Nat) (r : Option Value) (s u : State) : Prop := r = none ∧ ∃ D' V : Cell, Blank "java/lang/String" a D' u ∧ Same D D' [fV.slot, fC.slot] ∧ D'.slots[fV.slot]? = some (.ref s.heap.size) ∧ D'.slots[fC.slot]? = some (.int 0) ∧ Arr .byte s.heap.size V u ∧ V.vm = .none ∧ u.vm.findClass "[B" = some V.cls ∧ V.slots.size = len ∧ (∀ j, j < len → V.slots[j]? = some (.int (lo8 (cv A (o + j))))) ∧ (∀ (y : Addr) (c : Cell), y ≠ a → s.heap[y]? = some c → u.heap[y]? = some c) ∧ u.heap.size = s.heap.size + 1
theorem Got.mv {a : Addr} {D A : Cell} {fV fC : Field} {o len : Nat} : ∀ r (U U' V V' : State), U'.heap = U.heap → V.vm.Alike V'.vm → V'.heap = V.heap → Got a D fV fC A o len r U V → Got a D fV fC A o len r U' V' :=
  fun r U U' V V' h1 hal h2 ⟨e0, D', X, a1, a2, a3, a4, a5, a6, a7, a8, a9, a10, a11⟩ => ⟨e0, D', X, a1.mv hal h2, a2, by rw [h1]; exact a3, a4, by rw [h1]; exact a5.mv hal h2, a6, by rw [hal.findClass]; exact a7, a8, a9, by rw [h1, h2]; exact a10, by rw [h1, h2]; exact a11⟩
namespace New4
def yN : MethodName := ⟨"java/lang/String", "<init>", "([CIILjava/lang/Void;)V"⟩
abbrev yB : ByteArray := jdk_42_method_149_code
theorem d0 : decode yB 0 = .ok (.aload_n 0, 1) := by decide +kernel
theorem d1 : decode yB 1 = .ok (.invokespecial 1, 3) := by decide +kernel
theorem d4 : decode yB 4 = .ok (.iload_n 3, 1) := by decide +kernel
theorem d5 : decode yB 5 = .ok (.ifCond (.ne) 22, 3) := by decide +kernel
theorem d27 : decode yB 27 = .ok (.getstatic 38, 3) := by decide +kernel
theorem d30 : decode yB 30 = .ok (.ifCond (.eq) 28, 3) := by decide +kernel
theorem d33 : decode yB 33 = .ok (.aload_n 1, 1) := by decide +kernel
theorem d34 : decode yB 34 = .ok (.iload_n 2, 1) := by decide +kernel
theorem d35 : decode yB 35 = .ok (.iload_n 3, 1) := by decide +kernel
theorem d36 : decode yB 36 = .ok (.invokestatic 177, 3) := by decide +kernel
theorem d39 : decode yB 39 = .ok (.astore 5, 2) := by decide +kernel
theorem d41 : decode yB 41 = .ok (.aload_n 0, 1) := by decide +kernel
theorem d42 : decode yB 42 = .ok (.aload 5, 2) := by decide +kernel
theorem d44 : decode yB 44 = .ok (.iload_n 3, 1) := by decide +kernel
theorem d45 : decode yB 45 = .ok (.invokestatic 47, 3) := by decide +kernel
theorem d48 : decode yB 48 = .ok (.putfield 15, 3) := by decide +kernel
theorem d51 : decode yB 51 = .ok (.aload_n 0, 1) := by decide +kernel
theorem d52 : decode yB 52 = .ok (.aload 5, 2) := by decide +kernel
theorem d54 : decode yB 54 = .ok (.putfield 9, 3) := by decide +kernel
theorem d57 : decode yB 57 = .ok (.return_, 1) := by decide +kernel
def site : List Cond := [.fieldLink "java/lang/String" 38 "java/lang/String" "COMPACT_STRINGS" "Z", Cmp3.tab, CodL.tab, .laysFinal "java/lang/String" "java/lang/String" "value" "[B", .fieldLink "java/lang/String" 9 "java/lang/String" "value" "[B", .laysFinal "java/lang/String" "java/lang/String" "coder" "B", .fieldLink "java/lang/String" 15 "java/lang/String" "coder" "B"] ++ objW "java/lang/String" 1 ++ staticW "java/lang/String" 177 Cmp3.yN ++ staticW "java/lang/String" 47 CodL.yN
def tab : Cond := tabOf yN yB 6 none site
def P (a : Addr) (D : Cell) (fV fC : Field) (b : Addr) (A : Cell) (z : Int32) (o len : Nat) (args : Array Value) (s : State) : Prop := args = #[.ref a, .ref b, .int (Int32.ofNat o), .int (Int32.ofNat len), .null] ∧ Blank "java/lang/String" a D s ∧ Found "java/lang/String" "value" "[B" fV s ∧ Found "java/lang/String" "coder" "B" fC s ∧ Ch b A s ∧ StaticIs s "java/lang/String" "COMPACT_STRINGS" "Z" (.int z) ∧ ¬ z = 0 ∧ 0 < len ∧ o + len ≤ A.slots.size ∧ len ≤ 536870912 ∧ ∀ i, i < len → ¬ 255 < cv A (o + i)
def E (a : Addr) (D : Cell) (fV fC : Field) (A : Cell) (o len : Nat) (r : Option Value) (s u : State) : Prop := Got a D fV fC A o len r s u
/-- len > 0, no char of the range above 255: a Latin-1 String of their low bytes -/
theorem law (l : Launch) (a : Addr) (D : Cell) (fV fC : Field) (b : Addr) (A : Cell) (z : Int32) (o len : Nat) : Law l yN 5 4 2 35 yB 6 none site (P a D fV fC b A z o len) (E a D fV fC A o len) [⟨a, fC.slot⟩, ⟨a, fV.slot⟩] 1 len := by
  refine Law.of_walk (plainFor_of_name (by decide +kernel)) (by decide +kernel) (by decide +kernel) (by decide) (fun _ _ h => by rw [h.1]; rfl) (fun _ U U' hal hh h => ⟨h.1, h.2.1.mv hal hh, h.2.2.1.al hal, h.2.2.2.1.al hal, h.2.2.2.2.1.mv hal hh, h.2.2.2.2.2.1.there hal hh, h.2.2.2.2.2.2⟩) (fun r U U' V V' h1 hal h2 h => Got.mv r U U' V V' h1 hal h2 h) ?_
  intro p e s m args below meth c s₁ X0 hexec hbytes hml hret hlk hnm hown hh0 W hP
  obtain ⟨rfl, hB, f1, f2, hA, s1, hz, l0, l1, l2, hp⟩ := hP
  have a31 := hA.1.2.2.2
  have c1 : Steps p.tables e below (s₁.setTop (entryFrame m #[.ref a, .ref b, .int (Int32.ofNat o), .int (Int32.ofNat len), .null] 6)) (s₁.setTop (mkF m 0 #[.val (.ref a), .val (.ref b), .val (.int (Int32.ofNat o)), .val (.int (Int32.ofNat len)), .val .null, .unset] [])) := entry rfl
  have c2 : Steps p.tables e below (s₁.setTop (entryFrame m #[.ref a, .ref b, .int (Int32.ofNat o), .int (Int32.ofNat len), .null] 6)) (s₁.setTop (mkF m 1 #[.val (.ref a), .val (.ref b), .val (.int (Int32.ofNat o)), .val (.int (Int32.ofNat len)), .val .null, .unset] [.ref a])) := c1.trans (by
    refine XS.aloadN X0.here hexec rfl (hb hbytes d0) rfl rfl ?_
    exact Steps.refl _)
  obtain ⟨T3, X3, q3, st3⟩ := X0.oinit hexec hown (wks W (objW "java/lang/String" 1)) (g := (mkF m 1 #[.val (.ref a), .val (.ref b), .val (.int (Int32.ofNat o)), .val (.int (Int32.ofNat len)), .val .null, .unset] [.ref a])) rfl (by rw [hml]; rfl) (rest := []) rfl (hb hbytes d1) (W := 0) (by show 2 * 0 + 0 ≤ _; decide) (Nat.le_of_ble_eq_true rfl) (Nat.le_of_ble_eq_true rfl)
  have hh3 := q3.trans hh0
  have c4 : Steps p.tables e below (s₁.setTop (entryFrame m #[.ref a, .ref b, .int (Int32.ofNat o), .int (Int32.ofNat len), .null] 6)) (T3.setTop (mkF m 27 #[.val (.ref a), .val (.ref b), .val (.int (Int32.ofNat o)), .val (.int (Int32.ofNat len)), .val .null, .unset] [])) := (c2.trans (st3 _ (Steps.refl _))).trans (by
    refine XS.iloadN X3.here hexec rfl (hb hbytes d4) rfl ?_
    refine XS.ifYes X3.here hexec rfl (pc0 := 5) rfl (hb hbytes d5) rfl (i0_ne_t (nz32 (by omega) l0)) (by decide) rfl ?_
    exact Steps.refl _)
  obtain ⟨T5, X5, q5, st5⟩ := X3.sget hexec hown (wk W (.fieldLink "java/lang/String" 38 "java/lang/String" "COMPACT_STRINGS" "Z")) s1 (fun _ _ h => by rw [hh3]; exact h) (g := (mkF m 27 #[.val (.ref a), .val (.ref b), .val (.int (Int32.ofNat o)), .val (.int (Int32.ofNat len)), .val .null, .unset] [])) rfl (hb hbytes d27)
  have hh5 := q5.trans hh3
  have c6 : Steps p.tables e below (s₁.setTop (entryFrame m #[.ref a, .ref b, .int (Int32.ofNat o), .int (Int32.ofNat len), .null] 6)) (T5.setTop (mkF m 30 #[.val (.ref a), .val (.ref b), .val (.int (Int32.ofNat o)), .val (.int (Int32.ofNat len)), .val .null, .unset] [.int z])) := c4.trans (st5 _ (Steps.refl _))
  have c7 : Steps p.tables e below (s₁.setTop (entryFrame m #[.ref a, .ref b, .int (Int32.ofNat o), .int (Int32.ofNat len), .null] 6)) (T5.setTop (mkF m 36 #[.val (.ref a), .val (.ref b), .val (.int (Int32.ofNat o)), .val (.int (Int32.ofNat len)), .val .null, .unset] [.int (Int32.ofNat len), .int (Int32.ofNat o), .ref b])) := c6.trans (by
    refine XS.ifNo X5.here hexec rfl (hb hbytes d30) rfl (i0_eq_f hz) ?_
    refine XS.aloadN X5.here hexec rfl (hb hbytes d33) rfl rfl ?_
    refine XS.iloadN X5.here hexec rfl (hb hbytes d34) rfl ?_
    refine XS.iloadN X5.here hexec rfl (hb hbytes d35) rfl ?_
    exact Steps.refl _)
  obtain ⟨v8, T8, X8, E8, g8⟩ := X5.callS hexec (Cmp3.law l b A o len) hown (wks W (staticW "java/lang/String" 177 Cmp3.yN)) (wk W Cmp3.tab) (W := 0) (Nat.le_of_ble_eq_true rfl) (Nat.le_of_ble_eq_true rfl) (Nat.le_refl _) (by show 0 + len ≤ len; omega) (g := (mkF m 36 #[.val (.ref a), .val (.ref b), .val (.int (Int32.ofNat o)), .val (.int (Int32.ofNat len)), .val .null, .unset] [.int (Int32.ofNat len), .int (Int32.ofNat o), .ref b])) rfl (by rw [hml]; rfl) c7 (argsL := [.ref b, .int (Int32.ofNat o), .int (Int32.ofNat len)]) (rest := []) rfl rfl (by show 2 * 0 + 0 ≤ _; decide) (hb hbytes d36) (⟨rfl, hA.mv X5.warmed.alike hh5, l1, l2, hp⟩)
  obtain ⟨e8, z8⟩ := E8
  obtain ⟨rfl, N, n1, n2, n3, n4, n5, n6⟩ := NewArr.mv _ T5 s _ _ hh5.symm (Vm.Alike.refl _) rfl e8
  rw [hh5] at z8
  have hB1 := hB.keep X8.warmed.alike (n6 _ _ hB.1)
  have hne : s.heap.size ≠ a := (Nat.ne_of_lt (Array.getElem?_eq_some_iff.mp hB.1).1).symm
  have c9 : Steps p.tables e below (s₁.setTop (entryFrame m #[.ref a, .ref b, .int (Int32.ofNat o), .int (Int32.ofNat len), .null] 6)) (T8.setTop (mkF m 39 #[.val (.ref a), .val (.ref b), .val (.int (Int32.ofNat o)), .val (.int (Int32.ofNat len)), .val .null, .unset] [.ref s.heap.size])) := g8
  have c10 : Steps p.tables e below (s₁.setTop (entryFrame m #[.ref a, .ref b, .int (Int32.ofNat o), .int (Int32.ofNat len), .null] 6)) (T8.setTop (mkF m 45 #[.val (.ref a), .val (.ref b), .val (.int (Int32.ofNat o)), .val (.int (Int32.ofNat len)), .val .null, .val (.ref s.heap.size)] [.int (Int32.ofNat N.slots.size), .ref s.heap.size, .ref a])) := by
    have hc : Steps p.tables e below (s₁.setTop (entryFrame m #[.ref a, .ref b, .int (Int32.ofNat o), .int (Int32.ofNat len), .null] 6)) (T8.setTop (mkF m 45 #[.val (.ref a), .val (.ref b), .val (.int (Int32.ofNat o)), .val (.int (Int32.ofNat len)), .val .null, .val (.ref s.heap.size)] [.int (Int32.ofNat len), .ref s.heap.size, .ref a])) := c9.trans (by
      refine XS.astore X8.here hexec rfl (hb hbytes d39) rfl rfl rfl ?_
      refine XS.aloadN X8.here hexec rfl (hb hbytes d41) rfl rfl ?_
      refine XS.aload X8.here hexec rfl (hb hbytes d42) rfl rfl ?_
      refine XS.iloadN X8.here hexec rfl (hb hbytes d44) rfl ?_
      exact Steps.refl _)
    rw [n4]; exact hc
  obtain ⟨v11, T11, X11, E11, g11⟩ := X8.callS hexec (CodL.law l s.heap.size N) hown (wks W (staticW "java/lang/String" 47 CodL.yN)) (wk W CodL.tab) (W := 1) (Nat.le_of_ble_eq_true rfl) (Nat.le_of_ble_eq_true rfl) (Nat.le_refl _) (by show 0 + len + 0 ≤ len; omega) (g := (mkF m 45 #[.val (.ref a), .val (.ref b), .val (.int (Int32.ofNat o)), .val (.int (Int32.ofNat len)), .val .null, .val (.ref s.heap.size)] [.int (Int32.ofNat N.slots.size), .ref s.heap.size, .ref a])) rfl (by rw [hml]; rfl) c10 (argsL := [.ref s.heap.size, .int (Int32.ofNat N.slots.size)]) (rest := [.ref a]) rfl rfl (by show 2 * 0 + (1 + 0) ≤ _; decide) (hb hbytes d45) (⟨rfl, n1⟩)
  obtain ⟨rfl, q11⟩ := E11
  have hB11 := hB1.mv (X8.warmed.alike.symm.trans X11.warmed.alike) q11
  have c12 : Steps p.tables e below (s₁.setTop (entryFrame m #[.ref a, .ref b, .int (Int32.ofNat o), .int (Int32.ofNat len), .null] 6)) (T11.setTop (mkF m 48 #[.val (.ref a), .val (.ref b), .val (.int (Int32.ofNat o)), .val (.int (Int32.ofNat len)), .val .null, .val (.ref s.heap.size)] [.int 0, .ref a])) := g11
  obtain ⟨T13, X13, p13, bl13, sl13, st13⟩ := X11.finit hexec hown (wk W (.fieldLink "java/lang/String" 15 "java/lang/String" "coder" "B")) (Or.inr ⟨_, (wk W (.laysFinal "java/lang/String" "java/lang/String" "coder" "B"))⟩) (Or.inl ⟨rfl, hnm⟩) f2 (Or.inl rfl) hB11 (t := .byte) (by decide +kernel) rfl (g := (mkF m 48 #[.val (.ref a), .val (.ref b), .val (.int (Int32.ofNat o)), .val (.int (Int32.ofNat len)), .val .null, .val (.ref s.heap.size)] [.int 0, .ref a])) rfl (rest := []) rfl (hb hbytes d48)
  have c14 : Steps p.tables e below (s₁.setTop (entryFrame m #[.ref a, .ref b, .int (Int32.ofNat o), .int (Int32.ofNat len), .null] 6)) (T13.setTop (mkF m 54 #[.val (.ref a), .val (.ref b), .val (.int (Int32.ofNat o)), .val (.int (Int32.ofNat len)), .val .null, .val (.ref s.heap.size)] [.ref s.heap.size, .ref a])) := (c12.trans (st13 _ (Steps.refl _))).trans (by
    refine XS.aloadN X13.here hexec rfl (hb hbytes d51) rfl rfl ?_
    refine XS.aload X13.here hexec rfl (hb hbytes d52) rfl rfl ?_
    exact Steps.refl _)
  obtain ⟨T15, X15, p15, bl15, sl15, st15⟩ := X13.finit hexec hown (wk W (.fieldLink "java/lang/String" 9 "java/lang/String" "value" "[B")) (Or.inr ⟨_, (wk W (.laysFinal "java/lang/String" "java/lang/String" "value" "[B"))⟩) (Or.inl ⟨rfl, hnm⟩) f1 (Or.inl rfl) bl13 (t := (.array .byte)) (by decide +kernel) rfl (g := (mkF m 54 #[.val (.ref a), .val (.ref b), .val (.int (Int32.ofNat o)), .val (.int (Int32.ofNat len)), .val .null, .val (.ref s.heap.size)] [.ref s.heap.size, .ref a])) rfl (rest := []) rfl (hb hbytes d54)
  have c16 : Steps p.tables e below (s₁.setTop (entryFrame m #[.ref a, .ref b, .int (Int32.ofNat o), .int (Int32.ofNat len), .null] 6)) (T15.setTop (mkF m 57 #[.val (.ref a), .val (.ref b), .val (.int (Int32.ofNat o)), .val (.int (Int32.ofNat len)), .val .null, .val (.ref s.heap.size)] [])) := c14.trans (st15 _ (Steps.refl _))
  have ap := apart (Or.inr ⟨_, (wk W (.laysFinal "java/lang/String" "java/lang/String" "value" "[B"))⟩) (Or.inr ⟨_, (wk W (.laysFinal "java/lang/String" "java/lang/String" "coder" "B"))⟩) f1 f2 (t₁ := .array .byte) (t₂ := .byte) (by decide +kernel) (by decide +kernel) (by decide)
  have al := X8.warmed.alike.symm.trans X15.warmed.alike
  have n7 : T11.heap[s.heap.size]? = some N := by rw [q11]; exact n1.1
  exact ⟨T15, none, _, _, _, X15, by simp, rfl, by omega, (fun _ => rfl), ⟨rfl, _, N, bl15, ((Same.refl D _).set _ (by simp)).set _ (by simp), sl15, (Cell.slots_setSlot_ne _ ap).trans sl13, n1.keep al (p15.other hne (p13.other hne n7)), n2, by rw [al.findClass]; exact n3, n4, n5, fun y c h1 h2 => p15.other h1 (p13.other h1 (by rw [q11]; exact n6 y c h2)), by rw [p15.2.2, p13.2.2, q11]; exact z8⟩, fun fs hl => c16.trans (X15.returnOut hexec hret (hb hbytes d57) hl)⟩
end New4
namespace New1
def yN : MethodName := ⟨"java/lang/String", "<init>", "([C)V"⟩
abbrev yB : ByteArray := jdk_42_method_3_code
theorem d0 : decode yB 0 = .ok (.aload_n 0, 1) := by decide +kernel
theorem d1 : decode yB 1 = .ok (.aload_n 1, 1) := by decide +kernel
theorem d2 : decode yB 2 = .ok (.iconst 0, 1) := by decide +kernel
theorem d3 : decode yB 3 = .ok (.aload_n 1, 1) := by decide +kernel
theorem d4 : decode yB 4 = .ok (.arraylength, 1) := by decide +kernel
theorem d5 : decode yB 5 = .ok (.aconst_null, 1) := by decide +kernel
theorem d6 : decode yB 6 = .ok (.invokespecial 27, 3) := by decide +kernel
theorem d9 : decode yB 9 = .ok (.return_, 1) := by decide +kernel
def site : List Cond := [New4.tab] ++ initW "java/lang/String" 27 New4.yN
def tab : Cond := tabOf yN yB 2 none site
def P (a : Addr) (D : Cell) (fV fC : Field) (b : Addr) (A : Cell) (z : Int32) (args : Array Value) (s : State) : Prop := args = #[.ref a, .ref b] ∧ Blank "java/lang/String" a D s ∧ Found "java/lang/String" "value" "[B" fV s ∧ Found "java/lang/String" "coder" "B" fC s ∧ Ch b A s ∧ StaticIs s "java/lang/String" "COMPACT_STRINGS" "Z" (.int z) ∧ ¬ z = 0 ∧ 0 < A.slots.size ∧ A.slots.size ≤ 536870912 ∧ ∀ i, i < A.slots.size → ¬ 255 < cv A i
def E (a : Addr) (D : Cell) (fV fC : Field) (A : Cell) (r : Option Value) (s u : State) : Prop := Got a D fV fC A 0 A.slots.size r s u
/-- new String(chars), not empty, no char above 255: a Latin-1 String of their low bytes -/
theorem law (l : Launch) (a : Addr) (D : Cell) (fV fC : Field) (b : Addr) (A : Cell) (z : Int32) : Law l yN 2 1 3 52 yB 2 none site (P a D fV fC b A z) (E a D fV fC A) [⟨a, fC.slot⟩, ⟨a, fV.slot⟩] 1 A.slots.size := by
  refine Law.of_walk (plainFor_of_name (by decide +kernel)) (by decide +kernel) (by decide +kernel) (by decide) (fun _ _ h => by rw [h.1]; rfl) (fun _ U U' hal hh h => ⟨h.1, h.2.1.mv hal hh, h.2.2.1.al hal, h.2.2.2.1.al hal, h.2.2.2.2.1.mv hal hh, h.2.2.2.2.2.1.there hal hh, h.2.2.2.2.2.2⟩) (fun r U U' V V' h1 hal h2 h => Got.mv r U U' V V' h1 hal h2 h) ?_
  intro p e s m args below meth c s₁ X0 hexec hbytes hml hret hlk hnm hown hh0 W hP
  obtain ⟨rfl, hB, f1, f2, hA, s1, hz, l0, l2, hp⟩ := hP
  have c1 : Steps p.tables e below (s₁.setTop (entryFrame m #[.ref a, .ref b] 2)) (s₁.setTop (mkF m 0 #[.val (.ref a), .val (.ref b)] [])) := entry rfl
  have c2 : Steps p.tables e below (s₁.setTop (entryFrame m #[.ref a, .ref b] 2)) (s₁.setTop (mkF m 6 #[.val (.ref a), .val (.ref b)] [.null, .int (Int32.ofNat A.slots.size), .int 0, .ref b, .ref a])) := c1.trans (by
    refine XS.aloadN X0.here hexec rfl (hb hbytes d0) rfl rfl ?_
    refine XS.aloadN X0.here hexec rfl (hb hbytes d1) rfl rfl ?_
    refine iconstV X0.here hexec rfl 0 (hb hbytes d2) (by decide) ?_
    refine XS.aloadN X0.here hexec rfl (hb hbytes d3) rfl rfl ?_
    refine X0.alen hexec (hA.1.mv X0.warmed.alike hh0) rfl rfl (hb hbytes d4) ?_
    refine XS.aconstNull X0.here hexec rfl (hb hbytes d5) ?_
    exact Steps.refl _)
  obtain ⟨v3, T3, X3, E3, g3⟩ := X0.callN hexec (New4.law l a D fV fC b A z 0 A.slots.size) rfl hown (wks W (initW "java/lang/String" 27 New4.yN)) (W New4.tab (by simp only [site, List.mem_cons, List.mem_append, true_or, or_true])) (W := 0) (Nat.le_of_ble_eq_true rfl) (Nat.le_of_ble_eq_true rfl) (Nat.le_refl _) (by show 0 + A.slots.size ≤ A.slots.size; omega) (g := (mkF m 6 #[.val (.ref a), .val (.ref b)] [.null, .int (Int32.ofNat A.slots.size), .int (Int32.ofNat 0), .ref b, .ref a])) rfl (by rw [hml]; rfl) c2 (argsL := [.ref b, .int (Int32.ofNat 0), .int (Int32.ofNat A.slots.size), .null]) (rest := []) rfl rfl (by show 2 * 0 + 0 ≤ _; decide) (hb hbytes d6) (⟨rfl, hB.mv X0.warmed.alike hh0, f1.al X0.warmed.alike, f2.al X0.warmed.alike, hA.mv X0.warmed.alike hh0, s1.there X0.warmed.alike hh0, hz, l0, by omega, l2, fun i hi => by rw [Nat.zero_add]; exact hp i hi⟩)
  have e0 := Got.mv _ s₁ s _ _ hh0.symm (Vm.Alike.refl _) rfl E3
  obtain rfl := e0.1
  have c4 : Steps p.tables e below (s₁.setTop (entryFrame m #[.ref a, .ref b] 2)) (T3.setTop (mkF m 9 #[.val (.ref a), .val (.ref b)] [])) := g3
  exact ⟨T3, none, _, _, _, X3, by simp, rfl, by omega, (fun _ => rfl), e0, fun fs hl => c4.trans (X3.returnOut hexec hret (hb hbytes d9) hl)⟩
theorem pays {l : Launch} {R : Room} {p : Program} {e : Env} {below : List Frame} {s : State} {sargs : Array Value} {len W : Nat} (a : Addr) (D : Cell) (fV fC : Field) (b : Addr) (A : Cell) (z : Int32) (htab : tab.before sargs s = true) (hfr : 4 ≤ R.frames) (hlo : W + 65 ≤ R.locals) :
    Back l R p e below s sargs yN len W (fun A₁ a₁ => A₁.cells + 1 ≤ R.cells ∧ A₁.slots + A.slots.size ≤ R.slots ∧ P a D fV fC b A z a₁ A₁.U) (fun A₁ _ v₁ B₁ => E a D fV fC A v₁ A₁.U B₁.U ∧ B₁.locs = A₁.locs ++ [⟨a, fC.slot⟩, ⟨a, fV.slot⟩] ∧ B₁.cells = A₁.cells + 1 ∧ B₁.slots = A₁.slots + A.slots.size) :=
  (law l a D fV fC b A z).pays htab hfr (by omega)
end New1
/-- the byte, read back as charAt reads it, is the char -/
theorem lo8_mask {x : Int32} (h0 : ¬ x < 0) (h1 : ¬ 255 < x) : lo8 x &&& 255 = x := by
  have t : ∀ k : Fin 256, lo8 (Int32.ofNat k.val) &&& 255 = Int32.ofNat k.val := by decide +kernel
  rw [Int32.lt_iff_toInt_lt] at h0 h1
  have e0 : (0 : Int32).toInt = 0 := rfl
  have e1 : (255 : Int32).toInt = 255 := rfl
  obtain ⟨k, hk⟩ : ∃ k : Nat, x.toInt = k := ⟨x.toInt.toNat, by omega⟩
  have hx : x = Int32.ofNat k := Int32.toInt_inj.mp (by rw [hk, Int32.toInt_ofNat_small (by omega)])
  rw [hx]
  exact t ⟨k, by omega⟩
end StrChars
namespace StrChars.Road
open Jvm Sem ClassFile Op Lib Jvm.Stand Jvm.Free Jvm.Free.XT
open Jvm.Lib.Cold (StaticIs)
abbrev ST : String := "java/lang/String"
/-- every table word that New1's law asks, flat -/
abbrev words : List Jvm.Cond := [.code New1.yN New1.yB 2 none, .initialized ST, .methodLink ST 27 New4.yN, .instanceMethod New4.yN,
  .code New4.yN New4.yB 6 none, .fieldLink ST 38 ST "COMPACT_STRINGS" "Z", .laysFinal ST ST "value" "[B", .fieldLink ST 9 ST "value" "[B", .laysFinal ST ST "coder" "B", .fieldLink ST 15 ST "coder" "B",
  .methodLink ST 1 Lib.objectInit, .instanceMethod Lib.objectInit, .code Lib.objectInit ⟨#[0xb1]⟩ 1 none, .methodLink ST 177 Cmp3.yN, .static Cmp3.yN, .methodLink ST 47 CodL.yN, .static CodL.yN,
  .code Cmp3.yN Cmp3.yB 6 (some (.array .byte)), .initialized U16, .arrayClass .byte, .methodLink U16 115 Cmp5.yN, .static Cmp5.yN, .code Cmp5.yN Cmp5.yB 7 (some .int), .code CodL.yN CodL.yB 2 (some .byte)]
theorem tab_of {a : Array Value} {s : State} (h : ∀ w ∈ words, w.before a s = true) : New1.tab.before a s = true := by
  have h5 : Cmp5.tab.before a s = true := unparts (wk h (.code Cmp5.yN Cmp5.yB 7 (some .int))) (wks h (.initialized Cmp5.yN.cls :: Cmp5.site))
  have hc : CodL.tab.before a s = true := unparts (wk h (.code CodL.yN CodL.yB 2 (some .byte))) (wks h (.initialized CodL.yN.cls :: CodL.site))
  have q5 : ∀ w ∈ Cmp5.tab :: words, w.before a s = true := fun w hw => (List.mem_cons.mp hw).elim (fun e => e ▸ h5) (h w)
  have h3 : Cmp3.tab.before a s = true := unparts (wk q5 (.code Cmp3.yN Cmp3.yB 6 (some (.array .byte)))) (wks q5 (.initialized Cmp3.yN.cls :: Cmp3.site))
  have q3 : ∀ w ∈ Cmp3.tab :: CodL.tab :: words, w.before a s = true := fun w hw => (List.mem_cons.mp hw).elim (fun e => e ▸ h3) fun hw => (List.mem_cons.mp hw).elim (fun e => e ▸ hc) (h w)
  have h4 : New4.tab.before a s = true := unparts (wk q3 (.code New4.yN New4.yB 6 none)) (wks q3 (.initialized New4.yN.cls :: New4.site))
  have q4 : ∀ w ∈ New4.tab :: words, w.before a s = true := fun w hw => (List.mem_cons.mp hw).elim (fun e => e ▸ h4) (h w)
  exact unparts (wk q4 (.code New1.yN New1.yB 2 none)) (wks q4 (.initialized New1.yN.cls :: New1.site))
/-- the words ride from the start Z to the walk's own state -/
theorem moved {Z s : State} {a0 args : Array Value} (hZ : Z.Warmed39 s.vm) (hw : ∀ d ∈ words, d.before a0 Z = true) : ∀ d ∈ words, d.before args s = true := fun d hd => by
  have q := hw d hd
  have t : ∀ d ∈ words, d = .arrayClass .byte ∨ (d.onTables && d.keepsFace) = true := by decide +kernel
  rcases t d hd with rfl | t
  · exact RoadKit.mvA hZ q
  · exact RoadKit.mv hZ q t
/-- WHAT COMES BACK, over the tables of the start Z: h the heap at the call, h' behind it -/
def Q (Z : State) (x : Addr) (A : Cell) (h : Heap) (v : Option Value) (h' : Heap) (L : List Loc) : Prop := v = none ∧ (∀ y ∈ L, y.base = x) ∧ RoadKit.Keep h h' [x] ∧ h'.size = h.size + 1 ∧ RoadKit.Exa Z h' x ST ∧ RoadKit.Fld Z h' x ST "value" "[B" (.ref h.size) ∧ RoadKit.Fld Z h' x ST "coder" "B" (.int 0) ∧
  (∃ V : Cell, RoadKit.Arr Z h' h.size V .byte ∧ V.vm = .none ∧ Z.vm.findClass "[B" = some V.cls ∧ V.slots.size = A.slots.size ∧ ∀ j, j < A.slots.size → V.slots[j]? = some (.int (lo8 (cv A j)))) ∧
  ∀ (O n d : String) (w : Value), RoadKit.Fld Z h x O n d w → RoadKit.slotOf Z O n d ≠ RoadKit.slotOf Z ST "value" "[B" → RoadKit.slotOf Z O n d ≠ RoadKit.slotOf Z ST "coder" "B" → RoadKit.Fld Z h' x O n d w
/-- **new String(chars) AT A CALL, IN THE ROAD'S FORM**: for specialBack behind newO: x the fresh String, b the char[] with the cell A -/
theorem back {p : Program} {l : Launch} {e : Env} {R : Room} {s : State} {args : Array Value} {below : List Frame} {len W : Nat} {Z : State} {a0 : Array Value} {h : Heap} (hZ : Z.Warmed39 s.vm) (hw : ∀ d ∈ words, d.before a0 Z = true) {kI : Nat} (wi : (Jvm.Cond.instantiable ST kI).before a0 Z = true)
    {x b : Addr} {A : Cell} {z : Int32} {v0 c0 : Value} (E : RoadKit.Exa Z h x ST) (V : RoadKit.Fld Z h x ST "value" "[B" v0) (C : RoadKit.Fld Z h x ST "coder" "B" c0) (K : RoadKit.Arr Z h b A .char) (hty : Typed .char A) (S : RoadKit.Sta Z h ST "COMPACT_STRINGS" "Z" (.int z)) (hz : ¬ z = 0)
    (l0 : 0 < A.slots.size) (l2 : A.slots.size ≤ 536870912) (hp : ∀ i, i < A.slots.size → ¬ 255 < cv A i) (hfr : 4 ≤ R.frames) (hlo : W + 65 ≤ R.locals) :
    Back l R p e below s args New1.yN len W (fun P a => a = #[.ref x, .ref b] ∧ P.U.heap = h ∧ P.cells + 1 ≤ R.cells ∧ P.slots + A.slots.size ≤ R.slots)
      (fun P _ v B => ∃ L, Q Z x A h v B.U.heap L ∧ B.locs = P.locs ++ L ∧ B.cells = P.cells + 1 ∧ B.slots = P.slots + A.slots.size) := by
  intro m meth c P g ig mk a X hg hsize hdg hW hn hp'
  obtain ⟨rfl, rfl, r1, r2⟩ := hp'
  have al : Z.vm.Alike P.U.vm := hZ.alike.trans X.warmed.alike
  obtain ⟨D, cfV, kV, iV, fV, hD, gV, stV, knV, obV, asV, slV⟩ := id V
  obtain ⟨D', cfC, kC, iC, fC, hD', gC, stC, -, -, asC, slC⟩ := id C
  cases hD.symm.trans hD'
  obtain ⟨D2, kD, e1, e2, e3, e4, e5⟩ := id E
  cases hD.symm.trans e1
  obtain ⟨c2, k2, i1, i2, i3, -⟩ := Cond.instantiable_spec wi
  cases e2.symm.trans i1
  cases e3.symm.trans i2
  obtain ⟨kU, u1, u2⟩ := al.2.2 _ _ e3
  have hB : Blank ST x D P.U := ⟨hD, ⟨knV, fun q hq => by rw [hq] at obV; cases obV⟩, by rw [al.findClass]; exact e2, kU, u1, by rw [u2]; exact i3, by rw [u2]; exact e5 i3⟩
  have F1 : Found ST "value" "[B" fV P.U := ⟨SBG.found_only al ⟨cfV, kV, iV, gV⟩, stV⟩
  have F2 : Found ST "coder" "B" fC P.U := ⟨SBG.found_only al ⟨cfC, kC, iC, gC⟩, stC⟩
  have hA : Ch b A P.U := ⟨⟨K.1, State.isArrayOf_alike al K.2.1, K.2.2, by omega⟩, hty⟩
  have hS : StaticIs P.U ST "COMPACT_STRINGS" "Z" (.int z) := by
    obtain ⟨cfS, iS, kS, fS, st, cS, t1, t2, t3, t4, t5, t6, t7⟩ := S
    exact StaticIs.there (s := { Z with heap := P.U.heap }) ⟨cfS, iS, kS, fS, st, cS, t1, t2, t3, t4, t5, (fun q => by rw [q] at t6; cases t6), t7⟩ al rfl
  obtain ⟨v, B, X', ⟨⟨hv, E', V', q1, q2, q3, q4, q5, q6, q7, q8, q9, q10, q11⟩, hl, hc, hs⟩, st⟩ := New1.pays x D fV fC b A z (tab_of (moved hZ hw)) hfr hlo m meth c P g ig mk _ X hg hsize hdg hW hn ⟨r1, r2, rfl, hB, F1, F2, hA, hS, hz, l0, l2, hp⟩
  have al' : Z.vm.Alike B.U.vm := hZ.alike.trans X'.warmed.alike
  have hsz : E'.slots.size = D.slots.size := by
    obtain ⟨-, -, -, kB, w1, w2, w3⟩ := q1
    obtain ⟨kB', y1, y2⟩ := al'.2.2 _ _ e3
    rw [q2.2.1] at w1
    cases w1.symm.trans y1
    rw [w3, e5 i3, y2]
  refine ⟨v, B, X', ⟨_, ⟨hv, ?_, ⟨by omega, fun y cy hy hn' => q10 y cy (by simpa using hn') hy, fun y cy hy => ?_⟩, q11, ⟨E', _, q1.1, by rw [q2.2.1]; exact e2, by rw [q2.2.1]; exact e3, by rw [q2.1]; exact obV, fun _ => by rw [hsz]; exact e5 i3⟩,
    ⟨E', cfV, kV, iV, fV, q1.1, gV, stV, by rw [q2.1]; exact knV, by rw [q2.1]; exact obV, by rw [q2.2.1]; exact asV, q3⟩, ⟨E', cfC, kC, iC, fC, q1.1, gC, stC, by rw [q2.1]; exact knV, by rw [q2.1]; exact obV, by rw [q2.2.1]; exact asC, q4⟩,
    ⟨V', ⟨q5.1, State.isArrayOf_alike al'.symm q5.2.1, q5.2.2.1⟩, q6, by rw [← al'.findClass]; exact q7, q8, fun j hj => by have := q9 j hj; rwa [Nat.zero_add] at this⟩, fun O n d w F n1 n2 => ?_⟩, hl, hc, hs⟩, st⟩
  · intro y hy
    simp only [List.mem_cons, List.not_mem_nil, or_false] at hy
    rcases hy with rfl | rfl <;> rfl
  · by_cases q : y = x
    · subst q
      cases hD.symm.trans hy
      exact ⟨E', q1.1, q2.2.1, q2.1, hsz⟩
    · exact ⟨cy, q10 y cy q hy, rfl, rfl, rfl⟩
  · obtain ⟨D3, cf, k, i, f, g1, g2, g3, g4, g5, g6, g7⟩ := F
    cases hD.symm.trans g1
    simp only [RoadKit.slotOf, g2, gV, gC, Option.map_some, Option.getD_some] at n1 n2
    exact ⟨E', cf, k, i, f, q1.1, g2, g3, by rw [q2.1]; exact g4, by rw [q2.1]; exact g5, by rw [q2.2.1]; exact g6, by rw [q2.2.2 f.slot (by simp [n1, n2])]; exact g7⟩
end StrChars.Road
namespace StrChars.Road
open Jvm Sem ClassFile Op Lib Jvm.Stand Jvm.Free Jvm.Free.XT
/-- WHAT COMES BACK, the byte[] as a list of values -/
def QA (Z : State) (x : Addr) (zn : Int32) (cs : List Int32) (h : Heap) (v : Option Value) (h' : Heap) (L : List Loc) : Prop := v = none ∧ (∀ y ∈ L, y.base = x) ∧ RoadKit.Keep h h' [x] ∧ h'.size = h.size + 1 ∧ RoadKit.Exa Z h' x ST ∧ RoadKit.Fld Z h' x ST "value" "[B" (.ref h.size) ∧ RoadKit.Fld Z h' x ST "coder" "B" (.int 0) ∧
  (∃ kb, Z.vm.findClass "[B" = some kb ∧ RoadKit.Arv Z h' h.size kb .byte zn (cs.map fun c => .int (lo8 c)) (.int 0)) ∧
  ∀ (O n d : String) (w : Value), RoadKit.Fld Z h x O n d w → RoadKit.slotOf Z O n d ≠ RoadKit.slotOf Z ST "value" "[B" → RoadKit.slotOf Z O n d ≠ RoadKit.slotOf Z ST "coder" "B" → RoadKit.Fld Z h' x O n d w
/-- **new String(chars) AT A CALL, THE ARRAYS AS LISTS**: the char[] at b holds cs, not empty, no char above 255 -/
theorem backArv {p : Program} {l : Launch} {e : Env} {R : Room} {s : State} {args : Array Value} {below : List Frame} {len W : Nat} {Z : State} {a0 : Array Value} {h : Heap} (hZ : Z.Warmed39 s.vm) (hw : ∀ d ∈ words, d.before a0 Z = true) {kI : Nat} (wi : (Jvm.Cond.instantiable ST kI).before a0 Z = true)
    {x b : Addr} {k : ClassId} {zn z : Int32} {cs : List Int32} {dv v0 c0 : Value} (E : RoadKit.Exa Z h x ST) (V : RoadKit.Fld Z h x ST "value" "[B" v0) (C : RoadKit.Fld Z h x ST "coder" "B" c0) (K : RoadKit.Arv Z h b k .char zn (cs.map Value.int) dv) (S : RoadKit.Sta Z h ST "COMPACT_STRINGS" "Z" (.int z)) (hz : ¬ z = 0)
    (hlen : zn.toNatClampNeg = cs.length) (h0 : 0 < cs.length) (hbig : cs.length ≤ 536870912) (hall : ∀ c ∈ cs, ¬ 255 < c) (hfr : 4 ≤ R.frames) (hlo : W + 65 ≤ R.locals) :
    Back l R p e below s args New1.yN len W (fun P a => a = #[.ref x, .ref b] ∧ P.U.heap = h ∧ P.cells + 1 ≤ R.cells ∧ P.slots + cs.length ≤ R.slots)
      (fun P _ v B => ∃ L, QA Z x zn cs h v B.U.heap L ∧ B.locs = P.locs ++ L ∧ B.cells = P.cells + 1 ∧ B.slots = P.slots + cs.length) := by
  obtain ⟨A, K1, K2, K3, K4, K5, K6⟩ := K
  have e : A.slots.size = cs.length := K3.trans hlen
  have hat : ∀ (i : Nat) (hi : i < cs.length), A.slots[i]? = some (.int cs[i]) := fun i hi => by rw [K5 i (by omega)]; simp [List.getD_eq_getElem?_getD, hi]
  have hcv : ∀ (i : Nat) (hi : i < cs.length), cv A i = cs[i] := fun i hi => by unfold cv; rw [hat i hi]
  have hty : Typed .char A := fun i v hv => by
    have hi : i < A.slots.size := (Array.getElem?_eq_some_iff.mp hv).1
    have q := K5 i hi
    rw [hv] at q
    rw [Option.some.inj q]
    exact K6 i hi
  refine Back.mono (back hZ hw wi E V C K1 hty S hz (by omega) (by omega) (fun i hi => by rw [hcv i (by omega)]; exact hall _ (List.getElem_mem _)) hfr hlo) (fun P a hp => ⟨hp.1, hp.2.1, hp.2.2.1, by rw [e]; exact hp.2.2.2⟩) (fun P a v B hp hq => ?_)
  obtain ⟨L, ⟨q1, q2, q3, q4, q5, q6, q7, ⟨V', v1, v2, v3, v4, v5⟩, q9⟩, hl, hc, hs⟩ := hq
  refine ⟨L, ⟨q1, q2, q3, q4, q5, q6, q7, ⟨V'.cls, v3, V', v1, rfl, by rw [v4, e, hlen], K4, fun i hi => ?_, fun i hi => ?_⟩, q9⟩, hl, hc, by rw [hs, e]⟩
  · have hi' : i < cs.length := by omega
    rw [v5 i (by omega), hcv i hi']; simp [List.getD_eq_getElem?_getD, hi']
  · have hi' : i < cs.length := by omega
    simp only [List.getD_eq_getElem?_getD, List.getElem?_map, List.getElem?_eq_getElem hi', Option.map_some, Option.getD_some]
    exact fits_lo8 _
end StrChars.Road
namespace StrChars.Road
open Jvm Sem ClassFile Op Lib Jvm.Stand Jvm.Free Jvm.Free.XT
/-- WHAT COMES BACK, in the writer's own shape -/
def QV (Z : State) (x : Addr) (N : Int32) (bs : List Int32) (h : Heap) (n0 : Nat) (v : Option Value) (h' : Heap) (L : List Loc) : Prop := v = none ∧ RoadKit.Fr n0 L ∧ RoadKit.Keep h h' [x] ∧ RoadKit.Exa Z h' x ST ∧ RoadKit.Fld Z h' x ST "coder" "B" (.int 0) ∧
  ∃ (t : Addr) (kb : ClassId), n0 ≤ t ∧ h.size ≤ t ∧ ¬ t = x ∧ RoadKit.Fld Z h' x ST "value" "[B" (.ref t) ∧ RoadKit.Arv Z h' t kb .byte N (bs.map Value.int) (.int 0)
/-- **new String(chars) AT A CALL, FOR THE WRITER**: a char[] of n known ints, each 0 to 255 -/
theorem backV {p : Program} {l : Launch} {e : Env} {R : Room} {s : State} {args : Array Value} {below : List Frame} {len W : Nat} {Z : State} {a0 : Array Value} {h : Heap} (hZ : Z.Warmed39 s.vm) (hw : ∀ d ∈ words, d.before a0 Z = true) {kI : Nat} (wi : (Jvm.Cond.instantiable ST kI).before a0 Z = true)
    {x b : Addr} {kC : ClassId} {cs bs : List Int32} {d v0 c0 : Value} {z N : Int32} {n n0 : Nat} (hx0 : n0 ≤ x) (hh0 : n0 ≤ h.size) (E : RoadKit.Exa Z h x ST) (V : RoadKit.Fld Z h x ST "value" "[B" v0) (C : RoadKit.Fld Z h x ST "coder" "B" c0) (K : RoadKit.Arv Z h b kC .char N (cs.map Value.int) d) (S : RoadKit.Sta Z h ST "COMPACT_STRINGS" "Z" (.int z)) (hz : ¬ z = 0)
    (hn : cs.length = n) (hN : N = Int32.ofNat n) (l0 : 0 < n) (l2 : n ≤ 4000) (hp : ∀ c ∈ cs, ¬ c < 0 ∧ ¬ (255 : Int32) < c) (hb : bs = cs.map (fun c => c.toInt8.toInt32)) (hfr : 4 ≤ R.frames) (hlo : W + 65 ≤ R.locals) :
    Back l R p e below s args (⟨"java/lang/String", "<init>", "([C)V"⟩ : MethodName) len W (fun P a => a = #[.ref x, .ref b] ∧ P.U.heap = h ∧ P.cells + 1 ≤ R.cells ∧ P.slots + n ≤ R.slots)
      (fun P _ v B => ∃ L, QV Z x N bs h n0 v B.U.heap L ∧ B.locs = P.locs ++ L ∧ B.cells = P.cells + 1 ∧ B.slots = P.slots + n) := by
  subst hn hN hb
  refine Back.mono (backArv hZ hw wi E V C K S hz (n32 (by omega)) l0 (by omega) (fun c hc => (hp c hc).2) hfr hlo) (fun P a hp => hp) (fun P a v B hp hq => ?_)
  obtain ⟨L, ⟨q1, q2, q3, q4, q5, q6, q7, ⟨kb, v1, v2⟩, q9⟩, hl, hc, hs⟩ := hq
  exact ⟨L, ⟨q1, fun y hy => by rw [q2 y hy]; exact hx0, q3, q5, q7, h.size, kb, hh0, Nat.le_refl _, Nat.ne_of_gt E.lt, q6, by rw [List.map_map]; exact v2⟩, hl, hc, hs⟩
end StrChars.Road
namespace StrChars
open Jvm Sem ClassFile Op Lib Jvm.Stand Jvm.Free.XT Jvm.Free.ALB Jvm.Free.JM Jvm.Free
open Jvm.Lib.Cold (StaticIs)
def hi8 (x : Int32) : Int32 := lo8 (x >>> ((8 : Int32) &&& 31))
/-- what StringUTF16.getChar makes of two bytes -/
def pairCh (u v : Int32) : Int32 := (((u &&& 255) <<< ((0 : Int32) &&& 31)) ||| ((v &&& 255) <<< ((8 : Int32) &&& 31))).toUInt32.toUInt16.toUInt32.toInt32
theorem lo8_and (x : Int32) : (lo8 x &&& 255).toBitVec.toNat = x.toBitVec.toNat % 256 := by
  have h : (lo8 x).toBitVec = (x.toBitVec.signExtend 8).signExtend 32 := by rw [lo8, Int8.toBitVec_toInt32, Int32.toBitVec_toInt8]
  rw [Int32.toBitVec_and, BitVec.toNat_and, h]
  have e : ((x.toBitVec.signExtend 8).signExtend 32).toNat % 256 = x.toBitVec.toNat % 256 := by
    rw [BitVec.toNat_signExtend]
    have hlt := x.toBitVec.isLt
    simp only [BitVec.toNat_setWidth, BitVec.toNat_signExtend]
    split <;> split <;> omega
  rw [← e]
  exact Nat.and_two_pow_sub_one_eq_mod _ 8
theorem pair_says {c : Int32} (h0 : ¬ c < 0) (h1 : ¬ 65535 < c) : pairCh (lo8 c) (hi8 c) = c := by
  rw [Int32.lt_iff_toInt_lt] at h0 h1
  have e0 : (0 : Int32).toInt = 0 := rfl
  have e1 : (65535 : Int32).toInt = 65535 := rfl
  have hc : c.toInt = c.toBitVec.toNat := by
    have := c.toBitVec.isLt
    have e : c.toInt = c.toBitVec.toInt := rfl
    rw [e] at h0 h1
    rw [e]
    rw [BitVec.toInt_eq_toNat_cond] at h0 h1 ⊢
    split at h0 <;> split <;> omega
  have hn : c.toBitVec.toNat < 65536 := by omega
  have a1 := lo8_and c
  have a2 : (hi8 c &&& 255).toBitVec.toNat = c.toBitVec.toNat / 256 := by
    rw [hi8, lo8_and]
    have e : ((8 : Int32) &&& 31) = 8 := by decide
    rw [e, Int32.toBitVec_shiftRight]
    have e2 : ((8 : Int32).toBitVec.smod 32) = 8#32 := by decide
    rw [e2, BitVec.sshiftRight_eq', BitVec.toNat_sshiftRight_of_msb_false (by rw [BitVec.msb_eq_false_iff_two_mul_lt]; omega)]
    show c.toBitVec.toNat >>> 8 % 256 = _
    rw [Nat.shiftRight_eq_div_pow]
    omega
  unfold pairCh
  apply Int32.toBitVec_inj.mp
  apply BitVec.eq_of_toNat_eq
  have f0 : ((0 : Int32) &&& 31) = 0 := by decide
  have f8 : ((8 : Int32) &&& 31) = 8 := by decide
  rw [f0, f8]
  have g : (((lo8 c &&& 255) <<< (0 : Int32)) ||| ((hi8 c &&& 255) <<< (8 : Int32))).toBitVec.toNat = c.toBitVec.toNat := by
    rw [Int32.toBitVec_or, Int32.toBitVec_shiftLeft, Int32.toBitVec_shiftLeft]
    have s0 : ((0 : Int32).toBitVec.smod 32) = 0#32 := by decide
    have s8 : ((8 : Int32).toBitVec.smod 32) = 8#32 := by decide
    rw [s0, s8, BitVec.toNat_or]
    simp only [BitVec.shiftLeft_eq', BitVec.toNat_shiftLeft, a1, a2]
    show (c.toBitVec.toNat % 256) <<< 0 % 2 ^ 32 ||| (c.toBitVec.toNat / 256) <<< 8 % 2 ^ 32 = _
    rw [Nat.shiftLeft_zero, Nat.mod_eq_of_lt (show c.toBitVec.toNat % 256 < 2 ^ 32 by omega), Nat.mod_eq_of_lt (show (c.toBitVec.toNat / 256) <<< 8 < 2 ^ 32 by rw [Nat.shiftLeft_eq]; omega), Nat.or_comm, ← Nat.shiftLeft_add_eq_or_of_lt (by omega), Nat.shiftLeft_eq]
    omega
  show BitVec.toNat (((((lo8 c &&& 255) <<< (0 : Int32)) ||| ((hi8 c &&& 255) <<< (8 : Int32))).toBitVec.setWidth 16).setWidth 32) = _
  rw [BitVec.toNat_setWidth, BitVec.toNat_setWidth, g]
  omega
end StrChars
namespace StrChars
open Jvm Sem ClassFile Op Lib Jvm.Stand Jvm.Free.XT Jvm.Free.ALB Jvm.Free.JM Jvm.Free
open Jvm.Lib.Cold (StaticIs)
/-- the array's cell V codes the n chars f 0 .. f (n - 1) by the coder cd, as the JDK does: coder 1 just where some char is above 255 -/
def Cod (cd : Int32) (n : Nat) (f : Nat → Int32) (V : Cell) : Prop := (cd = 0 ∧ V.slots.size = n ∧ ∀ j, j < n → V.slots[j]? = some (.int (lo8 (f j))) ∧ ¬ 255 < f j) ∨ (cd = 1 ∧ V.slots.size = 2 * n ∧ (∀ j, j < n → V.slots[2 * j]? = some (.int (lo8 (f j))) ∧ V.slots[2 * j + 1]? = some (.int (hi8 (f j)))) ∧ ∃ j, j < n ∧ 255 < f j)
/-- **x is a String of the n chars f 0 .. f (n - 1)**, Latin-1 or UTF-16; its array at t has the cell V -/
def Txt (x t : Addr) (V : Cell) (cd : Int32) (n : Nat) (f : Nat → Int32) (U : State) : Prop := Exact "java/lang/String" x U ∧ Has x "java/lang/String" "value" "[B" (.ref t) U ∧ Has x "java/lang/String" "coder" "B" (.int cd) U ∧ XT.Arr .byte t V U ∧ Cod cd n f V ∧ ∀ j, j < n → ¬ f j < 0 ∧ ¬ 65535 < f j
theorem Txt.mv {x t : Addr} {V : Cell} {cd : Int32} {n : Nat} {f : Nat → Int32} {U U' : State} (h : Txt x t V cd n f U) (hal : U.vm.Alike U'.vm) (hh : U'.heap = U.heap) : Txt x t V cd n f U' := ⟨h.1.mv hal hh, h.2.1.mv hal hh, h.2.2.1.mv hal hh, h.2.2.2.1.mv hal hh, h.2.2.2.2⟩
end StrChars
namespace StrChars.Road
open Jvm Sem ClassFile Op Lib Jvm.Stand Jvm.Free Jvm.Free.XT
open Jvm.Lib.Cold (StaticIs)
theorem consq {a : Array Value} {s : State} {c : Jvm.Cond} {L : List Jvm.Cond} (h0 : c.before a s = true) (h : ∀ w ∈ L, w.before a s = true) : ∀ w ∈ c :: L, w.before a s = true := fun w hw => (List.mem_cons.mp hw).elim (fun e => e ▸ h0) (h w)
/-- the bytes of the chars cs, low before high -/
def wideBytes : List Int32 → List Value
  | [] => []
  | c :: cs => .int (lo8 c) :: .int (hi8 c) :: wideBytes cs
theorem wide_lo (d : Value) : ∀ (cs : List Int32) (j : Nat), j < cs.length → (wideBytes cs).getD (2 * j) d = .int (lo8 (cs.getD j 0))
  | [], j, h => absurd h (Nat.not_lt_zero j)
  | c :: cs, 0, _ => rfl
  | c :: cs, j + 1, h => by
    have q := wide_lo d cs j (by simpa using h)
    rw [show 2 * (j + 1) = 2 * j + 1 + 1 from by omega]
    simpa [wideBytes] using q
theorem wide_hi (d : Value) : ∀ (cs : List Int32) (j : Nat), j < cs.length → (wideBytes cs).getD (2 * j + 1) d = .int (hi8 (cs.getD j 0))
  | [], j, h => absurd h (Nat.not_lt_zero j)
  | c :: cs, 0, _ => rfl
  | c :: cs, j + 1, h => by
    have q := wide_hi d cs j (by simpa using h)
    rw [show 2 * (j + 1) + 1 = 2 * j + 1 + 1 + 1 from by omega]
    simpa [wideBytes] using q
theorem low_at (d : Value) (cs : List Int32) (j : Nat) (h : j < cs.length) : (cs.map fun c => Value.int (lo8 c)).getD j d = .int (lo8 (cs.getD j 0)) := by
  simp [List.getD_eq_getElem?_getD, h]
/-- an array of N2 bytes vs codes the chars cs by the coder cd -/
def CodA (cs : List Int32) (cd N2 : Int32) (vs : List Value) : Prop := (cd = 0 ∧ N2 = Int32.ofNat cs.length ∧ vs = (cs.map fun c => Value.int (lo8 c)) ∧ ∀ c ∈ cs, ¬ 255 < c) ∨ (cd = 1 ∧ N2 = Int32.ofNat (2 * cs.length) ∧ vs = wideBytes cs ∧ ∃ c ∈ cs, 255 < c)
theorem CodA.cod {cs : List Int32} {cd N2 : Int32} {vs : List Value} {V : Cell} (h : CodA cs cd N2 vs) (hn : 2 * cs.length < 2 ^ 31) (hs : V.slots.size = N2.toNatClampNeg) (hv : RoadKit.Has V vs (.int 0)) : Cod cd cs.length (fun j => cs.getD j 0) V := by
  rcases h with ⟨rfl, rfl, rfl, h⟩ | ⟨rfl, rfl, rfl, c, hc, hw⟩
  · rw [n32 (by omega)] at hs
    exact Or.inl ⟨rfl, hs, fun j hj => ⟨by rw [hv j (by omega), low_at _ _ _ hj], by
      have e : cs.getD j 0 = cs[j] := by simp [List.getD_eq_getElem?_getD, hj]
      show ¬ 255 < cs.getD j 0
      rw [e]; exact h _ (List.getElem_mem _)⟩⟩
  · rw [n32 (by omega)] at hs
    obtain ⟨j, hj, rfl⟩ := List.getElem_of_mem hc
    exact Or.inr ⟨rfl, hs, fun j hj => ⟨by rw [hv _ (by omega), wide_lo _ _ _ hj], by rw [hv _ (by omega), wide_hi _ _ _ hj]⟩, j, hj, by
      have e : cs.getD j 0 = cs[j] := by simp [List.getD_eq_getElem?_getD, hj]
      show 255 < cs.getD j 0
      rw [e]; exact hw⟩
/-- an object of exactly java/lang/String, its two fields found: as the laws ask it -/
theorem strObj {Z U : State} {a0 : Array Value} {kI : Nat} (wi : (Jvm.Cond.instantiable ST kI).before a0 Z = true) (al : Z.vm.Alike U.vm) {x : Addr} {v0 c0 : Value} (E : RoadKit.Exa Z U.heap x ST) (V : RoadKit.Fld Z U.heap x ST "value" "[B" v0) (C : RoadKit.Fld Z U.heap x ST "coder" "B" c0) :
    ∃ (D : Cell) (fV fC : Field), Blank ST x D U ∧ Found ST "value" "[B" fV U ∧ Found ST "coder" "B" fC U ∧ D.slots[fV.slot]? = some v0 ∧ D.slots[fC.slot]? = some c0 ∧ RoadKit.slotOf Z ST "value" "[B" = fV.slot ∧ RoadKit.slotOf Z ST "coder" "B" = fC.slot := by
  obtain ⟨D, cfV, kV, iV, fV, hD, gV, stV, knV, obV, asV, slV⟩ := V
  obtain ⟨D', cfC, kC, iC, fC, hD', gC, stC, -, -, asC, slC⟩ := C
  cases hD.symm.trans hD'
  obtain ⟨D2, kD, e1, e2, e3, e4, e5⟩ := E
  cases hD.symm.trans e1
  obtain ⟨c2, k2, i1, i2, i3, -⟩ := Cond.instantiable_spec wi
  cases e2.symm.trans i1
  cases e3.symm.trans i2
  obtain ⟨kU, u1, u2⟩ := al.2.2 _ _ e3
  exact ⟨D, fV, fC, ⟨hD, ⟨knV, fun q hq => by rw [hq] at obV; cases obV⟩, by rw [al.findClass]; exact e2, kU, u1, by rw [u2]; exact i3, by rw [u2]; exact e5 i3⟩, ⟨SBG.found_only al ⟨cfV, kV, iV, gV⟩, stV⟩, ⟨SBG.found_only al ⟨cfC, kC, iC, gC⟩, stC⟩, slV, slC, by simp [RoadKit.slotOf, gV], by simp [RoadKit.slotOf, gC]⟩
theorem sta_is {Z U : State} (al : Z.vm.Alike U.vm) {C n d : String} {v : Value} (S : RoadKit.Sta Z U.heap C n d v) : StaticIs U C n d v := by
  obtain ⟨cfS, iS, kS, fS, st, cS, t1, t2, t3, t4, t5, t6, t7⟩ := S
  exact StaticIs.there (s := { Z with heap := U.heap }) ⟨cfS, iS, kS, fS, st, cS, t1, t2, t3, t4, t5, (fun q => by rw [q] at t6; cases t6), t7⟩ al rfl
end StrChars.Road
namespace StrChars
open Jvm Sem ClassFile Op Lib Jvm.Stand Jvm.Free.XT Jvm.Free.ALB Jvm.Free.JM Jvm.Free
open Jvm.Lib.Cold (StaticIs)
/-- what place i of a byte[]'s cell holds -/
def yv (A : Cell) (i : Nat) : Int32 := match A.slots[i]? with | some (.int x) => x | _ => 0
theorem yv_get {a : Addr} {A : Cell} {U : State} (h : XT.Arr .byte a A U) (ht : Typed .byte A) {i : Nat} (hi : i < A.slots.size) : A.slots[i]? = some (.int (yv A i)) := by
  have e := Array.getElem?_eq_getElem hi
  have f := ht i _ e
  unfold yv; rw [e]
  generalize A.slots[i] = v at f
  cases v <;> simp [fits] at f ⊢
/-- the two arrays are equal, place for place -/
def EqC (A B : Cell) : Prop := A.slots.size = B.slots.size ∧ ∀ i, i < A.slots.size → yv A i = yv B i
/-- a boolean that says whether p -/
def Says01 (q : Prop) (r : Option Value) (s u : State) : Prop := ∃ v : Int32, r = some (.int v) ∧ u.heap = s.heap ∧ ((v = 1 ∧ q) ∨ (v = 0 ∧ ¬ q))
theorem Says01.mv {q : Prop} : ∀ r (U U' V V' : State), U'.heap = U.heap → V.vm.Alike V'.vm → V'.heap = V.heap → Says01 q r U V → Says01 q r U' V' :=
  fun r U U' V V' h1 _ h2 ⟨v, a, b, c⟩ => ⟨v, a, by rw [h1, h2]; exact b, c⟩
namespace LEq
def yN : MethodName := ⟨"java/lang/StringLatin1", "equals", "([B[B)Z"⟩
abbrev yB : ByteArray := jdk_43_method_13_code
theorem d0 : decode yB 0 = .ok (.aload_n 0, 1) := by decide +kernel
theorem d1 : decode yB 1 = .ok (.arraylength, 1) := by decide +kernel
theorem d2 : decode yB 2 = .ok (.aload_n 1, 1) := by decide +kernel
theorem d3 : decode yB 3 = .ok (.arraylength, 1) := by decide +kernel
theorem d4 : decode yB 4 = .ok (.if_icmp (.ne) 30, 3) := by decide +kernel
theorem d7 : decode yB 7 = .ok (.iconst 0, 1) := by decide +kernel
theorem d8 : decode yB 8 = .ok (.istore_n 2, 1) := by decide +kernel
theorem d9 : decode yB 9 = .ok (.iload_n 2, 1) := by decide +kernel
theorem d10 : decode yB 10 = .ok (.aload_n 0, 1) := by decide +kernel
theorem d11 : decode yB 11 = .ok (.arraylength, 1) := by decide +kernel
theorem d12 : decode yB 12 = .ok (.if_icmp (.ge) 20, 3) := by decide +kernel
theorem d15 : decode yB 15 = .ok (.aload_n 0, 1) := by decide +kernel
theorem d16 : decode yB 16 = .ok (.iload_n 2, 1) := by decide +kernel
theorem d17 : decode yB 17 = .ok (.baload, 1) := by decide +kernel
theorem d18 : decode yB 18 = .ok (.aload_n 1, 1) := by decide +kernel
theorem d19 : decode yB 19 = .ok (.iload_n 2, 1) := by decide +kernel
theorem d20 : decode yB 20 = .ok (.baload, 1) := by decide +kernel
theorem d21 : decode yB 21 = .ok (.if_icmp (.eq) 5, 3) := by decide +kernel
theorem d24 : decode yB 24 = .ok (.iconst 0, 1) := by decide +kernel
theorem d25 : decode yB 25 = .ok (.ireturn, 1) := by decide +kernel
theorem d26 : decode yB 26 = .ok (.iinc 2 1, 3) := by decide +kernel
theorem d29 : decode yB 29 = .ok (.goto (-20), 3) := by decide +kernel
theorem d32 : decode yB 32 = .ok (.iconst 1, 1) := by decide +kernel
theorem d33 : decode yB 33 = .ok (.ireturn, 1) := by decide +kernel
theorem d34 : decode yB 34 = .ok (.iconst 0, 1) := by decide +kernel
theorem d35 : decode yB 35 = .ok (.ireturn, 1) := by decide +kernel
def site : List Cond := []
def tab : Cond := tabOf yN yB 3 (some .boolean) site
def P (a : Addr) (A : Cell) (b : Addr) (B : Cell) (args : Array Value) (s : State) : Prop := args = #[.ref a, .ref b] ∧ XT.Arr .byte a A s ∧ Typed .byte A ∧ XT.Arr .byte b B s ∧ Typed .byte B
/-- whether two byte[] are equal, place for place -/
theorem law (l : Launch) (a : Addr) (A : Cell) (b : Addr) (B : Cell) : Law l yN 2 2 0 0 yB 3 (some .boolean) site (P a A b B) (Says01 (EqC A B)) [] 0 0 := by
  refine Law.of_walk (plainFor_of_name (by decide +kernel)) (by decide +kernel) (by decide +kernel) (by decide) (fun _ _ h => by rw [h.1]; rfl) (fun _ U U' hal hh h => ⟨h.1, h.2.1.mv hal hh, h.2.2.1, h.2.2.2.1.mv hal hh, h.2.2.2.2⟩) (fun r U U' V V' h1 hal h2 h => Says01.mv r U U' V V' h1 hal h2 h) ?_
  intro p e s m args below meth c s₁ X0 hexec hbytes hml hret hlk hnm hown hh0 W hP
  obtain ⟨rfl, hA, tA, hB, tB⟩ := hP
  have a31 := hA.2.2.2
  have b31 := hB.2.2.2
  have hA0 := hA.mv X0.warmed.alike hh0
  have hB0 := hB.mv X0.warmed.alike hh0
  have c1 : Steps p.tables e below (s₁.setTop (entryFrame m #[.ref a, .ref b] 3)) (s₁.setTop (mkF m 0 #[.val (.ref a), .val (.ref b), .unset] [])) := entry rfl
  have c2 : Steps p.tables e below (s₁.setTop (entryFrame m #[.ref a, .ref b] 3)) (s₁.setTop (mkF m 4 #[.val (.ref a), .val (.ref b), .unset] [.int (Int32.ofNat B.slots.size), .int (Int32.ofNat A.slots.size)])) := c1.trans (by
    refine XS.aloadN X0.here hexec rfl (hb hbytes d0) rfl rfl ?_
    refine X0.alen hexec hA0 rfl rfl (hb hbytes d1) ?_
    refine XS.aloadN X0.here hexec rfl (hb hbytes d2) rfl rfl ?_
    refine X0.alen hexec hB0 rfl rfl (hb hbytes d3) ?_
    exact Steps.refl _)
  by_cases hs : A.slots.size = B.slots.size
  · have c3 : Steps p.tables e below (s₁.setTop (entryFrame m #[.ref a, .ref b] 3)) (s₁.setTop (mkF m 9 #[.val (.ref a), .val (.ref b), .val (.int 0)] [])) := c2.trans (by
      refine XS.icmpNo X0.here hexec rfl (hb hbytes d4) rfl (ii_ne_f (by rw [hs])) ?_
      refine iconstV X0.here hexec rfl 0 (hb hbytes d7) (by decide) ?_
      refine XS.istoreN X0.here hexec rfl (hb hbytes d8) rfl rfl ?_
      exact Steps.refl _)
    have loop : ∀ (r i : Nat), i + r = A.slots.size → (∀ j, j < i → yv A j = yv B j) → Steps p.tables e below (s₁.setTop (entryFrame m #[.ref a, .ref b] 3)) (s₁.setTop (mkF m 9 #[.val (.ref a), .val (.ref b), .val (.int (Int32.ofNat i))] [])) → ∃ (pc : Nat) (Ls : Array Slot) (v : Int32), (pc = 25 ∨ pc = 33) ∧ ((v = 1 ∧ EqC A B) ∨ (v = 0 ∧ ¬ EqC A B)) ∧ Steps p.tables e below (s₁.setTop (entryFrame m #[.ref a, .ref b] 3)) (s₁.setTop (mkF m pc Ls [.int v])) := by
      intro r
      induction r with
      | zero =>
        intro i hi he cl
        exact ⟨33, _, 1, Or.inr rfl, Or.inl ⟨rfl, hs, fun j hj => he j (by omega)⟩, cl.trans (by
          refine XS.iloadN X0.here hexec rfl (hb hbytes d9) rfl ?_
          refine XS.aloadN X0.here hexec rfl (hb hbytes d10) rfl rfl ?_
          refine X0.alen hexec hA0 rfl rfl (hb hbytes d11) ?_
          refine XS.icmpYes X0.here hexec rfl (pc0 := 12) rfl (hb hbytes d12) rfl (ii_ge_t (nlt32 (by omega) (by omega))) (by decide) rfl ?_
          refine iconstV X0.here hexec rfl 1 (hb hbytes d32) (by decide) ?_
          exact Steps.refl _)⟩
      | succ r ih =>
        intro i hi he cl
        have c4 : Steps p.tables e below (s₁.setTop (entryFrame m #[.ref a, .ref b] 3)) (s₁.setTop (mkF m 21 #[.val (.ref a), .val (.ref b), .val (.int (Int32.ofNat i))] [.int (yv B i), .int (yv A i)])) := cl.trans (by
          refine XS.iloadN X0.here hexec rfl (hb hbytes d9) rfl ?_
          refine XS.aloadN X0.here hexec rfl (hb hbytes d10) rfl rfl ?_
          refine X0.alen hexec hA0 rfl rfl (hb hbytes d11) ?_
          refine XS.icmpNo X0.here hexec rfl (hb hbytes d12) rfl (ii_ge_f (lt32 (by omega) (by omega))) ?_
          refine XS.aloadN X0.here hexec rfl (hb hbytes d15) rfl rfl ?_
          refine XS.iloadN X0.here hexec rfl (hb hbytes d16) rfl ?_
          refine X0.aget hexec hA0 rfl (yv_get hA tA (i := i) (by omega)) rfl rfl (hb hbytes d17) ?_
          refine XS.aloadN X0.here hexec rfl (hb hbytes d18) rfl rfl ?_
          refine XS.iloadN X0.here hexec rfl (hb hbytes d19) rfl ?_
          refine X0.aget hexec hB0 rfl (yv_get hB tB (i := i) (by omega)) rfl rfl (hb hbytes d20) ?_
          exact Steps.refl _)
        by_cases hv : yv A i = yv B i
        · have c5 : Steps p.tables e below (s₁.setTop (entryFrame m #[.ref a, .ref b] 3)) (s₁.setTop (mkF m 9 #[.val (.ref a), .val (.ref b), .val (.int (Int32.ofNat i + 1))] [])) := c4.trans (by
            refine XS.icmpYes X0.here hexec rfl (pc0 := 21) rfl (hb hbytes d21) rfl (ii_eq_t hv) (by decide) rfl ?_
            refine iincV X0.here hexec rfl 1 (hb hbytes d26) (by decide) rfl rfl ?_
            refine XS.goto X0.here hexec rfl (pc0 := 29) rfl (hb hbytes d29) (by decide) rfl ?_
            exact Steps.refl _)
          rw [succ32] at c5
          exact ih (i + 1) (by omega) (fun j hj => by
            by_cases e : j = i
            · rw [e]; exact hv
            · exact he j (by omega)) c5
        · exact ⟨25, _, 0, Or.inl rfl, Or.inr ⟨rfl, fun q => hv (q.2 i (by omega))⟩, c4.trans (by
            refine XS.icmpNo X0.here hexec rfl (hb hbytes d21) rfl (ii_eq_f hv) ?_
            refine iconstV X0.here hexec rfl 0 (hb hbytes d24) (by decide) ?_
            exact Steps.refl _)⟩
    obtain ⟨pc, Ls, v, hpc, hv, cz⟩ := loop A.slots.size 0 (by omega) (fun j hj => absurd hj (Nat.not_lt_zero j)) c3
    have nv : narrow .boolean (.int v) = .int v := by rcases hv with ⟨rfl, -⟩ | ⟨rfl, -⟩ <;> rfl
    rcases hpc with rfl | rfl
    · exact ⟨s₁, some (.int v), _, _, _, X0, rfl, rfl, rfl, (fun h => by cases h), ⟨v, rfl, hh0, hv⟩, fun fs hl => cz.trans (X0.ireturnOut hexec hret nv (Or.inr (Or.inl rfl)) (hb hbytes d25) hl)⟩
    · exact ⟨s₁, some (.int v), _, _, _, X0, rfl, rfl, rfl, (fun h => by cases h), ⟨v, rfl, hh0, hv⟩, fun fs hl => cz.trans (X0.ireturnOut hexec hret nv (Or.inr (Or.inl rfl)) (hb hbytes d33) hl)⟩
  · have c3 : Steps p.tables e below (s₁.setTop (entryFrame m #[.ref a, .ref b] 3)) (s₁.setTop (mkF m 35 #[.val (.ref a), .val (.ref b), .unset] [.int 0])) := c2.trans (by
      refine XS.icmpYes X0.here hexec rfl (pc0 := 4) rfl (hb hbytes d4) rfl (ii_ne_t (ne32 a31 b31 hs)) (by decide) rfl ?_
      refine iconstV X0.here hexec rfl 0 (hb hbytes d34) (by decide) ?_
      exact Steps.refl _)
    exact ⟨s₁, some (.int 0), _, _, _, X0, rfl, rfl, rfl, (fun h => by cases h), ⟨0, rfl, hh0, Or.inr ⟨rfl, fun q => hs q.1⟩⟩, fun fs hl => c3.trans (X0.ireturnOut hexec hret rfl (Or.inr (Or.inl rfl)) (hb hbytes d35) hl)⟩
end LEq
theorem Cod.ty {cd : Int32} {n : Nat} {f : Nat → Int32} {V : Cell} (h : Cod cd n f V) : Typed .byte V := fun i v hv => by
  have hi : i < V.slots.size := (Array.getElem?_eq_some_iff.mp hv).1
  rcases h with ⟨-, k1, k2⟩ | ⟨-, k1, k2, -⟩
  · rw [(k2 i (by omega)).1] at hv; cases hv; exact fits_lo8 _
  · rcases Nat.mod_two_eq_zero_or_one i with e | e
    · obtain ⟨j, rfl⟩ : ∃ j, i = 2 * j := ⟨i / 2, by omega⟩
      rw [(k2 j (by omega)).1] at hv; cases hv; exact fits_lo8 _
    · obtain ⟨j, rfl⟩ : ∃ j, i = 2 * j + 1 := ⟨i / 2, by omega⟩
      rw [(k2 j (by omega)).2] at hv; cases hv; exact fits_lo8 _
/-- the same text -/
def SameT (n : Nat) (f : Nat → Int32) (k : Nat) (g : Nat → Int32) : Prop := n = k ∧ ∀ j, j < n → f j = g j
theorem lo8_inj {x y : Int32} (h0 : ¬ x < 0) (h1 : ¬ 255 < x) (k0 : ¬ y < 0) (k1 : ¬ 255 < y) (h : lo8 x = lo8 y) : x = y := by
  rw [← lo8_mask h0 h1, ← lo8_mask k0 k1, h]
/-- arrays coded by one coder are equal just where the texts are -/
theorem Cod.eqv {cd : Int32} {n k : Nat} {f g : Nat → Int32} {V V' : Cell} (h : Cod cd n f V) (h' : Cod cd k g V') (hf : ∀ j, j < n → ¬ f j < 0 ∧ ¬ 65535 < f j) (hg : ∀ j, j < k → ¬ g j < 0 ∧ ¬ 65535 < g j) : EqC V V' ↔ SameT n f k g := by
  have yvv : ∀ {W : Cell} {i : Nat} {x : Int32}, W.slots[i]? = some (.int x) → yv W i = x := fun q => by unfold yv; rw [q]
  rcases h with ⟨rfl, k1, k2⟩ | ⟨rfl, k1, k2, -⟩
  · rcases h' with ⟨-, m1, m2⟩ | ⟨e, -⟩
    · constructor
      · rintro ⟨e1, e2⟩
        refine ⟨by omega, fun j hj => ?_⟩
        have q := e2 j (by omega)
        rw [yvv (k2 j hj).1, yvv (m2 j (by omega)).1] at q
        exact lo8_inj (hf j hj).1 (k2 j hj).2 (hg j (by omega)).1 (m2 j (by omega)).2 q
      · rintro ⟨rfl, e2⟩
        refine ⟨by omega, fun j hj => ?_⟩
        rw [yvv (k2 j (by omega)).1, yvv (m2 j (by omega)).1, e2 j (by omega)]
    · exact absurd e (by decide)
  · rcases h' with ⟨e, -⟩ | ⟨-, m1, m2, -⟩
    · exact absurd e (by decide)
    · constructor
      · rintro ⟨e1, e2⟩
        refine ⟨by omega, fun j hj => ?_⟩
        have q1 := e2 (2 * j) (by omega)
        have q2 := e2 (2 * j + 1) (by omega)
        rw [yvv (k2 j hj).1, yvv (m2 j (by omega)).1] at q1
        rw [yvv (k2 j hj).2, yvv (m2 j (by omega)).2] at q2
        rw [← pair_says (hf j hj).1 (hf j hj).2, ← pair_says (hg j (by omega)).1 (hg j (by omega)).2, q1, q2]
      · rintro ⟨rfl, e2⟩
        refine ⟨by omega, fun i hi => ?_⟩
        rcases Nat.mod_two_eq_zero_or_one i with e | e
        · obtain ⟨j, rfl⟩ : ∃ j, i = 2 * j := ⟨i / 2, by omega⟩
          rw [yvv (k2 j (by omega)).1, yvv (m2 j (by omega)).1, e2 j (by omega)]
        · obtain ⟨j, rfl⟩ : ∃ j, i = 2 * j + 1 := ⟨i / 2, by omega⟩
          rw [yvv (k2 j (by omega)).2, yvv (m2 j (by omega)).2, e2 j (by omega)]
/-- two codings differ: so do the texts -/
theorem Cod.dif {cd cd' : Int32} {n k : Nat} {f g : Nat → Int32} {V V' : Cell} (h : Cod cd n f V) (h' : Cod cd' k g V') (hne : ¬ cd = cd') : ¬ SameT n f k g := by
  rintro ⟨rfl, e⟩
  rcases h with ⟨rfl, -, k2⟩ | ⟨rfl, -, -, j, hj, hw⟩
  · rcases h' with ⟨rfl, -⟩ | ⟨-, -, -, j, hj, hw⟩
    · exact hne rfl
    · exact (k2 j hj).2 (by rw [e j hj]; exact hw)
  · rcases h' with ⟨-, -, m2⟩ | ⟨rfl, -⟩
    · exact (m2 j hj).2 (by rw [← e j hj]; exact hw)
    · exact hne rfl
/-- an object of exactly C is an instance of C -/
theorem cinst {p : Program} {l : Launch} {e : Env} {R : Room} {s : State} {m : MethodId} {args : Array Value} {below : List Frame} {meth : Method} {c : Code} {T : State} {locs : List Loc} {cells slots : Nat} (X : Stand p l e R s m args below meth c T locs cells slots) (hexec : p.tables.exec = Jvm.exec) {own C : String} {index : Nat} (hown : s.vm.findClass own = some m.cls) (hlink : (Cond.classLink own index C).before args s = true) {a : Addr} (hE : Exact C a T)
    {g : JFrame} (hg : g.method = m) {rest : List Value} (hstack : g.stack = .ref a :: rest) (hdg : decode c.code g.pc = .ok (.instanceof index, 3)) :
    ∃ T', Stand p l e R s m args below meth c T' locs cells slots ∧ T'.heap = T.heap ∧ ∀ target, Steps p.tables e below (T'.setTop { g with pc := g.pc + 3, stack := .int 1 :: rest }) target → Steps p.tables e below (T.setTop g) target := by
  obtain ⟨cB, h1, D, h2, h3, h4⟩ := hE
  have h1' : s.vm.findClass C = some cB := by rw [← X.warmed.alike.findClass]; exact h1
  obtain ⟨vm', X', st⟩ := X.instanceofYes hexec hown hlink h2 h4 h1' (by rw [h3]; exact Jvm.Free.SB.assignable_self _ _) hg hstack hdg
  exact ⟨_, X', rfl, st⟩
theorem cself {p : Program} {l : Launch} {e : Env} {R : Room} {s : State} {m : MethodId} {args : Array Value} {below : List Frame} {meth : Method} {c : Code} {T : State} {locs : List Loc} {cells slots : Nat} (X : Stand p l e R s m args below meth c T locs cells slots) (hexec : p.tables.exec = Jvm.exec) {own C : String} {index : Nat} (hown : s.vm.findClass own = some m.cls) (hlink : (Cond.classLink own index C).before args s = true) {a : Addr} (hE : Exact C a T)
    {g : JFrame} (hg : g.method = m) {rest : List Value} (hstack : g.stack = .ref a :: rest) (hdg : decode c.code g.pc = .ok (.checkcast index, 3)) :
    ∃ T', Stand p l e R s m args below meth c T' locs cells slots ∧ T'.heap = T.heap ∧ ∀ target, Steps p.tables e below (T'.setTop { g with pc := g.pc + 3, stack := .ref a :: rest }) target → Steps p.tables e below (T.setTop g) target := by
  obtain ⟨cB, h1, D, h2, h3, h4⟩ := hE
  have h1' : s.vm.findClass C = some cB := by rw [← X.warmed.alike.findClass]; exact h1
  obtain ⟨vm', X', st⟩ := X.checkcastYes hexec hown hlink h2 h4 h1' (by rw [h3]; exact Jvm.Free.SB.assignable_self _ _) hg hstack hdg
  exact ⟨_, X', rfl, fun t h => st t (by rw [← hstack] at h; exact h)⟩
namespace SEq
def yN : MethodName := ⟨"java/lang/String", "equals", "(Ljava/lang/Object;)Z"⟩
abbrev yB : ByteArray := jdk_42_method_66_code
theorem d0 : decode yB 0 = .ok (.aload_n 0, 1) := by decide +kernel
theorem d1 : decode yB 1 = .ok (.aload_n 1, 1) := by decide +kernel
theorem d2 : decode yB 2 = .ok (.if_acmp (.ne) 5, 3) := by decide +kernel
theorem d5 : decode yB 5 = .ok (.iconst 1, 1) := by decide +kernel
theorem d6 : decode yB 6 = .ok (.ireturn, 1) := by decide +kernel
theorem d7 : decode yB 7 = .ok (.aload_n 1, 1) := by decide +kernel
theorem d8 : decode yB 8 = .ok (.instanceof 10, 3) := by decide +kernel
theorem d11 : decode yB 11 = .ok (.ifCond (.eq) 43, 3) := by decide +kernel
theorem d14 : decode yB 14 = .ok (.aload_n 1, 1) := by decide +kernel
theorem d15 : decode yB 15 = .ok (.checkcast 10, 3) := by decide +kernel
theorem d18 : decode yB 18 = .ok (.astore_n 2, 1) := by decide +kernel
theorem d19 : decode yB 19 = .ok (.getstatic 38, 3) := by decide +kernel
theorem d22 : decode yB 22 = .ok (.ifCond (.eq) 14, 3) := by decide +kernel
theorem d25 : decode yB 25 = .ok (.aload_n 0, 1) := by decide +kernel
theorem d26 : decode yB 26 = .ok (.getfield 15, 3) := by decide +kernel
theorem d29 : decode yB 29 = .ok (.aload_n 2, 1) := by decide +kernel
theorem d30 : decode yB 30 = .ok (.getfield 15, 3) := by decide +kernel
theorem d33 : decode yB 33 = .ok (.if_icmp (.ne) 21, 3) := by decide +kernel
theorem d36 : decode yB 36 = .ok (.aload_n 0, 1) := by decide +kernel
theorem d37 : decode yB 37 = .ok (.getfield 9, 3) := by decide +kernel
theorem d40 : decode yB 40 = .ok (.aload_n 2, 1) := by decide +kernel
theorem d41 : decode yB 41 = .ok (.getfield 9, 3) := by decide +kernel
theorem d44 : decode yB 44 = .ok (.invokestatic 541, 3) := by decide +kernel
theorem d47 : decode yB 47 = .ok (.ifCond (.eq) 7, 3) := by decide +kernel
theorem d50 : decode yB 50 = .ok (.iconst 1, 1) := by decide +kernel
theorem d51 : decode yB 51 = .ok (.goto 4, 3) := by decide +kernel
theorem d54 : decode yB 54 = .ok (.iconst 0, 1) := by decide +kernel
theorem d55 : decode yB 55 = .ok (.ireturn, 1) := by decide +kernel
def site : List Cond := [.classLink "java/lang/String" 10 "java/lang/String", .fieldLink "java/lang/String" 38 "java/lang/String" "COMPACT_STRINGS" "Z", .fieldLink "java/lang/String" 15 "java/lang/String" "coder" "B", .fieldLink "java/lang/String" 9 "java/lang/String" "value" "[B", LEq.tab] ++ staticW "java/lang/String" 541 LEq.yN
def tab : Cond := tabOf yN yB 3 (some .boolean) site
def P (x t : Addr) (V : Cell) (cd : Int32) (n : Nat) (f : Nat → Int32) (y t' : Addr) (V' : Cell) (cd' : Int32) (k : Nat) (g : Nat → Int32) (z : Int32) (args : Array Value) (s : State) : Prop := args = #[.ref x, .ref y] ∧ Txt x t V cd n f s ∧ Txt y t' V' cd' k g s ∧ StaticIs s "java/lang/String" "COMPACT_STRINGS" "Z" (.int z) ∧ ¬ z = 0
/-- equals(Object) of two Strings: whether the texts are the same -/
theorem law (l : Launch) (x t : Addr) (V : Cell) (cd : Int32) (n : Nat) (f : Nat → Int32) (y t' : Addr) (V' : Cell) (cd' : Int32) (k : Nat) (g : Nat → Int32) (z : Int32) : Law l yN 2 1 1 14 yB 3 (some .boolean) site (P x t V cd n f y t' V' cd' k g z) (Says01 (SameT n f k g)) [] 0 0 := by
  refine Law.of_walk (plainFor_of_name (by decide +kernel)) (by decide +kernel) (by decide +kernel) (by decide) (fun _ _ h => by rw [h.1]; rfl) (fun _ U U' hal hh h => ⟨h.1, h.2.1.mv hal hh, h.2.2.1.mv hal hh, h.2.2.2.1.there hal hh, h.2.2.2.2⟩) (fun r U U' V V' h1 hal h2 h => Says01.mv r U U' V V' h1 hal h2 h) ?_
  intro p e s m args below meth c s₁ X0 hexec hbytes hml hret hlk hnm hown hh0 W hP
  obtain ⟨rfl, hx, hy, s1, hz⟩ := hP
  have c1 : Steps p.tables e below (s₁.setTop (entryFrame m #[.ref x, .ref y] 3)) (s₁.setTop (mkF m 2 #[.val (.ref x), .val (.ref y), .unset] [.ref y, .ref x])) := Steps.trans (entry rfl) (by
    show Steps p.tables e below (s₁.setTop (mkF m 0 #[.val (.ref x), .val (.ref y), .unset] [])) _
    refine XS.aloadN X0.here hexec rfl (hb hbytes d0) rfl rfl ?_
    refine XS.aloadN X0.here hexec rfl (hb hbytes d1) rfl rfl ?_
    exact Steps.refl _)
  by_cases hxy : x = y
  · have c2 : Steps p.tables e below (s₁.setTop (entryFrame m #[.ref x, .ref y] 3)) (s₁.setTop (mkF m 6 #[.val (.ref x), .val (.ref y), .unset] [.int 1])) := c1.trans (by
      refine acmpNo X0.here hexec rfl (hb hbytes d2) rfl rfl rfl (by simp [acmp, hxy]) ?_
      refine iconstV X0.here hexec rfl 1 (hb hbytes d5) (by decide) ?_
      exact Steps.refl _)
    subst hxy
    have ec : cd = cd' := by
      obtain ⟨D, fd, a1, a2, a3⟩ := hx.2.2.1
      obtain ⟨D', fd', b1, b2, b3⟩ := hy.2.2.1
      cases a1.symm.trans b1
      obtain ⟨q1, q2, q3, q4⟩ := a2.1
      obtain ⟨r1, r2, r3, r4⟩ := b2.1
      cases q4.symm.trans r4
      cases a3.symm.trans b3; rfl
    have et : t = t' := by
      obtain ⟨D, fd, a1, a2, a3⟩ := hx.2.1
      obtain ⟨D', fd', b1, b2, b3⟩ := hy.2.1
      cases a1.symm.trans b1
      obtain ⟨q1, q2, q3, q4⟩ := a2.1
      obtain ⟨r1, r2, r3, r4⟩ := b2.1
      cases q4.symm.trans r4
      cases a3.symm.trans b3; rfl
    subst ec et
    have ev : V = V' := by cases hx.2.2.2.1.1.symm.trans hy.2.2.2.1.1; rfl
    subst ev
    have hs : SameT n f k g := (Cod.eqv hx.2.2.2.2.1 hy.2.2.2.2.1 hx.2.2.2.2.2 hy.2.2.2.2.2).mp ⟨rfl, fun _ _ => rfl⟩
    exact ⟨s₁, some (.int 1), _, _, _, X0, rfl, rfl, rfl, (fun h => by cases h), ⟨1, rfl, hh0, Or.inl ⟨rfl, hs⟩⟩, fun fs hl => c2.trans (X0.ireturnOut hexec hret rfl (Or.inr (Or.inl rfl)) (hb hbytes d6) hl)⟩
  · have c2 : Steps p.tables e below (s₁.setTop (entryFrame m #[.ref x, .ref y] 3)) (s₁.setTop (mkF m 8 #[.val (.ref x), .val (.ref y), .unset] [.ref y])) := c1.trans (by
      refine acmpYes X0.here hexec rfl (pc0 := 2) rfl (hb hbytes d2) rfl rfl rfl (by simp [acmp, hxy]) (by decide) rfl ?_
      refine XS.aloadN X0.here hexec rfl (hb hbytes d7) rfl rfl ?_
      exact Steps.refl _)
    obtain ⟨T3, X3, q3, st3⟩ := cinst X0 hexec hown (wk W (.classLink "java/lang/String" 10 "java/lang/String")) (hy.mv X0.warmed.alike hh0).1 (g := (mkF m 8 #[.val (.ref x), .val (.ref y), .unset] [.ref y])) rfl (rest := []) rfl (hb hbytes d8)
    have hh3 := q3.trans hh0
    have c4 : Steps p.tables e below (s₁.setTop (entryFrame m #[.ref x, .ref y] 3)) (T3.setTop (mkF m 15 #[.val (.ref x), .val (.ref y), .unset] [.ref y])) := (c2.trans (st3 _ (Steps.refl _))).trans (by
      refine XS.ifNo X3.here hexec rfl (hb hbytes d11) rfl (i0_eq_f (by decide)) ?_
      refine XS.aloadN X3.here hexec rfl (hb hbytes d14) rfl rfl ?_
      exact Steps.refl _)
    obtain ⟨T5, X5, q5, st5⟩ := cself X3 hexec hown (wk W (.classLink "java/lang/String" 10 "java/lang/String")) (hy.mv X3.warmed.alike hh3).1 (g := (mkF m 15 #[.val (.ref x), .val (.ref y), .unset] [.ref y])) rfl (rest := []) rfl (hb hbytes d15)
    have hh5 := q5.trans hh3
    have c6 : Steps p.tables e below (s₁.setTop (entryFrame m #[.ref x, .ref y] 3)) (T5.setTop (mkF m 19 #[.val (.ref x), .val (.ref y), .val (.ref y)] [])) := (c4.trans (st5 _ (Steps.refl _))).trans (by
      refine XS.astoreN X5.here hexec rfl (hb hbytes d18) rfl rfl rfl ?_
      exact Steps.refl _)
    obtain ⟨T7, X7, q7, st7⟩ := X5.sget hexec hown (wk W (.fieldLink "java/lang/String" 38 "java/lang/String" "COMPACT_STRINGS" "Z")) s1 (fun _ _ h => by rw [hh5]; exact h) (g := (mkF m 19 #[.val (.ref x), .val (.ref y), .val (.ref y)] [])) rfl (hb hbytes d19)
    have hh7 := q7.trans hh5
    have c8 : Steps p.tables e below (s₁.setTop (entryFrame m #[.ref x, .ref y] 3)) (T7.setTop (mkF m 26 #[.val (.ref x), .val (.ref y), .val (.ref y)] [.ref x])) := (c6.trans (st7 _ (Steps.refl _))).trans (by
      refine XS.ifNo X7.here hexec rfl (hb hbytes d22) rfl (i0_eq_f hz) ?_
      refine XS.aloadN X7.here hexec rfl (hb hbytes d25) rfl rfl ?_
      exact Steps.refl _)
    obtain ⟨T9, X9, q9, st9⟩ := X7.hget hexec hown (wk W (.fieldLink "java/lang/String" 15 "java/lang/String" "coder" "B")) (hx.mv X7.warmed.alike hh7).2.2.1 (g := (mkF m 26 #[.val (.ref x), .val (.ref y), .val (.ref y)] [.ref x])) rfl (rest := []) rfl (hb hbytes d26)
    have hh9 := q9.trans hh7
    have c10 : Steps p.tables e below (s₁.setTop (entryFrame m #[.ref x, .ref y] 3)) (T9.setTop (mkF m 30 #[.val (.ref x), .val (.ref y), .val (.ref y)] [.ref y, .int cd])) := (c8.trans (st9 _ (Steps.refl _))).trans (by
      refine XS.aloadN X9.here hexec rfl (hb hbytes d29) rfl rfl ?_
      exact Steps.refl _)
    obtain ⟨T11, X11, q11, st11⟩ := X9.hget hexec hown (wk W (.fieldLink "java/lang/String" 15 "java/lang/String" "coder" "B")) (hy.mv X9.warmed.alike hh9).2.2.1 (g := (mkF m 30 #[.val (.ref x), .val (.ref y), .val (.ref y)] [.ref y, .int cd])) rfl (rest := [.int cd]) rfl (hb hbytes d30)
    have hh11 := q11.trans hh9
    have c12 : Steps p.tables e below (s₁.setTop (entryFrame m #[.ref x, .ref y] 3)) (T11.setTop (mkF m 33 #[.val (.ref x), .val (.ref y), .val (.ref y)] [.int cd', .int cd])) := c10.trans (st11 _ (Steps.refl _))
    by_cases hcd : cd = cd'
    · subst hcd
      have c13 : Steps p.tables e below (s₁.setTop (entryFrame m #[.ref x, .ref y] 3)) (T11.setTop (mkF m 37 #[.val (.ref x), .val (.ref y), .val (.ref y)] [.ref x])) := c12.trans (by
        refine XS.icmpNo X11.here hexec rfl (hb hbytes d33) rfl (ii_ne_f rfl) ?_
        refine XS.aloadN X11.here hexec rfl (hb hbytes d36) rfl rfl ?_
        exact Steps.refl _)
      obtain ⟨T14, X14, q14, st14⟩ := X11.hget hexec hown (wk W (.fieldLink "java/lang/String" 9 "java/lang/String" "value" "[B")) (hx.mv X11.warmed.alike hh11).2.1 (g := (mkF m 37 #[.val (.ref x), .val (.ref y), .val (.ref y)] [.ref x])) rfl (rest := []) rfl (hb hbytes d37)
      have hh14 := q14.trans hh11
      have c15 : Steps p.tables e below (s₁.setTop (entryFrame m #[.ref x, .ref y] 3)) (T14.setTop (mkF m 41 #[.val (.ref x), .val (.ref y), .val (.ref y)] [.ref y, .ref t])) := (c13.trans (st14 _ (Steps.refl _))).trans (by
        refine XS.aloadN X14.here hexec rfl (hb hbytes d40) rfl rfl ?_
        exact Steps.refl _)
      obtain ⟨T16, X16, q16, st16⟩ := X14.hget hexec hown (wk W (.fieldLink "java/lang/String" 9 "java/lang/String" "value" "[B")) (hy.mv X14.warmed.alike hh14).2.1 (g := (mkF m 41 #[.val (.ref x), .val (.ref y), .val (.ref y)] [.ref y, .ref t])) rfl (rest := [.ref t]) rfl (hb hbytes d41)
      have hh16 := q16.trans hh14
      have c17 : Steps p.tables e below (s₁.setTop (entryFrame m #[.ref x, .ref y] 3)) (T16.setTop (mkF m 44 #[.val (.ref x), .val (.ref y), .val (.ref y)] [.ref t', .ref t])) := c15.trans (st16 _ (Steps.refl _))
      obtain ⟨v18, T18, X18, E18, g18⟩ := X16.callS hexec (LEq.law l t V t' V') hown (wks W (staticW "java/lang/String" 541 LEq.yN)) (wk W LEq.tab) (W := 0) (Nat.le_of_ble_eq_true rfl) (Nat.le_of_ble_eq_true rfl) (Nat.le_refl _) (Nat.le_refl _) (g := (mkF m 44 #[.val (.ref x), .val (.ref y), .val (.ref y)] [.ref t', .ref t])) rfl (by rw [hml]; rfl) c17 (argsL := [.ref t, .ref t']) (rest := []) rfl rfl (by show 2 * 0 + 0 ≤ _; decide) (hb hbytes d44) (⟨rfl, hx.2.2.2.1.mv X16.warmed.alike hh16, hx.2.2.2.2.1.ty, hy.2.2.2.1.mv X16.warmed.alike hh16, hy.2.2.2.2.1.ty⟩)
      obtain ⟨v, rfl, q18, hv⟩ := E18
      have iff := Cod.eqv hx.2.2.2.2.1 hy.2.2.2.2.1 hx.2.2.2.2.2 hy.2.2.2.2.2
      rcases hv with ⟨rfl, he⟩ | ⟨rfl, he⟩
      · have c19 : Steps p.tables e below (s₁.setTop (entryFrame m #[.ref x, .ref y] 3)) (T18.setTop (mkF m 55 #[.val (.ref x), .val (.ref y), .val (.ref y)] [.int 1])) := Steps.trans g18 (by
          refine XS.ifNo X18.here hexec rfl (hb hbytes d47) rfl (i0_eq_f (by decide)) ?_
          refine iconstV X18.here hexec rfl 1 (hb hbytes d50) (by decide) ?_
          refine XS.goto X18.here hexec rfl (pc0 := 51) rfl (hb hbytes d51) (by decide) rfl ?_
          exact Steps.refl _)
        exact ⟨T18, some (.int 1), _, _, _, X18, rfl, rfl, rfl, (fun h => by cases h), ⟨1, rfl, q18.trans hh16, Or.inl ⟨rfl, iff.mp he⟩⟩, fun fs hl => c19.trans (X18.ireturnOut hexec hret rfl (Or.inr (Or.inl rfl)) (hb hbytes d55) hl)⟩
      · have c19 : Steps p.tables e below (s₁.setTop (entryFrame m #[.ref x, .ref y] 3)) (T18.setTop (mkF m 55 #[.val (.ref x), .val (.ref y), .val (.ref y)] [.int 0])) := Steps.trans g18 (by
          refine XS.ifYes X18.here hexec rfl (pc0 := 47) rfl (hb hbytes d47) rfl (i0_eq_t rfl) (by decide) rfl ?_
          refine iconstV X18.here hexec rfl 0 (hb hbytes d54) (by decide) ?_
          exact Steps.refl _)
        exact ⟨T18, some (.int 0), _, _, _, X18, rfl, rfl, rfl, (fun h => by cases h), ⟨0, rfl, q18.trans hh16, Or.inr ⟨rfl, fun q => he (iff.mpr q)⟩⟩, fun fs hl => c19.trans (X18.ireturnOut hexec hret rfl (Or.inr (Or.inl rfl)) (hb hbytes d55) hl)⟩
    · have c13 : Steps p.tables e below (s₁.setTop (entryFrame m #[.ref x, .ref y] 3)) (T11.setTop (mkF m 55 #[.val (.ref x), .val (.ref y), .val (.ref y)] [.int 0])) := c12.trans (by
        refine XS.icmpYes X11.here hexec rfl (pc0 := 33) rfl (hb hbytes d33) rfl (ii_ne_t hcd) (by decide) rfl ?_
        refine iconstV X11.here hexec rfl 0 (hb hbytes d54) (by decide) ?_
        exact Steps.refl _)
      exact ⟨T11, some (.int 0), _, _, _, X11, rfl, rfl, rfl, (fun h => by cases h), ⟨0, rfl, hh11, Or.inr ⟨rfl, Cod.dif hx.2.2.2.2.1 hy.2.2.2.2.1 hcd⟩⟩, fun fs hl => c13.trans (X11.ireturnOut hexec hret rfl (Or.inr (Or.inl rfl)) (hb hbytes d55) hl)⟩
theorem pays {l : Launch} {R : Room} {p : Program} {e : Env} {below : List Frame} {s : State} {sargs : Array Value} {len W : Nat} (x t : Addr) (V : Cell) (cd : Int32) (n : Nat) (f : Nat → Int32) (y t' : Addr) (V' : Cell) (cd' : Int32) (k : Nat) (g : Nat → Int32) (z : Int32) (htab : tab.before sargs s = true) (hfr : 2 ≤ R.frames) (hlo : W + 28 ≤ R.locals) :
    Back l R p e below s sargs yN len W (fun A₁ a₁ => A₁.cells + 0 ≤ R.cells ∧ A₁.slots + 0 ≤ R.slots ∧ P x t V cd n f y t' V' cd' k g z a₁ A₁.U) (fun A₁ _ v₁ B₁ => Says01 (SameT n f k g) v₁ A₁.U B₁.U ∧ B₁.locs = A₁.locs ++ [] ∧ B₁.cells = A₁.cells + 0 ∧ B₁.slots = A₁.slots + 0) :=
  (law l x t V cd n f y t' V' cd' k g z).pays htab hfr (by omega)
end SEq
end StrChars
namespace StrChars.Road
open Jvm Sem ClassFile Op Lib Jvm.Stand Jvm.Free Jvm.Free.XT
open Jvm.Lib.Cold (StaticIs)
/-- the words of String.equals(Object) -/
abbrev wordsEq : List Jvm.Cond := [.code SEq.yN SEq.yB 3 (some .boolean), .initialized ST, .classLink ST 10 ST, .fieldLink ST 38 ST "COMPACT_STRINGS" "Z", .fieldLink ST 15 ST "coder" "B", .fieldLink ST 9 ST "value" "[B", .methodLink ST 541 LEq.yN, .static LEq.yN, .code LEq.yN LEq.yB 3 (some .boolean), .initialized "java/lang/StringLatin1"]
theorem tabEq_of {a : Array Value} {s : State} (h : ∀ w ∈ wordsEq, w.before a s = true) : SEq.tab.before a s = true := by
  have hl : LEq.tab.before a s = true := unparts (wk h (.code LEq.yN LEq.yB 3 (some .boolean))) (wks h (.initialized LEq.yN.cls :: LEq.site))
  have q := consq hl h
  exact unparts (wk q (.code SEq.yN SEq.yB 3 (some .boolean))) (wks q (.initialized SEq.yN.cls :: SEq.site))
theorem movedEq {Z s : State} {a0 args : Array Value} (hZ : Z.Warmed39 s.vm) (hw : ∀ d ∈ wordsEq, d.before a0 Z = true) : ∀ d ∈ wordsEq, d.before args s = true := fun d hd => by
  have t : ∀ d ∈ wordsEq, (d.onTables && d.keepsFace) = true := by decide +kernel
  exact RoadKit.mv hZ (hw d hd) (t d hd)
/-- the road's facts of a String, as the laws ask it -/
theorem txt_of {Z U : State} {a0 : Array Value} {kI : Nat} (wi : (Jvm.Cond.instantiable ST kI).before a0 Z = true) (al : Z.vm.Alike U.vm) {x t : Addr} {kb : ClassId} {cs : List Int32} {cd N2 : Int32} {vs : List Value} (E : RoadKit.Exa Z U.heap x ST) (V : RoadKit.Fld Z U.heap x ST "value" "[B" (.ref t)) (C : RoadKit.Fld Z U.heap x ST "coder" "B" (.int cd)) (K : RoadKit.Arv Z U.heap t kb .byte N2 vs (.int 0)) (hc : CodA cs cd N2 vs) (hb : ∀ c ∈ cs, ¬ c < 0 ∧ ¬ (65535 : Int32) < c) (l2 : cs.length ≤ 4000) :
    ∃ A, Txt x t A cd cs.length (fun j => cs.getD j 0) U := by
  obtain ⟨A, K1, K2, K3, K4, K5, K6⟩ := K
  have hcod := hc.cod (by omega) K3 K5
  obtain ⟨D, fV, fC, hB, F1, F2, g1, g2, -, -⟩ := strObj wi al E V C
  exact ⟨A, ⟨_, hB.2.2.1, D, hB.1, rfl, by cases q : D.vm <;> first | rfl | exact absurd q (hB.2.1.2 _)⟩, Has.of hB F1 g1, Has.of hB F2 g2, ⟨K1.1, State.isArrayOf_alike al K1.2.1, K1.2.2, by rcases hcod with ⟨-, q, -⟩ | ⟨-, q, -⟩ <;> omega⟩, hcod, fun j hj => by
    have e : cs.getD j 0 = cs[j] := by simp [List.getD_eq_getElem?_getD, hj]
    show ¬ cs.getD j 0 < 0 ∧ ¬ 65535 < cs.getD j 0
    rw [e]; exact hb _ (List.getElem_mem _)⟩
theorem same_list (cs ds : List Int32) : SameT cs.length (fun j => cs.getD j 0) ds.length (fun j => ds.getD j 0) ↔ cs = ds := by
  constructor
  · rintro ⟨e, q⟩
    refine List.ext_getElem e fun j h1 h2 => ?_
    have := q j h1
    simpa [List.getD_eq_getElem?_getD, h1, h2] using this
  · rintro rfl
    exact ⟨rfl, fun _ _ => rfl⟩
/-- **equals(Object) OF TWO SUCH STRINGS**: 1 just where the chars are the same -/
theorem eqW {p : Program} {l : Launch} {e : Env} {R : Room} {s : State} {args : Array Value} {below : List Frame} {len W : Nat} {Z : State} {a0 : Array Value} {h : Heap} (hZ : Z.Warmed39 s.vm) (hw : ∀ d ∈ wordsEq, d.before a0 Z = true) {kI : Nat} (wi : (Jvm.Cond.instantiable ST kI).before a0 Z = true)
    {x t : Addr} {kb : ClassId} {cs : List Int32} {cd N2 : Int32} {vs : List Value} (E : RoadKit.Exa Z h x ST) (V : RoadKit.Fld Z h x ST "value" "[B" (.ref t)) (C : RoadKit.Fld Z h x ST "coder" "B" (.int cd)) (K : RoadKit.Arv Z h t kb .byte N2 vs (.int 0)) (hc : CodA cs cd N2 vs) (hb : ∀ c ∈ cs, ¬ c < 0 ∧ ¬ (65535 : Int32) < c) (l2 : cs.length ≤ 4000)
    {y t' : Addr} {kb' : ClassId} {ds : List Int32} {cd' N2' : Int32} {vs' : List Value} (E' : RoadKit.Exa Z h y ST) (V' : RoadKit.Fld Z h y ST "value" "[B" (.ref t')) (C' : RoadKit.Fld Z h y ST "coder" "B" (.int cd')) (K' : RoadKit.Arv Z h t' kb' .byte N2' vs' (.int 0)) (hc' : CodA ds cd' N2' vs') (hb' : ∀ c ∈ ds, ¬ c < 0 ∧ ¬ (65535 : Int32) < c) (l2' : ds.length ≤ 4000)
    {z : Int32} (S : RoadKit.Sta Z h ST "COMPACT_STRINGS" "Z" (.int z)) (hz : ¬ z = 0) (hfr : 2 ≤ R.frames) (hlo : W + 28 ≤ R.locals) :
    Back l R p e below s args (⟨"java/lang/String", "equals", "(Ljava/lang/Object;)Z"⟩ : MethodName) len W (fun P a => a = #[.ref x, .ref y] ∧ P.U.heap = h ∧ P.cells + 0 ≤ R.cells ∧ P.slots + 0 ≤ R.slots)
      (fun P _ v B => ∃ L, (((v = some (.int 1) ∧ cs = ds) ∨ (v = some (.int 0) ∧ ¬ cs = ds)) ∧ L = [] ∧ B.U.heap = h) ∧ B.locs = P.locs ++ L ∧ B.cells = P.cells + 0 ∧ B.slots = P.slots + 0) := by
  intro m meth c P g ig mk a X hg hsize hdg hW hn hp'
  obtain ⟨rfl, rfl, r1, r2⟩ := hp'
  have al : Z.vm.Alike P.U.vm := hZ.alike.trans X.warmed.alike
  obtain ⟨A, hx⟩ := txt_of wi al E V C K hc hb l2
  obtain ⟨A', hy⟩ := txt_of wi al E' V' C' K' hc' hb' l2'
  obtain ⟨v, B, X', ⟨⟨w, hv, hh, hq⟩, hl, hk, hs⟩, st⟩ := SEq.pays x t A cd cs.length (fun j => cs.getD j 0) y t' A' cd' ds.length (fun j => ds.getD j 0) z (tabEq_of (movedEq hZ hw)) hfr hlo m meth c P g ig mk _ X hg hsize hdg hW hn ⟨r1, r2, rfl, hx, hy, sta_is al S, hz⟩
  refine ⟨v, B, X', ⟨[], ⟨?_, rfl, hh⟩, hl, hk, hs⟩, st⟩
  rcases hq with ⟨rfl, q⟩ | ⟨rfl, q⟩
  · exact Or.inl ⟨hv, (same_list cs ds).mp q⟩
  · exact Or.inr ⟨hv, fun e => q ((same_list cs ds).mpr e)⟩
end StrChars.Road
namespace StrChars.Road
open Jvm Sem ClassFile Op Lib Jvm.Stand Jvm.Free Jvm.Free.XT
open Jvm.Lib.Cold (StaticIs)
/-- what backV says of its String, as the contracts of this text ask it: cs's low bytes, coder 0 -/
theorem codOf {cs : List Int32} {n : Nat} (hn : cs.length = n) (hb : ∀ c ∈ cs, ¬ 255 < c) : CodA cs 0 (Int32.ofNat n) ((cs.map lo8).map Value.int) := Or.inl ⟨rfl, by rw [hn], by simp [List.map_map, Function.comp_def], hb⟩
end StrChars.Road
end Jvm.Pilot.@@N@@
namespace Jvm.Pilot.@@N@@
open Jvm Jvm.ClassFile Sem Op Lib Jvm.Free Jvm.Stand Jvm.LawKit Jvm.RoadKit Bundle Jvm.Pilot.@@N@@.Jvm.D
section OwnKit
variable {p : Program} {l : Launch} {e : Env} {R : Room} {s : State} {m : MethodId} {args : Array Value} {below : List Frame} {meth : Method} {c : Code} {T T' : State} {Z : State} {a0 : Array Value} {h h' h2 : Heap} {k n k' n' : Nat} {Φ : Outcome → State → Prop} {Q : Option Value → Heap → Prop}
theorem nle {a b : Nat} (h : Nat.ble a b = true) : a ≤ b := Nat.le_of_ble_eq_true h
/-- from here the run returns, and what it leaves is as Φ says -/
def Ends (p : Program) (e : Env) (below : List Frame) (Φ : Outcome → State → Prop) (T : State) (f : JFrame) : Prop :=
  ∃ s₂ o, Steps p.tables e below (T.setTop f) s₂ ∧ s₂.status = .running ∧ Ended s₂ below o ∧ Φ o s₂
theorem Ends.go {f f' : JFrame} (st : ∀ t, Steps p.tables e below (T'.setTop f') t → Steps p.tables e below (T.setTop f) t) (K : Ends p e below Φ T' f') : Ends p e below Φ T f := by
  obtain ⟨s₂, o, h1, h2⟩ := K; exact ⟨s₂, o, st _ h1, h2⟩
theorem Ends.mono {f : JFrame} {Ψ : Outcome → State → Prop} (K : Ends p e below Φ T f) (q : ∀ o u, Φ o u → Ψ o u) : Ends p e below Ψ T f := by
  obtain ⟨s₂, o, h1, h2, h3, h4⟩ := K; exact ⟨s₂, o, h1, h2, h3, q _ _ h4⟩
/-- where a walk stands -/
def Now (p : Program) (l : Launch) (e : Env) (R : Room) (s : State) (m : MethodId) (args : Array Value) (below : List Frame) (meth : Method) (c : Code) (Z : State) (T : State) (h : Heap) (k n : Nat) : Prop :=
  ∃ locs, Stand p l e R s m args below meth c T locs k n ∧ T.heap = h ∧ Fr Z.heap.size locs ∧ Ext Z.heap s.heap
theorem Now.here (N : Now p l e R s m args below meth c Z T h k n) : At T m c below := by obtain ⟨_, X, _⟩ := N; exact X.here
theorem Now.ext (N : Now p l e R s m args below meth c Z T h k n) : Ext Z.heap h := by
  obtain ⟨L, X, eT, F, q⟩ := N
  obtain ⟨-, h1, -, -, -, h2⟩ := X.same
  have h1 : s.heap.size ≤ T.heap.size := h1
  subst eT
  refine ⟨Nat.le_trans q.1 h1, fun a cl hc => ?_⟩
  have hlt : a < Z.heap.size := (Array.getElem?_eq_some_iff.mp hc).1
  obtain ⟨c', e1, e2, e3, e4⟩ := h2 a cl (q.2 a cl hc)
  have e5 : c'.slots = cl.slots := Array.ext_getElem? fun i => e4 i fun hm => absurd hlt (Nat.not_lt.mpr (F _ hm))
  have e6 : c' = cl := by rw [e2, e5]
  rw [← e6]; exact e1
theorem Now.le (N : Now p l e R s m args below meth c Z T h k n) : Z.heap.size ≤ h.size := N.ext.1
theorem Now.le0 (N : Now p l e R s m args below meth c Z T h k n) : s.heap.size ≤ h.size := by
  obtain ⟨_, X, eT, _, q⟩ := N
  have r : s.heap.size ≤ T.heap.size := X.same.2.1
  rw [eT] at r; exact r
theorem Now.mono (N : Now p l e R s m args below meth c Z T h k n) (hk : k ≤ k') (hn : n ≤ n') : Now p l e R s m args below meth c Z T h k' n' := by
  obtain ⟨L, X, r⟩ := N; exact ⟨L, X.more hk hn, r⟩
/-- what a narrow contract promises -/
def PhiN (Z s : State) (Q : Option Value → Heap → Prop) (K N : Nat) : Outcome → State → Prop := fun o u => ∃ v L, o = .returned v ∧ (Q v u.heap ∧ Fr Z.heap.size L) ∧ FrameEnd s o u L K N
def MetN (l : Launch) (Z : State) (y : MethodName) (bytes : ByteArray) (maxL : Nat) (ret : Option FieldType) (ws : List Jvm.Cond) (rm : Room) (as' : Array Value) (h : Heap) (Q : Option Value → Heap → Prop) : Prop :=
  MetFree l y (head1 (Jvm.Cond.code y bytes maxL ret :: ws) rm) (fun a U => a = as' ∧ Z.Warmed39 U.vm ∧ U.heap = h) (fun _ _ _ _ _ => True) (fun _ U o U' => ∃ v L, o = .returned v ∧ (Q v U'.heap ∧ Fr Z.heap.size L) ∧ FrameEnd U o U' L rm.cells rm.slots)
theorem metN {y : MethodName} {bytes : ByteArray} {maxL : Nat} {ret : Option FieldType} {ws : List Jvm.Cond} {rm : Room} {as' : Array Value} {Ls : Array Slot} (hpl : plainFor y = true) (hn0 : Ext Z.heap h) (ef : ∀ m, entryFrame m as' maxL = mkF m 0 Ls [])
    (walk : ∀ (p : Program) (e : Env) (s : State) (m : MethodId) (below : List Frame) (meth : Method) (c : Code) (T : State), p.tables.exec = Jvm.exec → c.code = bytes → c.maxLocals = maxL → meth.sig.returnType = ret → meth.locks = false → s.vm.findClass y.cls = some m.cls → meth.name = y.name → Z.Warmed39 s.vm →
      Now p l e rm s m as' below meth c Z T h 0 0 → Ends p e below (PhiN Z s Q rm.cells rm.slots) T (mkF m 0 Ls [])) : MetN l Z y bytes maxL ret ws rm as' h Q := by
  refine MetFree.of_bodySF hpl hisR ?_
  intro p e s m args below meth c s₁ Bd hml0 hP hK
  obtain ⟨rfl, hZ, hh⟩ := hP
  have e0 : s₁.heap = h := by rw [← hh, Bd.state]; rfl
  have W := walk p e s m below meth c s₁ Bd.exec Bd.bytes hml0 Bd.returns Bd.notSynchronized (findClass_of_methodNamed Bd.named) (name_of_methodNamed Bd.named Bd.method).1 hZ ⟨[], Stand.of_body Bd, e0, Fr.nil _, hh ▸ hn0⟩
  rw [← ef] at W
  exact W
/-- the end of a narrow walk -/
theorem endN {v : Option Value} {f : JFrame} {K M : Nat} (N : Now p l e R s m args below meth c Z T h k n) (hlocks : meth.locks = false) (hv : meth.sig.returnType = none → v = none)
    (st : ∀ (locs : List Loc), Stand p l e R s m args below meth c T locs k n → ∀ fs, (∀ (f : JFrame) (acts : List Action), f.method = m → f.locked = none → f.entered = [] → (doReturn e (T.setTop f) acts v).1 = T.setFrames fs) → Steps p.tables e below (T.setTop f) (T.setFrames fs)) (hQ : Q v h) (hk : k ≤ K) (hn : n ≤ M) :
    Ends p e below (PhiN Z s Q K M) T f := by
  obtain ⟨L, X, eT, F, _⟩ := N
  obtain ⟨fs, hr, hrun, hended, hW, hsame⟩ := X.leave hv hlocks
  refine ⟨_, _, st L X fs hr, hrun, hended, _, L, rfl, ⟨?_, F⟩, ⟨_, rfl⟩, hW, hsame.mono hk hn⟩
  show Q v T.heap
  rw [eT]; exact hQ
section Ret
variable {pc : Nat} {Ls : Array Slot} {rest : List Value} {K M : Nat}
theorem retI {z : Int32} (N : Now p l e R s m args below meth c Z T h k n) (hx : p.tables.exec = Jvm.exec) (hlocks : meth.locks = false) (hret : meth.sig.returnType = some .int) (hd : decode c.code pc = .ok (.ireturn, 1)) (hQ : Q (some (.int z)) h) (hk : k ≤ K) (hn : n ≤ M) :
    Ends p e below (PhiN Z s Q K M) T (mkF m pc Ls (.int z :: rest)) :=
  endN N hlocks (fun q => by rw [hret] at q; cases q) (fun L X fs hr => retOut X hx hret rfl (Or.inl ⟨rfl, Or.inl rfl, z, rfl⟩) hd hr) hQ hk hn
theorem retJ {z : Int64} (N : Now p l e R s m args below meth c Z T h k n) (hx : p.tables.exec = Jvm.exec) (hlocks : meth.locks = false) (hret : meth.sig.returnType = some .long) (hd : decode c.code pc = .ok (.lreturn, 1)) (hQ : Q (some (.long z)) h) (hk : k ≤ K) (hn : n ≤ M) :
    Ends p e below (PhiN Z s Q K M) T (mkF m pc Ls (.long z :: rest)) :=
  endN N hlocks (fun q => by rw [hret] at q; cases q) (fun L X fs hr => retOut X hx hret rfl (Or.inr (Or.inl ⟨rfl, rfl, z, rfl⟩)) hd hr) hQ hk hn
theorem retA {v : Value} {t : FieldType} (N : Now p l e R s m args below meth c Z T h k n) (hx : p.tables.exec = Jvm.exec) (hlocks : meth.locks = false) (hret : meth.sig.returnType = some t) (ht : t.isReference = true) (hv : v.isRef = true) (hd : decode c.code pc = .ok (.areturn, 1)) (hQ : Q (some v) h) (hk : k ≤ K) (hn : n ≤ M) :
    Ends p e below (PhiN Z s Q K M) T (mkF m pc Ls (v :: rest)) :=
  endN N hlocks (fun q => by rw [hret] at q; cases q) (fun L X fs hr => retOut X hx hret (by cases v <;> first | (cases hv; done) | (cases t <;> first | (cases ht; done) | rfl)) (Or.inr (Or.inr (Or.inr (Or.inr ⟨rfl, ht, hv⟩)))) hd hr) hQ hk hn
theorem retZ {z : Int32} {t : FieldType} (N : Now p l e R s m args below meth c Z T h k n) (hx : p.tables.exec = Jvm.exec) (hlocks : meth.locks = false) (hret : meth.sig.returnType = some t) (ht : t = .boolean ∨ t = .byte ∨ t = .char ∨ t = .short) (hd : decode c.code pc = .ok (.ireturn, 1)) (hQ : Q (some (.int (nar t z))) h) (hk : k ≤ K) (hn : n ≤ M) :
    Ends p e below (PhiN Z s Q K M) T (mkF m pc Ls (.int z :: rest)) :=
  endN N hlocks (fun q => by rw [hret] at q; cases q) (fun L X fs hr => retN X hx hret ht hd hr) hQ hk hn
theorem retV (N : Now p l e R s m args below meth c Z T h k n) (hx : p.tables.exec = Jvm.exec) (hlocks : meth.locks = false) (hret : meth.sig.returnType = none) (hd : decode c.code pc = .ok (.return_, 1)) (hQ : Q none h) (hk : k ≤ K) (hn : n ≤ M) :
    Ends p e below (PhiN Z s Q K M) T (mkF m pc Ls []) :=
  endN N hlocks (fun _ => rfl) (fun L X fs hr => X.returnOut hx hret hd hr) hQ hk hn
end Ret
section Heap
variable {pc : Nat} {Ls : Array Slot} {st rest : List Value}
theorem gIrem {x y : Int32} {t : State} (N : Now p l e R s m args below meth c Z T h k n) (hx : p.tables.exec = Jvm.exec) (hd : decode c.code pc = .ok (.irem, 1)) (hy : y ≠ 0)
    (q : Steps p.tables e below (T.setTop (mkF m (pc + 1) Ls (.int (x % y) :: rest))) t) : Steps p.tables e below (T.setTop (mkF m pc Ls (.int y :: .int x :: rest))) t := by
  obtain ⟨L, X, _⟩ := N
  exact iremM X hx (g := mkF m pc Ls (.int y :: .int x :: rest)) rfl hd rfl hy q
/-- new C -/
theorem gNew {own C : String} {index q : Nat} (N : Now p l e R s m args below meth c Z T h k n) (hx : p.tables.exec = Jvm.exec) (hZ : Z.Warmed39 s.vm) (hown : s.vm.findClass own = some m.cls)
    (w : (Jvm.Cond.classLink own index C).before a0 Z = true) (wi : (Jvm.Cond.instantiable C q).before a0 Z = true) (wz : (Jvm.Cond.initialized C).before a0 Z = true) (hd : decode c.code pc = .ok (.new index, 3)) (hc : k + 1 ≤ R.cells) (hl : n + q ≤ R.slots)
    (K : ∀ T' h' a, a = h.size → Now p l e R s m args below meth c Z T' h' (k + 1) (n + q) → Ext h h' → Exa Z h' a C → (∀ {O nm d : String} {ty : FieldType}, Laid Z a0 C O nm d → parseFieldDescriptor d = some ty → Fld Z h' a O nm d (defaultValue ty)) → Ends p e below Φ T' (mkF m (pc + 3) Ls (.ref a :: st))) :
    Ends p e below Φ T (mkF m pc Ls st) := by
  obtain ⟨L, X, eT, F, hn0⟩ := N
  obtain ⟨T1, h1, X1, e1, E1, A1, D1, -, st1⟩ := newO X hx hZ hown w wi wz eT (g := mkF m pc Ls st) rfl hd hc hl
  exact Ends.go st1 (K T1 h1 h.size rfl ⟨L, X1, e1, F, hn0⟩ E1 A1 D1)
/-- newarray -/
theorem gArr {aty : ArrayType} {z : Int32} (cap : Nat) (N : Now p l e R s m args below meth c Z T h k n) (hx : p.tables.exec = Jvm.exec) (hZ : Z.Warmed39 s.vm) (w : (Jvm.Cond.arrayClass (newarray.typeOf aty)).before a0 Z = true) (hd : decode c.code pc = .ok (.newarray aty, 2)) (hz : ¬ z < 0)
    (hcap : z.toNatClampNeg ≤ cap) (hb : cap * 8 ≤ 536870912) (hc : k + 1 ≤ R.cells) (hl : n + cap ≤ R.slots)
    (K : ∀ T' h' a kA, a = h.size → Now p l e R s m args below meth c Z T' h' (k + 1) (n + cap) → Ext h h' → Arv Z h' a kA (newarray.typeOf aty) z [] (defaultValue (newarray.typeOf aty)) → Ends p e below Φ T' (mkF m (pc + 2) Ls (.ref a :: rest))) :
    Ends p e below Φ T (mkF m pc Ls (.int z :: rest)) := by
  obtain ⟨L, X, eT, F, hn0⟩ := N
  obtain ⟨T1, h1, kA, X1, e1, E1, A1, st1⟩ := newP X hx hZ w eT (g := mkF m pc Ls (.int z :: rest)) rfl hd rfl hz hcap hb hc hl
  exact Ends.go st1 (K T1 h1 h.size kA rfl ⟨L, X1, e1, F, hn0⟩ E1 (Arv.new A1 hz))
/-- castore into a known array -/
theorem gStC {a : Addr} {kA : ClassId} {z j x : Int32} {vs : List Value} {d : Value} (i : Nat) (N : Now p l e R s m args below meth c Z T h k n) (hx : p.tables.exec = Jvm.exec) (hZ : Z.Warmed39 s.vm) (V : Arv Z h a kA .char z vs d) (ha : Z.heap.size ≤ a) (hj : ¬ j < 0 ∧ j < z) (hi : j.toNatClampNeg = i) (hil : i < vs.length) (hd : decode c.code pc = .ok (.castore, 1))
    (K : ∀ T' h', Now p l e R s m args below meth c Z T' h' k n → Wr h h' a j.toNatClampNeg (.int (nar .char x)) → Arv Z h' a kA .char z (vs.set i (.int (nar .char x))) d → Ends p e below Φ T' (mkF m (pc + 1) Ls rest)) :
    Ends p e below Φ T (mkF m pc Ls (.int x :: .int j :: .ref a :: rest)) := by
  obtain ⟨L, X, eT, F, hn0⟩ := N
  obtain ⟨cl, A, q, S, M, H, U⟩ := V
  obtain ⟨T1, h1, X1, e1, W1, st1⟩ := stC X hx hZ eT A (j := j) (x := x) (inb_of S hj) (g := mkF m pc Ls (.int x :: .int j :: .ref a :: rest)) rfl rfl hd
  exact Ends.go st1 (K T1 h1 ⟨_, X1, e1, Fr.snoc X1 F ha, hn0⟩ W1 (Arv.set A q S M H U (fits_nar_char _) W1 i hi hil))
/-- getfield -/
theorem gGet {own R0 O nm d host : String} {index : Nat} {a : Addr} {v : Value} (N : Now p l e R s m args below meth c Z T h k n) (hx : p.tables.exec = Jvm.exec) (hZ : Z.Warmed39 s.vm) (hown : s.vm.findClass own = some m.cls)
    (w : (Jvm.Cond.fieldLink own index R0 nm d).before a0 Z = true ∨ (Jvm.Cond.fieldLinkNest own index R0 nm d host).before a0 Z = true) (via : Via Z R0 O nm d) (Fv : Fld Z h a O nm d v) (hd : decode c.code pc = .ok (.getfield index, 3))
    (K : ∀ T', Now p l e R s m args below meth c Z T' h k n → Ends p e below Φ T' (mkF m (pc + 3) Ls (v :: rest))) :
    Ends p e below Φ T (mkF m pc Ls (.ref a :: rest)) := by
  obtain ⟨L, X, eT, F, hn0⟩ := N
  obtain ⟨T1, X1, e1, st1⟩ := getF X hx hZ hown w via eT Fv (g := mkF m pc Ls (.ref a :: rest)) rfl rfl hd
  exact Ends.go st1 (K T1 ⟨_, X1, e1, F, hn0⟩)
/-- putfield -/
theorem gPut {own R0 O nm d host C : String} {index kk : Nat} {ty : FieldType} {a : Addr} {v old : Value} (N : Now p l e R s m args below meth c Z T h k n) (hx : p.tables.exec = Jvm.exec) (hZ : Z.Warmed39 s.vm) (hown : s.vm.findClass own = some m.cls)
    (w : (Jvm.Cond.fieldLink own index R0 nm d).before a0 Z = true ∨ (Jvm.Cond.fieldLinkNest own index R0 nm d host).before a0 Z = true) (via : Via Z R0 O nm d) (Fv : Fld Z h a O nm d old) (E : Exa Z h a C) (ha : Z.heap.size ≤ a)
    (L0 : (Jvm.Cond.lays C O nm d).before a0 Z = true ∨ ((Jvm.Cond.laysFinal C O nm d).before a0 Z = true ∧ own = O ∧ meth.name = "<init>")) (wi : (Jvm.Cond.instantiable C kk).before a0 Z = true) (hty : parseFieldDescriptor d = some ty) (hnr : narrow ty v = v) (hf : fits ty v = true) (hd : decode c.code pc = .ok (.putfield index, 3))
    (K : ∀ T' h', Now p l e R s m args below meth c Z T' h' k n → Wr h h' a (RoadKit.slotOf Z O nm d) v → Fld Z h' a O nm d v → Exa Z h' a C → Ends p e below Φ T' (mkF m (pc + 3) Ls rest)) :
    Ends p e below Φ T (mkF m pc Ls (v :: .ref a :: rest)) := by
  obtain ⟨L, X, eT, F, hn0⟩ := N
  obtain ⟨T1, h1, X1, e1, W1, st1⟩ := putF X hx hZ hown w via eT Fv E L0 wi hty hnr hf (g := mkF m pc Ls (v :: .ref a :: rest)) rfl rfl hd
  exact Ends.go st1 (K T1 h1 ⟨_, X1, e1, Fr.snoc X1 F ha, hn0⟩ W1 (Fv.same W1) (E.wr W1))
/-- getstatic -/
theorem gSta {own R0 O nm d : String} {index : Nat} {v : Value} (N : Now p l e R s m args below meth c Z T h k n) (hx : p.tables.exec = Jvm.exec) (hZ : Z.Warmed39 s.vm) (hown : s.vm.findClass own = some m.cls)
    (w : (Jvm.Cond.fieldLink own index R0 nm d).before a0 Z = true) (via : Via Z R0 O nm d) (Fv : Sta Z h O nm d v) (hd : decode c.code pc = .ok (.getstatic index, 3))
    (K : ∀ T', Now p l e R s m args below meth c Z T' h k n → Ends p e below Φ T' (mkF m (pc + 3) Ls (v :: st))) :
    Ends p e below Φ T (mkF m pc Ls st) := by
  obtain ⟨L, X, eT, F, hn0⟩ := N
  obtain ⟨T1, X1, e1, st1⟩ := getS (host := "") X hx hZ hown w via eT Fv (g := mkF m pc Ls st) rfl hd
  exact Ends.go st1 (K T1 ⟨_, X1, e1, F, hn0⟩)
/-- Object.<init> -/
theorem gInitO {own : String} {index : Nat} {a : Addr} (W : Nat) (N : Now p l e R s m args below meth c Z T h k n) (hx : p.tables.exec = Jvm.exec) (hZ : Z.Warmed39 s.vm) (hown : s.vm.findClass own = some m.cls)
    (w1 : (Jvm.Cond.methodLink own index Lib.objectInit).before a0 Z = true) (w2 : (Jvm.Cond.instanceMethod Lib.objectInit).before a0 Z = true) (w3 : (Jvm.Cond.code Lib.objectInit ⟨#[0xb1]⟩ 1 none).before a0 Z = true) (hd : decode c.code pc = .ok (.invokespecial index, 3)) (hsize : Ls.size = c.maxLocals) (hf : 1 ≤ R.frames) (hW : (rest.map fun v => v.category).sum ≤ W) (hl : W + 12 ≤ R.locals)
    (K : ∀ T', Now p l e R s m args below meth c Z T' h k n → Ends p e below Φ T' (mkF m (pc + 3) Ls rest)) :
    Ends p e below Φ T (mkF m pc Ls (.ref a :: rest)) := by
  obtain ⟨L, X, eT, F, hn0⟩ := N
  obtain ⟨T1, X1, e1, st1⟩ := initO X hx hZ hown w1 w2 w3 eT (g := mkF m pc Ls (.ref a :: rest)) rfl hsize rfl hd hf (W := W) (by show 2 * 0 + _ ≤ _; omega) hl
  exact Ends.go st1 (K T1 ⟨_, X1, e1, F, hn0⟩)
/-- ldc of an int -/
theorem gLdcI {own : String} {index : Nat} {v : Int32} (N : Now p l e R s m args below meth c Z T h k n) (hx : p.tables.exec = Jvm.exec) (hZ : Z.Warmed39 s.vm) (hown : s.vm.findClass own = some m.cls) (w : (Jvm.Cond.constant own index v).before a0 Z = true) (hd : decode c.code pc = .ok (.ldc index, 2))
    (K : Ends p e below Φ T (mkF m (pc + 2) Ls (.int v :: st))) : Ends p e below Φ T (mkF m pc Ls st) := by
  obtain ⟨L, X, eT, F, hn0⟩ := N
  exact Ends.go (fun t q => X.ldcI hx hown (mv hZ w) (g := mkF m pc Ls st) rfl hd q) K
theorem gLdcJ {own : String} {index : Nat} {v : Int64} (N : Now p l e R s m args below meth c Z T h k n) (hx : p.tables.exec = Jvm.exec) (hZ : Z.Warmed39 s.vm) (hown : s.vm.findClass own = some m.cls) (w : (Jvm.Cond.constantLong own index v).before a0 Z = true) (hd : decode c.code pc = .ok (.ldc2_w index, 3))
    (K : Ends p e below Φ T (mkF m (pc + 3) Ls (.long v :: st))) : Ends p e below Φ T (mkF m pc Ls st) := by
  obtain ⟨L, X, eT, F, hn0⟩ := N
  exact Ends.go (fun t q => X.ldc2J hx hown (mv hZ w) (g := mkF m pc Ls st) rfl hd q) K
/-- arraylength -/
theorem gLen {a : Addr} {kA : ClassId} {ty : FieldType} {z : Int32} {vs : List Value} {d : Value} (N : Now p l e R s m args below meth c Z T h k n) (hx : p.tables.exec = Jvm.exec) (hZ : Z.Warmed39 s.vm) (V : Arv Z h a kA ty z vs d) (hd : decode c.code pc = .ok (.arraylength, 1))
    (K : Ends p e below Φ T (mkF m (pc + 1) Ls (.int z :: rest))) : Ends p e below Φ T (mkF m pc Ls (.ref a :: rest)) := by
  obtain ⟨L, X, eT, F, hn0⟩ := N
  obtain ⟨cl, A, q, S, M, H, U⟩ := V
  rw [← len_of S M] at K
  exact Ends.go (fun t q => X.arraylength hx (by rw [eT]; exact A.1) (State.isArrayOf_alike hZ.alike A.2.1) (g := mkF m pc Ls (.ref a :: rest)) rfl rfl hd t q) K
theorem gLdC {a : Addr} {kA : ClassId} {z j : Int32} {vs : List Value} {d v : Value} (N : Now p l e R s m args below meth c Z T h k n) (hx : p.tables.exec = Jvm.exec) (hZ : Z.Warmed39 s.vm) (V : Arv Z h a kA .char z vs d) (hj : ¬ j < 0 ∧ j < z) (hv : vs.getD j.toNatClampNeg d = v) (hd : decode c.code pc = .ok (.caload, 1))
    (K : Ends p e below Φ T (mkF m (pc + 1) Ls (v :: rest))) : Ends p e below Φ T (mkF m pc Ls (.int j :: .ref a :: rest)) := by
  obtain ⟨L, X, eT, F, hn0⟩ := N
  obtain ⟨cl, A, q, S, M, H, U⟩ := V
  exact Ends.go (fun t q => X.caload hx (by rw [eT]; exact A.1) (State.isArrayOf_alike hZ.alike A.2.1) A.2.2 (inb_of S hj) (H.at (inb_of S hj) hv) (g := mkF m pc Ls (.int j :: .ref a :: rest)) rfl rfl hd t q) K
theorem gLdJ {a : Addr} {kA : ClassId} {z j : Int32} {vs : List Value} {d v : Value} (N : Now p l e R s m args below meth c Z T h k n) (hx : p.tables.exec = Jvm.exec) (hZ : Z.Warmed39 s.vm) (V : Arv Z h a kA .long z vs d) (hj : ¬ j < 0 ∧ j < z) (hv : vs.getD j.toNatClampNeg d = v) (hd : decode c.code pc = .ok (.laload, 1))
    (K : Ends p e below Φ T (mkF m (pc + 1) Ls (v :: rest))) : Ends p e below Φ T (mkF m pc Ls (.int j :: .ref a :: rest)) := by
  obtain ⟨L, X, eT, F, hn0⟩ := N
  obtain ⟨cl, A, q, S, M, H, U⟩ := V
  exact Ends.go (fun t q => X.laload hx (by rw [eT]; exact A.1) (State.isArrayOf_alike hZ.alike A.2.1) A.2.2 (inb_of S hj) (H.at (inb_of S hj) hv) (g := mkF m pc Ls (.int j :: .ref a :: rest)) rfl rfl hd t q) K
theorem gLdB {a : Addr} {kA : ClassId} {z j : Int32} {vs : List Value} {d v : Value} (N : Now p l e R s m args below meth c Z T h k n) (hx : p.tables.exec = Jvm.exec) (hZ : Z.Warmed39 s.vm) (V : Arv Z h a kA .byte z vs d) (hj : ¬ j < 0 ∧ j < z) (hv : vs.getD j.toNatClampNeg d = v) (hd : decode c.code pc = .ok (.baload, 1))
    (K : Ends p e below Φ T (mkF m (pc + 1) Ls (v :: rest))) : Ends p e below Φ T (mkF m pc Ls (.int j :: .ref a :: rest)) := by
  obtain ⟨L, X, eT, F, hn0⟩ := N
  obtain ⟨cl, A, q, S, M, H, U⟩ := V
  exact Ends.go (fun t q => X.baloadBytes hx (by rw [eT]; exact A.1) (State.isArrayOf_alike hZ.alike A.2.1) A.2.2 (inb_of S hj) (H.at (inb_of S hj) hv) (g := mkF m pc Ls (.int j :: .ref a :: rest)) rfl rfl hd t q) K
theorem gLdI {a : Addr} {kA : ClassId} {z j : Int32} {vs : List Value} {d v : Value} (N : Now p l e R s m args below meth c Z T h k n) (hx : p.tables.exec = Jvm.exec) (hZ : Z.Warmed39 s.vm) (V : Arv Z h a kA .int z vs d) (hj : ¬ j < 0 ∧ j < z) (hv : vs.getD j.toNatClampNeg d = v) (hd : decode c.code pc = .ok (.iaload, 1))
    (K : Ends p e below Φ T (mkF m (pc + 1) Ls (v :: rest))) : Ends p e below Φ T (mkF m pc Ls (.int j :: .ref a :: rest)) := by
  obtain ⟨L, X, eT, F, hn0⟩ := N
  obtain ⟨cl, A, q, S, M, H, U⟩ := V
  exact Ends.go (fun t q => X.iaload hx (by rw [eT]; exact A.1) (State.isArrayOf_alike hZ.alike A.2.1) A.2.2 (inb_of S hj) (H.at (inb_of S hj) hv) (g := mkF m pc Ls (.int j :: .ref a :: rest)) rfl rfl hd t q) K
theorem gLdA {a : Addr} {kA : ClassId} {ty : FieldType} {z j : Int32} {vs : List Value} {d v : Value} (N : Now p l e R s m args below meth c Z T h k n) (hx : p.tables.exec = Jvm.exec) (hZ : Z.Warmed39 s.vm) (V : Arv Z h a kA ty z vs d) (hty : ty.isReference = true) (hj : ¬ j < 0 ∧ j < z) (hv : vs.getD j.toNatClampNeg d = v) (hd : decode c.code pc = .ok (.aaload, 1))
    (K : Ends p e below Φ T (mkF m (pc + 1) Ls (v :: rest))) : Ends p e below Φ T (mkF m pc Ls (.int j :: .ref a :: rest)) := by
  obtain ⟨L, X, eT, F, hn0⟩ := N
  obtain ⟨cl, A, q, S, M, H, U⟩ := V
  exact Ends.go (fun t q => X.aaload hx (by rw [eT]; exact A.1) (State.isArrayOf_alike hZ.alike A.2.1) hty A.2.2 (inb_of S hj) (H.at (inb_of S hj) hv) (g := mkF m pc Ls (.int j :: .ref a :: rest)) rfl rfl hd t q) K
/-- checkcast, instanceof: yes; of null -/
theorem gCast {own K0 : String} {index : Nat} {a : Addr} (N : Now p l e R s m args below meth c Z T h k n) (hx : p.tables.exec = Jvm.exec) (hZ : Z.Warmed39 s.vm) (hown : s.vm.findClass own = some m.cls) (w : (Jvm.Cond.classLink own index K0).before a0 Z = true) (I : Ins Z h a K0 true) (hd : decode c.code pc = .ok (.checkcast index, 3))
    (K : ∀ T', Now p l e R s m args below meth c Z T' h k n → Ends p e below Φ T' (mkF m (pc + 3) Ls (.ref a :: rest))) : Ends p e below Φ T (mkF m pc Ls (.ref a :: rest)) := by
  obtain ⟨L, X, eT, F, hn0⟩ := N
  obtain ⟨T1, X1, e1, st1⟩ := castY X hx hZ hown w eT I (g := mkF m pc Ls (.ref a :: rest)) rfl rfl hd
  exact Ends.go st1 (K T1 ⟨_, X1, e1, F, hn0⟩)
theorem gInst {own K0 : String} {index : Nat} {a : Addr} (N : Now p l e R s m args below meth c Z T h k n) (hx : p.tables.exec = Jvm.exec) (hZ : Z.Warmed39 s.vm) (hown : s.vm.findClass own = some m.cls) (w : (Jvm.Cond.classLink own index K0).before a0 Z = true) (I : Ins Z h a K0 true) (hd : decode c.code pc = .ok (.instanceof index, 3))
    (K : ∀ T', Now p l e R s m args below meth c Z T' h k n → Ends p e below Φ T' (mkF m (pc + 3) Ls (.int 1 :: rest))) : Ends p e below Φ T (mkF m pc Ls (.ref a :: rest)) := by
  obtain ⟨L, X, eT, F, hn0⟩ := N
  obtain ⟨T1, X1, e1, st1⟩ := instY X hx hZ hown w eT I (g := mkF m pc Ls (.ref a :: rest)) rfl rfl hd
  exact Ends.go st1 (K T1 ⟨_, X1, e1, F, hn0⟩)
theorem gCastN {index : Nat} (N : Now p l e R s m args below meth c Z T h k n) (hx : p.tables.exec = Jvm.exec) (hd : decode c.code pc = .ok (.checkcast index, 3)) (K : Ends p e below Φ T (mkF m (pc + 3) Ls (.null :: rest))) : Ends p e below Φ T (mkF m pc Ls (.null :: rest)) := by
  obtain ⟨L, X, eT, F, hn0⟩ := N
  exact Ends.go (X.checkcastNull hx (g := mkF m pc Ls (.null :: rest)) rfl rfl hd) K
theorem gInstN {index : Nat} (N : Now p l e R s m args below meth c Z T h k n) (hx : p.tables.exec = Jvm.exec) (hd : decode c.code pc = .ok (.instanceof index, 3)) (K : Ends p e below Φ T (mkF m (pc + 3) Ls (.int 0 :: rest))) : Ends p e below Φ T (mkF m pc Ls (.null :: rest)) := by
  obtain ⟨L, X, eT, F, hn0⟩ := N
  exact Ends.go (X.instanceofNull hx (g := mkF m pc Ls (.null :: rest)) rfl rfl hd) K
end Heap
section Calls
variable {pc : Nat} {Ls : Array Slot} {st rest argsL : List Value} {own : String} {index W k1 n1 : Nat} {y : MethodName} {Pre : Pt → Array Value → Prop}
/-- what a payer gives back, as Back's Post -/
abbrev PostN (Q : Option Value → Heap → List Loc → Prop) (k1 n1 : Nat) : Pt → Array Value → Option Value → Pt → Prop := fun A _ v B => ∃ L, Q v B.U.heap L ∧ B.locs = A.locs ++ L ∧ B.cells = A.cells + k1 ∧ B.slots = A.slots + n1
abbrev PreN (R : Room) (as' : Array Value) (h : Heap) (k1 n1 : Nat) : Pt → Array Value → Prop := fun A a => a = as' ∧ A.U.heap = h ∧ A.cells + k1 ≤ R.cells ∧ A.slots + n1 ≤ R.slots
variable {Qc : Option Value → Heap → List Loc → Prop}
/-- a static call -/
theorem gStatic {bytes : ByteArray} {maxL : Nat} {ret : Option FieldType} (N : Now p l e R s m args below meth c Z T h k n) (hx : p.tables.exec = Jvm.exec) (hZ : Z.Warmed39 s.vm) (hown : s.vm.findClass own = some m.cls)
    (w1 : (Jvm.Cond.methodLink own index y).before a0 Z = true) (w2 : (Jvm.Cond.static y).before a0 Z = true) (w3 : (Jvm.Cond.initialized y.cls).before a0 Z = true) (w4 : (Jvm.Cond.code y bytes maxL ret).before a0 Z = true) (hy : y.cls ≠ "java/lang/invoke/MethodHandle" ∧ y.cls ≠ "java/lang/invoke/VarHandle")
    (B : Back l R p e below s args y 3 W (PreN R argsL.toArray h k1 n1) (PostN Qc k1 n1)) (hd : decode c.code pc = .ok (.invokestatic index, 3)) (hst : st = argsL.reverse ++ rest) (hsize : Ls.size = c.maxLocals) (hlen : ∀ sig, parseMethodDescriptor y.desc = some sig → argsL.length = sig.parameters.length) (hW : (rest.map fun v => v.category).sum ≤ W)
    (hc : k + k1 ≤ R.cells) (hs : n + n1 ≤ R.slots) (hQ : ∀ v h' L, Qc v h' L → Fr Z.heap.size L)
    (K : ∀ v T' h' L, Now p l e R s m args below meth c Z T' h' (k + k1) (n + n1) → Qc v h' L → Ends p e below Φ T' (mkF m (pc + 3) Ls (v.toList ++ rest))) :
    Ends p e below Φ T (mkF m pc Ls st) := by
  obtain ⟨L, X, eT, F, hn0⟩ := N
  obtain ⟨v, _, ⟨T1, L1, q1, q2⟩, -, X1, ⟨Lc, hq, l1, y1, z1⟩, st1⟩ := Jvm.LawKit.callS X hx (y := y) hown (mvT hZ w1) (mvT hZ w2) (mvT hZ w3) (mvT hZ w4) hy B (g := mkF m pc Ls st) rfl hsize (argsL := argsL) (rest := rest) hlen hst (by show 2 * 0 + _ ≤ _; omega) hd (fun _ _ => ⟨rfl, eT, hc, hs⟩)
  dsimp only [Pt.U, Pt.locs, Pt.cells, Pt.slots] at X1 l1 y1 z1 st1 hq
  subst l1 y1 z1
  have q := hQ _ _ _ hq
  exact Ends.go st1 (K v T1 _ Lc ⟨_, X1, rfl, Fr.app F q, hn0⟩ hq)
/-- a constructor -/
theorem gSpecial {bytes : ByteArray} {maxL : Nat} {a : Addr} (hy1 : y.name = "<init>") (N : Now p l e R s m args below meth c Z T h k n) (hx : p.tables.exec = Jvm.exec) (hZ : Z.Warmed39 s.vm) (hown : s.vm.findClass own = some m.cls)
    (w1 : (Jvm.Cond.methodLink own index y).before a0 Z = true) (w2 : (Jvm.Cond.instanceMethod y).before a0 Z = true) (w4 : (Jvm.Cond.code y bytes maxL none).before a0 Z = true) (hy : y.cls ≠ "java/lang/invoke/MethodHandle" ∧ y.cls ≠ "java/lang/invoke/VarHandle")
    (B : Back l R p e below s args y 3 W (PreN R (.ref a :: argsL).toArray h k1 n1) (PostN Qc k1 n1)) (hd : decode c.code pc = .ok (.invokespecial index, 3)) (hst : st = argsL.reverse ++ .ref a :: rest) (hsize : Ls.size = c.maxLocals) (hlen : ∀ sig, parseMethodDescriptor y.desc = some sig → argsL.length = sig.parameters.length) (hW : (rest.map fun v => v.category).sum ≤ W)
    (hc : k + k1 ≤ R.cells) (hs : n + n1 ≤ R.slots) (hQ : ∀ v h' L, Qc v h' L → Fr Z.heap.size L)
    (K : ∀ v T' h' L, Now p l e R s m args below meth c Z T' h' (k + k1) (n + n1) → Qc v h' L → Ends p e below Φ T' (mkF m (pc + 3) Ls (v.toList ++ rest))) :
    Ends p e below Φ T (mkF m pc Ls st) := by
  obtain ⟨L, X, eT, F, hn0⟩ := N
  obtain ⟨v, _, ⟨T1, L1, q1, q2⟩, -, X1, ⟨Lc, hq, l1, y1, z1⟩, st1⟩ := X.specialBack hx (y := y) hy1 hown (mvT hZ w1) (mvT hZ w2) (mvT hZ w4) hy B (g := mkF m pc Ls st) rfl hsize (Steps.refl _) (a := a) (argsL := argsL) (rest := rest) hlen hst (by show 2 * 0 + _ ≤ _; omega) hd (fun _ _ => ⟨rfl, eT, hc, hs⟩)
  dsimp only [Pt.U, Pt.locs, Pt.cells, Pt.slots] at X1 l1 y1 z1 st1 hq
  subst l1 y1 z1
  have q := hQ _ _ _ hq
  exact Ends.go (fun t r => st1.trans r) (K v T1 _ Lc ⟨_, X1, rfl, Fr.app F q, hn0⟩ hq)
/-- an instance method -/
theorem gVirtual {C : String} {z : MethodName} {b : Addr} (N : Now p l e R s m args below meth c Z T h k n) (hx : p.tables.exec = Jvm.exec) (hZ : Z.Warmed39 s.vm) (hown : s.vm.findClass own = some m.cls)
    (w1 : (Jvm.Cond.methodLink own index y).before a0 Z = true) (w2 : (Jvm.Cond.declares y).before a0 Z = true) (w3 : (Jvm.Cond.selects C y z).before a0 Z = true) (w4 : (Jvm.Cond.instanceMethod z).before a0 Z = true) (hy : y.cls ≠ "java/lang/invoke/MethodHandle" ∧ y.cls ≠ "java/lang/invoke/VarHandle")
    (hnf : NotFace s y) (E : Exa Z h b C)
    (B : Back l R p e below s args z 3 W (PreN R (.ref b :: argsL).toArray h k1 n1) (PostN Qc k1 n1)) (hd : decode c.code pc = .ok (.invokevirtual index, 3)) (hst : st = argsL.reverse ++ .ref b :: rest) (hsize : Ls.size = c.maxLocals) (hlen : ∀ sig, parseMethodDescriptor y.desc = some sig → argsL.length = sig.parameters.length) (hW : (rest.map fun v => v.category).sum ≤ W)
    (hc : k + k1 ≤ R.cells) (hs : n + n1 ≤ R.slots) (hQ : ∀ v h' L, Qc v h' L → Fr Z.heap.size L)
    (K : ∀ v T' h' L, Now p l e R s m args below meth c Z T' h' (k + k1) (n + n1) → Qc v h' L → Ends p e below Φ T' (mkF m (pc + 3) Ls (v.toList ++ rest))) :
    Ends p e below Φ T (mkF m pc Ls st) := by
  obtain ⟨L, X, eT, F, hn0⟩ := N
  obtain ⟨cq, kq, qa, qb, qc⟩ := isOf hZ eT E
  obtain ⟨v, _, ⟨T1, L1, q1, q2⟩, -, X1, ⟨Lc, hq, l1, y1, z1⟩, st1⟩ := X.virtualBack hx (y := y) (z := z) hown (mvT hZ w1) (mvT hZ w2) hnf (mvT hZ w3) (mvT hZ w4) hy B qa qc (g := mkF m pc Ls st) rfl hsize (Steps.refl _) (argsL := argsL) (rest := rest) hlen hst (by show 2 * 0 + _ ≤ _; omega) hd (fun _ _ => ⟨rfl, eT, hc, hs⟩)
  dsimp only [Pt.U, Pt.locs, Pt.cells, Pt.slots] at X1 l1 y1 z1 st1 hq
  subst l1 y1 z1
  have q := hQ _ _ _ hq
  exact Ends.go (fun t r => st1.trans r) (K v T1 _ Lc ⟨_, X1, rfl, Fr.app F q, hn0⟩ hq)
/-- a private instance method, by invokevirtual -/
theorem gPrivate {bytes : ByteArray} {maxL : Nat} {ret : Option FieldType} {b : Addr} {C : String} (N : Now p l e R s m args below meth c Z T h k n) (hx : p.tables.exec = Jvm.exec) (hZ : Z.Warmed39 s.vm) (hown : s.vm.findClass own = some m.cls)
    (w1 : (Jvm.Cond.methodLink own index y).before a0 Z = true) (w2 : (Jvm.Cond.instanceMethod y).before a0 Z = true) (w3 : (Jvm.Cond.selects y.cls y y).before a0 Z = true) (w4 : (Jvm.Cond.privateMethod y).before a0 Z = true) (w5 : (Jvm.Cond.code y bytes maxL ret).before a0 Z = true) (hy : y.cls ≠ "java/lang/invoke/MethodHandle" ∧ y.cls ≠ "java/lang/invoke/VarHandle")
    (E : Exa Z h b C)
    (B : Back l R p e below s args y 3 W (PreN R (.ref b :: argsL).toArray h k1 n1) (PostN Qc k1 n1)) (hd : decode c.code pc = .ok (.invokevirtual index, 3)) (hst : st = argsL.reverse ++ .ref b :: rest) (hsize : Ls.size = c.maxLocals) (hlen : ∀ sig, parseMethodDescriptor y.desc = some sig → argsL.length = sig.parameters.length) (hW : (rest.map fun v => v.category).sum ≤ W)
    (hc : k + k1 ≤ R.cells) (hs : n + n1 ≤ R.slots) (hQ : ∀ v h' L, Qc v h' L → Fr Z.heap.size L)
    (K : ∀ v T' h' L, Now p l e R s m args below meth c Z T' h' (k + k1) (n + n1) → Qc v h' L → Ends p e below Φ T' (mkF m (pc + 3) Ls (v.toList ++ rest))) :
    Ends p e below Φ T (mkF m pc Ls st) := by
  obtain ⟨L, X, eT, F, hn0⟩ := N
  obtain ⟨cell, hce, hob⟩ := E.cell
  obtain ⟨v, _, ⟨T1, L1, q1, q2⟩, -, X1, ⟨Lc, hq, l1, y1, z1⟩, st1⟩ := X.privateBack hx (y := y) hown (mvT hZ w1) (mvT hZ w2) (mvT hZ w3) (Cond.privateMethod_at (args := args) (mvP hZ w4)) (mvT hZ w5) hy B (g := mkF m pc Ls st) rfl hsize (Steps.refl _) (by rw [eT]; exact hce) hob (argsL := argsL) (rest := rest) hlen hst (by show 2 * 0 + _ ≤ _; omega) hd (fun _ _ => ⟨rfl, eT, hc, hs⟩)
  dsimp only [Pt.U, Pt.locs, Pt.cells, Pt.slots] at X1 l1 y1 z1 st1 hq
  subst l1 y1 z1
  have q := hQ _ _ _ hq
  exact Ends.go (fun t r => st1.trans r) (K v T1 _ Lc ⟨_, X1, rfl, Fr.app F q, hn0⟩ hq)
/-- an interface method -/
theorem gFace {C : String} {count : Nat} {z : MethodName} {b : Addr} (N : Now p l e R s m args below meth c Z T h k n) (hx : p.tables.exec = Jvm.exec) (hZ : Z.Warmed39 s.vm) (hown : s.vm.findClass own = some m.cls)
    (w1 : (Jvm.Cond.methodLink own index y).before a0 Z = true) (w2 : (Jvm.Cond.declares y).before a0 Z = true) (w3 : (Jvm.Cond.interfaceMethod y.cls y.cls y.name y.desc).before args s = true) (w4 : (Jvm.Cond.selects C y z).before a0 Z = true) (w5 : (Jvm.Cond.instanceMethod z).before a0 Z = true) (w6 : (Jvm.Cond.publicMethod z).before a0 Z = true) (w7 : (Jvm.Cond.unhidden C y.name y.desc).before a0 Z = true) (w8 : (Jvm.Cond.castable C y.cls).before a0 Z = true)
    (hy : y.cls ≠ "java/lang/invoke/MethodHandle" ∧ y.cls ≠ "java/lang/invoke/VarHandle") (E : Exa Z h b C)
    (B : Back l R p e below s args z 5 W (PreN R (.ref b :: argsL).toArray h k1 n1) (PostN Qc k1 n1)) (hd : decode c.code pc = .ok (.invokeinterface index count, 5)) (hst : st = argsL.reverse ++ .ref b :: rest) (hsize : Ls.size = c.maxLocals) (hlen : ∀ sig, parseMethodDescriptor y.desc = some sig → argsL.length = sig.parameters.length) (hW : (rest.map fun v => v.category).sum ≤ W)
    (hc : k + k1 ≤ R.cells) (hs : n + n1 ≤ R.slots) (hQ : ∀ v h' L, Qc v h' L → Fr Z.heap.size L)
    (K : ∀ v T' h' L, Now p l e R s m args below meth c Z T' h' (k + k1) (n + n1) → Qc v h' L → Ends p e below Φ T' (mkF m (pc + 5) Ls (v.toList ++ rest))) :
    Ends p e below Φ T (mkF m pc Ls st) := by
  obtain ⟨L, X, eT, F, hn0⟩ := N
  obtain ⟨cq, kq, qa, qb, qc⟩ := isOf hZ eT E
  obtain ⟨v, _, ⟨T1, L1, q1, q2⟩, -, X1, ⟨Lc, hq, l1, y1, z1⟩, st1⟩ := X.interfaceBack hx (xi := y) (y := z) hown (mvT hZ w1) (mvT hZ w2) w3 (mvT hZ w4) (mvT hZ w5) (mvT hZ w6) (mvT hZ w7) (mvT hZ w8) hy B qa qb qc (g := mkF m pc Ls st) rfl hsize (Steps.refl _) (argsL := argsL) (rest := rest) hlen hst (by show 2 * 0 + _ ≤ _; omega) hd (fun _ _ => ⟨rfl, eT, hc, hs⟩)
  dsimp only [Pt.U, Pt.locs, Pt.cells, Pt.slots] at X1 l1 y1 z1 st1 hq
  subst l1 y1 z1
  have q := hQ _ _ _ hq
  exact Ends.go (fun t r => st1.trans r) (K v T1 _ Lc ⟨_, X1, rfl, Fr.app F q, hn0⟩ hq)
/-- a contract as a payer -/
theorem MetN.back {bytes : ByteArray} {maxL : Nat} {ret : Option FieldType} {rm : Room} {len : Nat} {as' : Array Value} (hM : MetN l Z y bytes maxL ret [] rm as' h Q)
    (hZ : Z.Warmed39 s.vm) (wc : (Jvm.Cond.code y bytes maxL ret).before a0 Z = true) (wz : (Jvm.Cond.initialized y.cls).before a0 Z = true) (hf : rm.frames + 1 ≤ R.frames) (hl : W + (maxL + 11) + rm.locals ≤ R.locals) :
    Back l R p e below s args y len W (PreN R as' h rm.cells rm.slots) (PostN (fun v h' L => Q v h' ∧ Fr Z.heap.size L) rm.cells rm.slots) := backOf (Q := fun v h' L => Q v h' ∧ Fr Z.heap.size L) hM hZ wc wz hf hl
end Calls
end OwnKit
end Jvm.Pilot.@@N@@
namespace Jvm.Pilot.@@N@@
open Jvm Jvm.ClassFile Sem Op Lib Jvm.Free Jvm.Stand Jvm.LawKit Jvm.RoadKit Bundle Jvm.Pilot.@@N@@.Jvm.D
section OwnStr
variable {p : Program} {l : Launch} {e : Env} {R : Room} {s : State} {m : MethodId} {args : Array Value} {below : List Frame} {meth : Method} {c : Code} {T T' : State} {Z : State} {a0 : Array Value} {h h' h2 : Heap} {k n k' n' : Nat} {Φ : Outcome → State → Prop} {cs ds : List Int32} {a b : Addr}
/-- a String whose chars are cs, all below 256 -/
def Str (Z : State) (h : Heap) (a : Addr) (cs : List Int32) : Prop :=
  Exa Z h a "java/lang/String" ∧ Fld Z h a "java/lang/String" "coder" "B" (.int 0) ∧ (∃ t kb, Fld Z h a "java/lang/String" "value" "[B" (.ref t) ∧ Arv Z h t kb .byte (Int32.ofNat cs.length) ((cs.map fun c => c.toInt8.toInt32).map Value.int) (.int 0)) ∧ (∀ c ∈ cs, ¬ c < 0 ∧ ¬ (255 : Int32) < c) ∧ cs.length ≤ 4000
theorem Str.ext (S : Str Z h a cs) (E : Ext h h') : Str Z h' a cs := by
  obtain ⟨h1, h2, ⟨t, kb, h3, h4⟩, h5⟩ := S
  exact ⟨h1.ext E, h2.ext E, ⟨t, kb, h3.ext E, h4.ext E⟩, h5⟩
theorem Str.lt (S : Str Z h a cs) : a < h.size := S.1.lt
theorem up16 (h : ∀ c ∈ cs, ¬ c < 0 ∧ ¬ (255 : Int32) < c) : ∀ c ∈ cs, ¬ c < 0 ∧ ¬ (65535 : Int32) < c := fun c hc => ⟨(h c hc).1, fun q => (h c hc).2 (by rw [Int32.lt_iff_toInt_lt] at q ⊢; have e1 : (65535 : Int32).toInt = 65535 := rfl; have e2 : (255 : Int32).toInt = 255 := rfl; omega)⟩
/-- the two statics that String's methods read -/
def Jdk (Z : State) : Prop := (∃ z, Sta Z Z.heap "java/lang/String" "COMPACT_STRINGS" "Z" (.int z) ∧ ¬ z = 0) ∧ ∃ fm, Sta Z Z.heap "jdk/internal/util/Preconditions" "SIOOBE_FORMATTER" "Ljava/util/function/BiFunction;" fm ∧ fm.isRef = true
theorem ext_keep {x : Addr} (E : Ext h h') (K : Keep h' h2 [x]) (hx : h.size ≤ x) : Ext h h2 := ⟨Nat.le_trans E.1 K.1, fun a c q => K.2.1 a c (E.2 a c q) fun z => by
  cases List.mem_singleton.mp z
  exact absurd (Array.getElem?_eq_some_iff.mp q).1 (Nat.not_lt.mpr hx)⟩
theorem ext_wr {x : Addr} {sl : Nat} {v : Value} (E : Ext h h') (W : Wr h' h2 x sl v) (hx : h.size ≤ x) : Ext h h2 := ext_keep E (Keep.of_wr W) hx
theorem ext_trans (E : Ext h h') (F : Ext h' h2) : Ext h h2 := ⟨Nat.le_trans E.1 F.1, fun a c q => F.2 a c (E.2 a c q)⟩
theorem ext_refl (h : Heap) : Ext h h := ⟨Nat.le_refl _, fun _ _ q => q⟩
/-- new String(char[]) -/
theorem strNew {x b : Addr} {kC : ClassId} {d v0 c0 : Value} {len W : Nat} (hZ : Z.Warmed39 s.vm) (hw : ∀ d ∈ tables_1, d.before a0 Z = true) (G : Jdk Z) (O : Ext Z.heap h) (hx0 : Z.heap.size ≤ x) (E : Exa Z h x "java/lang/String") (V : Fld Z h x "java/lang/String" "value" "[B" v0) (Cd : Fld Z h x "java/lang/String" "coder" "B" c0)
    (K : Arv Z h b kC .char (Int32.ofNat cs.length) (cs.map Value.int) d) (l0 : 0 < cs.length) (l2 : cs.length ≤ 4000) (hp : ∀ c ∈ cs, ¬ c < 0 ∧ ¬ (255 : Int32) < c) (hfr : 4 ≤ R.frames) (hlo : W + 65 ≤ R.locals) :
    Back l R p e below s args (⟨"java/lang/String", "<init>", "([C)V"⟩ : MethodName) len W (PreN R #[.ref x, .ref b] h 1 cs.length) (PostN (fun v h' L => v = none ∧ Keep h h' [x] ∧ Str Z h' x cs ∧ Fr Z.heap.size L) 1 cs.length) := by
  obtain ⟨⟨z, S, hz⟩, -⟩ := G
  refine Back.mono (StrChars.Road.backV (W := W) hZ (fun d hd => hw d ((by decide +kernel : ∀ d ∈ StrChars.Road.words, d ∈ tables_1) d hd)) (kI := 4) (hw _ (by decide +kernel)) (cs := cs) (bs := cs.map (fun c => c.toInt8.toInt32)) (n := cs.length) hx0 O.1 E V Cd K (S.ext O) hz rfl rfl l0 l2 hp rfl hfr hlo) (fun P a q => q) (fun P a v B q r => ?_)
  obtain ⟨L, ⟨q1, q2, q3, q4, q5, t, kb, -, -, -, q6, q7⟩, r1⟩ := r
  exact ⟨L, ⟨q1, q3, ⟨q4, q5, ⟨t, kb, q6, q7⟩, hp, l2⟩, q2⟩, r1⟩
theorem strEq {len W : Nat} (hZ : Z.Warmed39 s.vm) (hw : ∀ d ∈ tables_1, d.before a0 Z = true) (G : Jdk Z) (O : Ext Z.heap h) (S : Str Z h a cs) (S' : Str Z h b ds) (hfr : 2 ≤ R.frames) (hlo : W + 28 ≤ R.locals) :
    Back l R p e below s args (⟨"java/lang/String", "equals", "(Ljava/lang/Object;)Z"⟩ : MethodName) len W (PreN R #[.ref a, .ref b] h 0 0) (PostN (fun v h' L => v = some (.int (if cs = ds then 1 else 0)) ∧ L = [] ∧ h' = h) 0 0) := by
  obtain ⟨⟨z, Sz, hz⟩, -⟩ := G
  obtain ⟨E, Cd, ⟨t, kb, V, K⟩, hp, l2⟩ := S
  obtain ⟨E', Cd', ⟨t', kb', V', K'⟩, hp', l2'⟩ := S'
  refine Back.mono (StrChars.Road.eqW (W := W) hZ (fun d hd => hw d ((by decide +kernel : ∀ d ∈ StrChars.Road.wordsEq, d ∈ tables_1) d hd)) (kI := 4) (hw _ (by decide +kernel)) E V Cd K (StrChars.Road.codOf rfl (fun c hc => (hp c hc).2)) (up16 hp) l2 E' V' Cd' K' (StrChars.Road.codOf rfl (fun c hc => (hp' c hc).2)) (up16 hp') l2' (Sz.ext O) hz hfr hlo) (fun P a q => q) (fun P a v B q r => ?_)
  obtain ⟨L, ⟨q1, q2, q3⟩, r1⟩ := r
  refine ⟨L, ⟨?_, q2, q3⟩, r1⟩
  rcases q1 with ⟨rfl, q⟩ | ⟨rfl, q⟩
  · rw [if_pos q]
  · rw [if_neg q]
end OwnStr
end Jvm.Pilot.@@N@@
namespace Jvm.Pilot.@@N@@
open Jvm Jvm.ClassFile Sem Op Lib Jvm.Free Jvm.Stand Jvm.LawKit Jvm.RoadKit Bundle Jvm.Pilot.@@N@@.Jvm.D
section OwnWide
variable {p : Program} {l : Launch} {e : Env} {R : Room} {s : State} {m : MethodId} {args : Array Value} {below : List Frame} {meth : Method} {c : Code} {T T' : State} {Z : State} {a0 : Array Value} {h h' h2 : Heap} {k n k' n' : Nat} {Φ : Outcome → State → Prop} {Q : Option Value → Heap → Prop} {EL : List (String × Nat)} {vm0 vm1 : Vm} {cs : List Int32}
/-- the tables vm0 of a walk from s that may have interned; h: the heap -/
def Wd (Z s : State) (EL : List (String × Nat)) (vm0 : Vm) (h : Heap) : Prop := ∃ k0, s.Since vm0 k0 ∧ k0 ≤ h.size ∧ CHr Z EL s.vm s.heap vm0 h
theorem Wd.ext (w : Wd Z s EL vm0 h) (E : Ext h h') : Wd Z s EL vm0 h' := by
  obtain ⟨k0, h1, h2, h3⟩ := w; exact ⟨k0, h1, Nat.le_trans h2 E.1, h3.trans (CHr.ext E h3.1)⟩
theorem Wd.keep {ws : List Addr} (w : Wd Z s EL vm0 h) (K : Keep h h' ws) (hs : ∀ x ∈ ws, Safe Z EL vm0 h x) : Wd Z s EL vm0 h' := by
  obtain ⟨k0, h1, h2, h3⟩ := w; exact ⟨k0, h1, Nat.le_trans h2 K.1, h3.trans (CHr.keep K hs h3.1)⟩
theorem Wd.held (w : Wd Z s EL vm0 h) : CHv Z EL vm0 h := by obtain ⟨_, _, _, h3⟩ := w; exact h3.1
def PhiW (Z s : State) (EL : List (String × Nat)) (Q : Option Value → Heap → Prop) (K N : Nat) : Outcome → State → Prop := fun o u => ∃ v L, o = .returned v ∧ (Q v u.heap ∧ Fr Z.heap.size L) ∧ CHr Z EL s.vm s.heap u.vm u.heap ∧ ReturnedEndW s o u L K N
def MetW (l : Launch) (Z : State) (EL : List (String × Nat)) (y : MethodName) (bytes : ByteArray) (maxL : Nat) (ret : Option FieldType) (ws : List Jvm.Cond) (rm : Room) (as' : Array Value) (h : Heap) (Q : Option Value → Heap → Prop) : Prop :=
  MetFree l y (head1 (Jvm.Cond.code y bytes maxL ret :: ws) rm) (fun a U => a = as' ∧ Z.Warmed39 U.vm ∧ U.heap = h ∧ CHv Z EL U.vm h) (fun _ _ _ _ _ => True) (fun _ U o U' => ∃ v L, o = .returned v ∧ (Q v U'.heap ∧ Fr Z.heap.size L) ∧ CHr Z EL U.vm U.heap U'.vm U'.heap ∧ ReturnedEndW U o U' L rm.cells rm.slots)
theorem metW {y : MethodName} {bytes : ByteArray} {maxL : Nat} {ret : Option FieldType} {ws : List Jvm.Cond} {rm : Room} {as' : Array Value} {Ls : Array Slot} (hpl : plainFor y = true) (hn0 : Ext Z.heap h) (ef : ∀ m, entryFrame m as' maxL = mkF m 0 Ls [])
    (walk : ∀ (p : Program) (e : Env) (s : State) (m : MethodId) (below : List Frame) (meth : Method) (c : Code) (T : State) (vm0 : Vm), p.tables.exec = Jvm.exec → c.code = bytes → c.maxLocals = maxL → meth.sig.returnType = ret → meth.locks = false → (s.setVm vm0).vm.findClass y.cls = some m.cls → meth.name = y.name → Z.Warmed39 (s.setVm vm0).vm →
      Now p l e rm (s.setVm vm0) m as' below meth c Z T h 0 0 → Wd Z s EL vm0 h → Ends p e below (PhiW Z s EL Q rm.cells rm.slots) T (mkF m 0 Ls [])) : MetW l Z EL y bytes maxL ret ws rm as' h Q := by
  refine MetFree.of_bodySF hpl hisR ?_
  intro p e s m args below meth c s₁ Bd hml0 hP hK
  obtain ⟨rfl, hZ, hh, hC⟩ := hP
  have e0 : s₁.heap = h := by rw [← hh, Bd.state]; rfl
  have N0 : Now p l e rm (s.setVm s.vm) m args below meth c Z s₁ h 0 0 := ⟨[], Stand.of_body Bd, e0, Fr.nil _, hh ▸ hn0⟩
  have W0 : Wd Z s EL s.vm h := ⟨s.heap.size, (State.WarmedH.refl s).since _, by rw [hh]; exact Nat.le_refl _, by rw [hh]; exact CHr.refl hC⟩
  have W := walk p e s m below meth c s₁ s.vm Bd.exec Bd.bytes hml0 Bd.returns Bd.notSynchronized (findClass_of_methodNamed Bd.named) (name_of_methodNamed Bd.named Bd.method).1 hZ N0 W0
  rw [← ef] at W
  exact W
theorem endW {v : Option Value} {f : JFrame} {K M : Nat} (N : Now p l e R (s.setVm vm0) m args below meth c Z T h k n) (hZ : Z.Warmed39 (s.setVm vm0).vm) (hEL : EW Z a0 EL) (w : Wd Z s EL vm0 h) (hlocks : meth.locks = false) (hv : meth.sig.returnType = none → v = none)
    (st : ∀ (locs : List Loc), Stand p l e R (s.setVm vm0) m args below meth c T locs k n → ∀ fs, (∀ (f : JFrame) (acts : List Action), f.method = m → f.locked = none → f.entered = [] → (doReturn e (T.setTop f) acts v).1 = T.setFrames fs) → Steps p.tables e below (T.setTop f) (T.setFrames fs)) (hQ : Q v h) (hk : k ≤ K) (hn : n ≤ M) :
    Ends p e below (PhiW Z s EL Q K M) T f := by
  obtain ⟨L, X, eT, F, _⟩ := N
  obtain ⟨k0, h1, h2, h3⟩ := w
  subst eT
  obtain ⟨fs, hr, hrun, hended, hW⟩ := X.leaveW h1 h2 hv hlocks
  have A : CHr Z EL vm0 T.heap T.vm T.heap := CHv.at X hZ hEL h3.1
  exact ⟨_, _, st L X fs hr, hrun, hended, _, L, rfl, ⟨hQ, F⟩, h3.trans A, hW.1, hW.2.1, hW.2.2.1, hW.2.2.2.mono hk hn⟩
section Ret
variable {pc : Nat} {Ls : Array Slot} {rest : List Value} {K M : Nat}
theorem retZW {z : Int32} {t : FieldType} (N : Now p l e R (s.setVm vm0) m args below meth c Z T h k n) (hZ : Z.Warmed39 (s.setVm vm0).vm) (hEL : EW Z a0 EL) (w : Wd Z s EL vm0 h) (hx : p.tables.exec = Jvm.exec) (hlocks : meth.locks = false) (hret : meth.sig.returnType = some t) (ht : t = .boolean ∨ t = .byte ∨ t = .char ∨ t = .short) (hd : decode c.code pc = .ok (.ireturn, 1)) (hQ : Q (some (.int (nar t z))) h) (hk : k ≤ K) (hn : n ≤ M) :
    Ends p e below (PhiW Z s EL Q K M) T (mkF m pc Ls (.int z :: rest)) :=
  endW N hZ hEL w hlocks (fun q => by rw [hret] at q; cases q) (fun L X fs hr => retN X hx hret ht hd hr) hQ hk hn
theorem retAW {v : Value} {t : FieldType} (N : Now p l e R (s.setVm vm0) m args below meth c Z T h k n) (hZ : Z.Warmed39 (s.setVm vm0).vm) (hEL : EW Z a0 EL) (w : Wd Z s EL vm0 h) (hx : p.tables.exec = Jvm.exec) (hlocks : meth.locks = false) (hret : meth.sig.returnType = some t) (ht : t.isReference = true) (hv : v.isRef = true) (hd : decode c.code pc = .ok (.areturn, 1)) (hQ : Q (some v) h) (hk : k ≤ K) (hn : n ≤ M) :
    Ends p e below (PhiW Z s EL Q K M) T (mkF m pc Ls (v :: rest)) :=
  endW N hZ hEL w hlocks (fun q => by rw [hret] at q; cases q) (fun L X fs hr => retOut X hx hret (by cases v <;> first | (cases hv; done) | (cases t <;> first | (cases ht; done) | rfl)) (Or.inr (Or.inr (Or.inr (Or.inr ⟨rfl, ht, hv⟩)))) hd hr) hQ hk hn
theorem retVW (N : Now p l e R (s.setVm vm0) m args below meth c Z T h k n) (hZ : Z.Warmed39 (s.setVm vm0).vm) (hEL : EW Z a0 EL) (w : Wd Z s EL vm0 h) (hx : p.tables.exec = Jvm.exec) (hlocks : meth.locks = false) (hret : meth.sig.returnType = none) (hd : decode c.code pc = .ok (.return_, 1)) (hQ : Q none h) (hk : k ≤ K) (hn : n ≤ M) :
    Ends p e below (PhiW Z s EL Q K M) T (mkF m pc Ls []) :=
  endW N hZ hEL w hlocks (fun _ => rfl) (fun L X fs hr => X.returnOut hx hret hd hr) hQ hk hn
end Ret
section Steps
variable {pc : Nat} {Ls : Array Slot} {st rest argsL : List Value} {own : String} {index W k1 n1 : Nat} {y : MethodName}
/-- ldc of a String constant, its text read -/
theorem gLdcS {text : String} (q : Nat) (N : Now p l e R (s.setVm vm0) m args below meth c Z T h k n) (hx : p.tables.exec = Jvm.exec) (hZ : Z.Warmed39 (s.setVm vm0).vm) (hown : (s.setVm vm0).vm.findClass own = some m.cls) (w : (Jvm.Cond.stringLink own index text).before a0 Z = true) (wS : ∀ a ∈ Bundle.stringAtoms, a.before a0 Z = true)
    (hEL : EW Z a0 EL) (hmem : (own, index) ∈ EL) (wd : Wd Z s EL vm0 h) (ht : (∀ c ∈ text.toList, c.toNat < 256) ∧ text.toList.map (fun c => Value.int (Jvm.Lit.byteI c.toNat.toUInt16)) = (cs.map fun c => c.toInt8.toInt32).map Value.int) (hcs : ∀ c ∈ cs, ¬ c < 0 ∧ ¬ (255 : Int32) < c) (hlen : cs.length ≤ 4000)
    (hd : decode c.code pc = .ok (.ldc index, 2)) (hn : 4 * text.toList.length ≤ q) (hbig : q ≤ 536870912) (hc : k + 2 ≤ R.cells) (hl : n + (q + 4) ≤ R.slots)
    (K : ∀ vm1 T' h' a, Now p l e R (s.setVm vm1) m args below meth c Z T' h' (k + 2) (n + (q + 4)) → Ext h h' → Str Z h' a cs → Z.Warmed39 (s.setVm vm1).vm → (s.setVm vm1).vm.findClass own = some m.cls → Wd Z s EL vm1 h' → CHr Z EL vm0 h vm1 h' → Ends p e below Φ T' (mkF m (pc + 2) Ls (.ref a :: st))) :
    Ends p e below Φ T (mkF m pc Ls st) := by
  obtain ⟨L, X, eT, F, hO⟩ := N
  obtain ⟨k0, h1, h2, h3⟩ := wd
  have e1 : (Int32.ofNat cs.length).toInt = cs.length := len_toInt (by omega)
  have hz : ¬ (Int32.ofNat cs.length) < 0 := by
    rw [Int32.lt_iff_toInt_lt, e1]; have e0 : (0 : Int32).toInt = 0 := rfl
    omega
  have hl0 : (Int32.ofNat cs.length).toNatClampNeg = ((cs.map fun c => c.toInt8.toInt32).map Value.int).length := by simp only [Int32.toNatClampNeg, e1, List.length_map]; omega
  obtain ⟨a, T1, h1', kk, b, kb, X1, e1', E1, S1, k1', Z1, o1, A1, C1, V1, K1, -, -, R1, -, -, st1⟩ := ldcCH X hx hZ hown w wS eT h1 h2 hEL hmem h3.1 ht hz hl0 (g := mkF m pc Ls st) rfl hd hn hbig hc hl
  exact Ends.go st1 (K T1.vm T1 h1' a ⟨L, X1, e1', F, hO⟩ E1 ⟨A1, C1, ⟨b, kb, V1, K1⟩, hcs, hlen⟩ Z1 o1 ⟨kk, S1, k1', h3.trans R1⟩ R1)
abbrev PostW (Z : State) (EL : List (String × Nat)) (vm0 : Vm) (h : Heap) (Q : Option Value → Heap → List Loc → Prop) (k1 n1 : Nat) : Pt → Array Value → Option Value → Pt → Prop := fun A _ v B => ∃ L, Q v B.U.heap L ∧ B.locs = A.locs ++ L ∧ B.cells = A.cells + k1 ∧ B.slots = A.slots + n1 ∧ CHr Z EL vm0 h B.U.vm B.U.heap
variable {Qc : Option Value → Heap → List Loc → Prop}
/-- a static call of a callee that may intern -/
theorem gStaticW {bytes : ByteArray} {maxL : Nat} {ret : Option FieldType} (N : Now p l e R (s.setVm vm0) m args below meth c Z T h k n) (hx : p.tables.exec = Jvm.exec) (hZ : Z.Warmed39 (s.setVm vm0).vm) (hown : (s.setVm vm0).vm.findClass own = some m.cls) (wd : Wd Z s EL vm0 h)
    (w1 : (Jvm.Cond.methodLink own index y).before a0 Z = true) (w2 : (Jvm.Cond.static y).before a0 Z = true) (w3 : (Jvm.Cond.initialized y.cls).before a0 Z = true) (w4 : (Jvm.Cond.code y bytes maxL ret).before a0 Z = true) (hy : y.cls ≠ "java/lang/invoke/MethodHandle" ∧ y.cls ≠ "java/lang/invoke/VarHandle")
    (B : BackS l R p e below (s.setVm vm0) args y 3 W (PreN R argsL.toArray h k1 n1) (PostW Z EL vm0 h Qc k1 n1)) (hd : decode c.code pc = .ok (.invokestatic index, 3)) (hst : st = argsL.reverse ++ rest) (hsize : Ls.size = c.maxLocals) (hlen : ∀ sig, parseMethodDescriptor y.desc = some sig → argsL.length = sig.parameters.length) (hW : (rest.map fun v => v.category).sum ≤ W)
    (hc : k + k1 ≤ R.cells) (hs : n + n1 ≤ R.slots) (hQ : ∀ v h' L, Qc v h' L → Fr Z.heap.size L)
    (K : ∀ v vm1 T' h' L, Now p l e R (s.setVm vm1) m args below meth c Z T' h' (k + k1) (n + n1) → Qc v h' L → Z.Warmed39 (s.setVm vm1).vm → (s.setVm vm1).vm.findClass own = some m.cls → Wd Z s EL vm1 h' → Ends p e below Φ T' (mkF m (pc + 3) Ls (v.toList ++ rest))) :
    Ends p e below Φ T (mkF m pc Ls st) := by
  obtain ⟨L, X, eT, F, hO⟩ := N
  obtain ⟨k0, h1, h2, h3⟩ := wd
  obtain ⟨v, _, ⟨T1, L1, q1, q2⟩, -, X1, S1, g1, ⟨Lc, hq, l1, y1, z1, C1⟩, st1⟩ := callSS X hx (y := y) hown (mvT hZ w1) (mvT hZ w2) (mvT hZ w3) (mvT hZ w4) hy B (g := mkF m pc Ls st) rfl hsize (argsL := argsL) (rest := rest) hlen hst (by show 2 * 0 + _ ≤ _; omega) hd (fun _ _ => ⟨rfl, eT, hc, hs⟩)
  dsimp only [Pt.U, Pt.locs, Pt.cells, Pt.slots] at X1 l1 y1 z1 st1 hq S1 g1 C1
  subst l1 y1 z1
  have q := hQ _ _ _ hq
  have hh : k0 ≤ T1.heap.size := Nat.le_trans h2 (eT ▸ g1)
  exact Ends.go (fun t r => st1.trans r) (K v T1.vm T1 _ Lc ⟨_, X1, rfl, Fr.app F q, hO⟩ hq (State.Warmed39.trans (t := s.setVm vm0) hZ S1.1) (by rw [show (s.setVm T1.vm).vm = T1.vm from rfl, S1.1.alike.findClass]; exact hown) ⟨_, h1.trans S1 hh, Nat.le_refl _, h3.trans C1⟩)
/-- a constructor that may intern -/
theorem gSpecialW {bytes : ByteArray} {maxL : Nat} {a : Addr} (hy1 : y.name = "<init>") (N : Now p l e R (s.setVm vm0) m args below meth c Z T h k n) (hx : p.tables.exec = Jvm.exec) (hZ : Z.Warmed39 (s.setVm vm0).vm) (hown : (s.setVm vm0).vm.findClass own = some m.cls) (wd : Wd Z s EL vm0 h)
    (w1 : (Jvm.Cond.methodLink own index y).before a0 Z = true) (w2 : (Jvm.Cond.instanceMethod y).before a0 Z = true) (w4 : (Jvm.Cond.code y bytes maxL none).before a0 Z = true) (hy : y.cls ≠ "java/lang/invoke/MethodHandle" ∧ y.cls ≠ "java/lang/invoke/VarHandle")
    (B : BackS l R p e below (s.setVm vm0) args y 3 W (PreN R (.ref a :: argsL).toArray h k1 n1) (PostW Z EL vm0 h Qc k1 n1)) (hd : decode c.code pc = .ok (.invokespecial index, 3)) (hst : st = argsL.reverse ++ .ref a :: rest) (hsize : Ls.size = c.maxLocals) (hlen : ∀ sig, parseMethodDescriptor y.desc = some sig → argsL.length = sig.parameters.length) (hW : (rest.map fun v => v.category).sum ≤ W)
    (hc : k + k1 ≤ R.cells) (hs : n + n1 ≤ R.slots) (hQ : ∀ v h' L, Qc v h' L → Fr Z.heap.size L)
    (K : ∀ v vm1 T' h' L, Now p l e R (s.setVm vm1) m args below meth c Z T' h' (k + k1) (n + n1) → Qc v h' L → Z.Warmed39 (s.setVm vm1).vm → (s.setVm vm1).vm.findClass own = some m.cls → Wd Z s EL vm1 h' → Ends p e below Φ T' (mkF m (pc + 3) Ls (v.toList ++ rest))) :
    Ends p e below Φ T (mkF m pc Ls st) := by
  obtain ⟨L, X, eT, F, hO⟩ := N
  obtain ⟨k0, h1, h2, h3⟩ := wd
  obtain ⟨v, _, ⟨T1, L1, q1, q2⟩, -, X1, S1, g1, ⟨Lc, hq, l1, y1, z1, C1⟩, st1⟩ := X.specialBackS hx (y := y) hy1 hown (mvT hZ w1) (mvT hZ w2) (mvT hZ w4) hy B (g := mkF m pc Ls st) rfl hsize (Steps.refl _) (a := a) (argsL := argsL) (rest := rest) hlen hst (by show 2 * 0 + _ ≤ _; omega) hd (fun _ _ => ⟨rfl, eT, hc, hs⟩)
  dsimp only [Pt.U, Pt.locs, Pt.cells, Pt.slots] at X1 l1 y1 z1 st1 hq S1 g1 C1
  subst l1 y1 z1
  have q := hQ _ _ _ hq
  have hh : k0 ≤ T1.heap.size := Nat.le_trans h2 (eT ▸ g1)
  exact Ends.go (fun t r => st1.trans r) (K v T1.vm T1 _ Lc ⟨_, X1, rfl, Fr.app F q, hO⟩ hq (State.Warmed39.trans (t := s.setVm vm0) hZ S1.1) (by rw [show (s.setVm T1.vm).vm = T1.vm from rfl, S1.1.alike.findClass]; exact hown) ⟨_, h1.trans S1 hh, Nat.le_refl _, h3.trans C1⟩)
theorem MetW.back {bytes : ByteArray} {maxL : Nat} {ret : Option FieldType} {rm : Room} {len : Nat} {as' : Array Value} (hM : MetW l Z EL y bytes maxL ret [] rm as' h Q)
    (hZ : Z.Warmed39 (s.setVm vm0).vm) (wc : (Jvm.Cond.code y bytes maxL ret).before a0 Z = true) (wz : (Jvm.Cond.initialized y.cls).before a0 Z = true) (hf : rm.frames + 1 ≤ R.frames) (hl : W + (maxL + 11) + rm.locals ≤ R.locals) (hEL : EW Z a0 EL) (wd : Wd Z s EL vm0 h) :
    BackS l R p e below (s.setVm vm0) args y len W (PreN R as' h rm.cells rm.slots) (PostW Z EL vm0 h (fun v h' L => Q v h' ∧ Fr Z.heap.size L) rm.cells rm.slots) := backOfSH (Q := fun v h' L => Q v h' ∧ Fr Z.heap.size L) hM hZ wc wz hf hl hEL wd.held
end Steps
end OwnWide
end Jvm.Pilot.@@N@@
namespace Jvm.Pilot.@@N@@
open Jvm Jvm.ClassFile Sem Op Lib Jvm.Free Jvm.Stand Jvm.LawKit Jvm.RoadKit Bundle Jvm.Pilot.@@N@@.Jvm.D
theorem elw {Z : State} {a0 : Array Value} (hw : ∀ d ∈ tables_1, d.before a0 Z = true) : EW Z a0 consts_1 := (EW.cons (hw _ (List.mem_of_getElem? (i := 31) rfl)) (by decide +kernel) (EW.cons (hw _ (List.mem_of_getElem? (i := 43) rfl)) (by decide +kernel) (EW.cons (hw _ (List.mem_of_getElem? (i := 44) rfl)) (by decide +kernel) (EW.cons (hw _ (List.mem_of_getElem? (i := 19) rfl)) (by decide +kernel) EW.nil))))
theorem satoms {Z : State} {a0 : Array Value} (hw : ∀ d ∈ tables_1, d.before a0 Z = true) : ∀ a ∈ Bundle.stringAtoms, a.before a0 Z = true := fun d hd => hw d ((by decide +kernel : ∀ d ∈ Bundle.stringAtoms, d ∈ tables_1) d hd)
theorem hp_nil : ∀ c ∈ ([] : List Int32), ¬ c < 0 ∧ ¬ (255 : Int32) < c := fun _ q => nomatch q
theorem hp_cons {c : Int32} {cs : List Int32} (h : ¬ c < 0 ∧ ¬ (255 : Int32) < c) (r : ∀ c ∈ cs, ¬ c < 0 ∧ ¬ (255 : Int32) < c) : ∀ c' ∈ c :: cs, ¬ c' < 0 ∧ ¬ (255 : Int32) < c' := fun c' q => (List.mem_cons.mp q).elim (fun e => e ▸ h) (r c')
/-- a String whose value is still null is no booked constant -/
theorem safe_null {Z : State} {EL : List (String × Nat)} {vm : Vm} {h : Heap} {x : Addr} (hal : Z.vm.Alike vm) (E : Exa Z h x "java/lang/String") (V : Fld Z h x "java/lang/String" "value" "[B" .null) : Safe Z EL vm h x := fun B => by
  obtain ⟨cell, k, e1, e2, -, -, -⟩ := E
  obtain ⟨cell', cf, kf, i, f, v1, v2, -, -, -, -, v7⟩ := V
  cases e1.symm.trans v1
  obtain ⟨p, -, u, a, -, q, -, F, rfl | rfl⟩ := B
  · have g1 : h[q.sa]? = some q.sC := F.ha
    cases g1.symm.trans e1
    obtain ⟨cS, ⟨⟨-, -, -, ⟨cv, kv, iv, s4, -⟩, -, -, -, s8, -⟩, -⟩, -⟩ := F
    obtain ⟨kv', z4⟩ := ff_back (U := Wst Z vm h) hal s4
    cases v2.symm.trans z4
    rw [v7] at s8
    cases s8
  · have g1 : h[q.sd]? = some q.SA := F.hd
    cases g1.symm.trans e1
    obtain ⟨cS, -, -, f2, -⟩ := F
    have f3 : Z.vm.findClass "[B" = some q.SA.cls := by rw [← hal.findClass]; exact f2
    obtain ⟨k1, q1, q2⟩ := Vm.findClass_spec e2
    obtain ⟨k2, q3, q4⟩ := Vm.findClass_spec f3
    cases q1.symm.trans q3
    exact absurd (q2.symm.trans q4) (by decide)
theorem d3_0 : decode jdk_42_method_149_code 0 = .ok (.aload_n 0, 1) := by decide +kernel
theorem d3_1 : decode jdk_42_method_149_code 1 = .ok (.invokespecial 1, 3) := by decide +kernel
theorem d3_4 : decode jdk_42_method_149_code 4 = .ok (.iload_n 3, 1) := by decide +kernel
theorem d3_5 : decode jdk_42_method_149_code 5 = .ok (.ifCond .ne 22, 3) := by decide +kernel
theorem d3_8 : decode jdk_42_method_149_code 8 = .ok (.aload_n 0, 1) := by decide +kernel
theorem d3_9 : decode jdk_42_method_149_code 9 = .ok (.ldc 7, 2) := by decide +kernel
theorem d3_11 : decode jdk_42_method_149_code 11 = .ok (.getfield 9, 3) := by decide +kernel
theorem d3_14 : decode jdk_42_method_149_code 14 = .ok (.putfield 9, 3) := by decide +kernel
theorem d3_17 : decode jdk_42_method_149_code 17 = .ok (.aload_n 0, 1) := by decide +kernel
theorem d3_18 : decode jdk_42_method_149_code 18 = .ok (.ldc 7, 2) := by decide +kernel
theorem d3_20 : decode jdk_42_method_149_code 20 = .ok (.getfield 15, 3) := by decide +kernel
theorem d3_23 : decode jdk_42_method_149_code 23 = .ok (.putfield 15, 3) := by decide +kernel
theorem d3_26 : decode jdk_42_method_149_code 26 = .ok (.return_, 1) := by decide +kernel
set_option maxRecDepth 65536 in
set_option maxHeartbeats 40000000 in
theorem rmE4 (l : Launch) (Z : State) (a0 : Array Value) (hw : ∀ d ∈ tables_1, d.before a0 Z = true) (x b : Addr) (h0 : Heap) (Z0 : Ext Z.heap h0) (E : Exa Z h0 x "java/lang/String") (V : Fld Z h0 x "java/lang/String" "value" "[B" .null) (Cd : Fld Z h0 x "java/lang/String" "coder" "B" (.int 0)) (gz : Z.heap.size ≤ x) :
    MetW l Z consts_1 (⟨"java/lang/String", "<init>", "([CIILjava/lang/Void;)V"⟩ : MethodName) jdk_42_method_149_code 6 none [] ({ frames := 1, cells := 4, slots := 8, locals := 12 } : Room) #[(.ref x), (.ref b), (.int (0 : Int32)), (.int (0 : Int32)), .null] h0 (fun v h => v = none ∧ Keep h0 h [x] ∧ Str Z h x []) := by
  refine metW (by first | exact plainFor_of_name (by first | (simp [plainName, overriddenIn]; done) | decide +kernel) | decide +kernel) Z0 (Ls := #[.val (.ref x), .val (.ref b), .val (.int (0 : Int32)), .val (.int (0 : Int32)), .val .null, .unset]) (fun m => by first | (simp [entryFrame, mkF, argsToLocals, Value.category]; done) | rfl) ?_
  intro p e s m below meth c T0 vm0 hx hby hml hret hlk hown hnm hZ N0 wd0
  refine Ends.go (f' := (mkF m 1 #[.val (.ref x), .val (.ref b), .val (.int (0 : Int32)), .val (.int (0 : Int32)), .val .null, .unset] [(.ref x)])) (fun t k => XS.aloadN N0.here hx rfl (hb hby d3_0) rfl rfl k) ?_
  refine gInitO 0 N0 hx hZ hown (hw _ (List.mem_of_getElem? (i := 16) rfl)) (hw _ (List.mem_of_getElem? (i := 17) rfl)) (hw _ (List.mem_of_getElem? (i := 18) rfl)) (hb hby d3_1) (by rw [hml]; rfl) (nle rfl) (nle rfl) (nle rfl) ?_
  intro T1 N2
  show Ends p e below _ T1 (mkF m 4 #[.val (.ref x), .val (.ref b), .val (.int (0 : Int32)), .val (.int (0 : Int32)), .val .null, .unset] [])
  refine Ends.go (f' := (mkF m 5 #[.val (.ref x), .val (.ref b), .val (.int (0 : Int32)), .val (.int (0 : Int32)), .val .null, .unset] [(.int (0 : Int32))])) (fun t k => XS.iloadN N2.here hx rfl (hb hby d3_4) rfl k) ?_
  refine Ends.go (f' := (mkF m 8 #[.val (.ref x), .val (.ref b), .val (.int (0 : Int32)), .val (.int (0 : Int32)), .val .null, .unset] [])) (fun t k => XS.ifNo N2.here hx rfl (hb hby d3_5) rfl (XT.i0_ne_f (by decide)) k) ?_
  refine Ends.go (f' := (mkF m 9 #[.val (.ref x), .val (.ref b), .val (.int (0 : Int32)), .val (.int (0 : Int32)), .val .null, .unset] [(.ref x)])) (fun t k => XS.aloadN N2.here hx rfl (hb hby d3_8) rfl rfl k) ?_
  refine gLdcS (cs := []) 0 N2 hx hZ hown (hw _ (List.mem_of_getElem? (i := 19) rfl)) (satoms hw) (elw hw) (by simp [consts_1]) wd0 ⟨by decide +kernel, by decide +kernel⟩ (by decide +kernel) (nle rfl) (hb hby d3_9) (nle rfl) (nle rfl) (nle rfl) (nle rfl) ?_
  intro vm3 T4 h5 a6 N7 E8 S9 hZ hown wd10 R11
  have X12 : Ext h0 h5 := ext_trans (ext_refl h0) E8
  show Ends p e below _ T4 (mkF m 11 #[.val (.ref x), .val (.ref b), .val (.int (0 : Int32)), .val (.int (0 : Int32)), .val .null, .unset] [(.ref a6), (.ref x)])
  obtain ⟨A1, C1, ⟨t1, kb1, V1, K1⟩, -, -⟩ := S9
  refine gGet (host := "") N7 hx hZ hown (Or.inl (hw _ (List.mem_of_getElem? (i := 25) rfl))) Via.refl V1 (hb hby d3_11) ?_
  intro T13 N14
  show Ends p e below _ T13 (mkF m 14 #[.val (.ref x), .val (.ref b), .val (.int (0 : Int32)), .val (.int (0 : Int32)), .val .null, .unset] [(.ref t1), (.ref x)])
  have ex1 := E.ext E8
  have vx1 := V.ext E8
  have cx1 := Cd.ext E8
  have ne1 : t1 ≠ x := fun q => (Exa.neArv ex1 K1 (hw _ (List.mem_of_getElem? (i := 6) rfl))) q.symm
  have sne : RoadKit.slotOf Z "java/lang/String" "coder" "B" ≠ RoadKit.slotOf Z "java/lang/String" "value" "[B" := slot_ne (t := .byte) (t' := .array .byte) (Or.inr (hw _ (List.mem_of_getElem? (i := 22) rfl))) (Or.inr (hw _ (List.mem_of_getElem? (i := 21) rfl))) (by decide) (by decide) (by decide)
  have sf1 : Safe Z consts_1 vm3 h5 x := safe_null hZ.alike ex1 vx1
  refine gPut (host := "") (C := "java/lang/String") N14 hx hZ hown (Or.inl (hw _ (List.mem_of_getElem? (i := 25) rfl))) Via.refl vx1 ex1 gz (Or.inr ⟨(hw _ (List.mem_of_getElem? (i := 21) rfl)), rfl, hnm⟩) (hw _ (List.mem_of_getElem? (i := 6) rfl)) (ty := (.array .byte)) (by decide) rfl rfl (hb hby d3_14) ?_
  intro T15 h16 N17 W18 F19 E20
  have wd2 : Wd Z s consts_1 vm3 h16 := wd10.keep (Keep.of_wr W18) (allS sf1 all0)
  have sf2 : Safe Z consts_1 vm3 h16 x := Safe.wr W18 sf1 wd10.held sf1
  show Ends p e below _ T15 (mkF m 17 #[.val (.ref x), .val (.ref b), .val (.int (0 : Int32)), .val (.int (0 : Int32)), .val .null, .unset] [])
  refine Ends.go (f' := (mkF m 18 #[.val (.ref x), .val (.ref b), .val (.int (0 : Int32)), .val (.int (0 : Int32)), .val .null, .unset] [(.ref x)])) (fun t k => XS.aloadN N17.here hx rfl (hb hby d3_17) rfl rfl k) ?_
  refine gLdcS (cs := []) 0 N17 hx hZ hown (hw _ (List.mem_of_getElem? (i := 19) rfl)) (satoms hw) (elw hw) (by simp [consts_1]) wd2 ⟨by decide +kernel, by decide +kernel⟩ (by decide +kernel) (nle rfl) (hb hby d3_18) (nle rfl) (nle rfl) (nle rfl) (nle rfl) ?_
  intro vm21 T22 h23 a24 N25 E26 S27 hZ hown wd28 R29
  have X30 : Ext h16 h23 := ext_trans (ext_refl h16) E26
  show Ends p e below _ T22 (mkF m 20 #[.val (.ref x), .val (.ref b), .val (.int (0 : Int32)), .val (.int (0 : Int32)), .val .null, .unset] [(.ref a24), (.ref x)])
  obtain ⟨A3, C3, -, -, -⟩ := S27
  refine gGet (host := "") N25 hx hZ hown (Or.inl (hw _ (List.mem_of_getElem? (i := 26) rfl))) Via.refl C3 (hb hby d3_20) ?_
  intro T31 N32
  show Ends p e below _ T31 (mkF m 23 #[.val (.ref x), .val (.ref b), .val (.int (0 : Int32)), .val (.int (0 : Int32)), .val .null, .unset] [(.int (0 : Int32)), (.ref x)])
  have sf3 : Safe Z consts_1 vm21 h23 x := R29.safe E20.lt sf2
  refine gPut (host := "") (C := "java/lang/String") N32 hx hZ hown (Or.inl (hw _ (List.mem_of_getElem? (i := 26) rfl))) Via.refl ((cx1.other W18 (Or.inr sne)).ext E26) (E20.ext E26) gz (Or.inr ⟨(hw _ (List.mem_of_getElem? (i := 22) rfl)), rfl, hnm⟩) (hw _ (List.mem_of_getElem? (i := 6) rfl)) (ty := .byte) (by decide) rfl rfl (hb hby d3_23) ?_
  intro T33 h34 N35 W36 F37 E38
  have wd4 : Wd Z s consts_1 vm21 h34 := wd28.keep (Keep.of_wr W36) (allS sf3 all0)
  show Ends p e below _ T33 (mkF m 26 #[.val (.ref x), .val (.ref b), .val (.int (0 : Int32)), .val (.int (0 : Int32)), .val .null, .unset] [])
  exact retVW N35 hZ (elw hw) wd4 hx hlk hret (hb hby d3_26) ⟨rfl, (((((Keep.refl h0 [x]).ext E8).wr W18 (Or.inl (List.mem_singleton.mpr rfl))).ext E26).wr W36 (Or.inl (List.mem_singleton.mpr rfl))), E38, F37, ⟨t1, kb1, (F19.ext E26).other W36 (Or.inr sne.symm), (((K1.other W18 ne1).ext E26).other W36 ne1)⟩, hp_nil, by decide⟩ (nle rfl) (nle rfl)
theorem d2_0 : decode jdk_42_method_3_code 0 = .ok (.aload_n 0, 1) := by decide +kernel
theorem d2_1 : decode jdk_42_method_3_code 1 = .ok (.aload_n 1, 1) := by decide +kernel
theorem d2_2 : decode jdk_42_method_3_code 2 = .ok (.iconst 0, 1) := by decide +kernel
theorem d2_3 : decode jdk_42_method_3_code 3 = .ok (.aload_n 1, 1) := by decide +kernel
theorem d2_4 : decode jdk_42_method_3_code 4 = .ok (.arraylength, 1) := by decide +kernel
theorem d2_5 : decode jdk_42_method_3_code 5 = .ok (.aconst_null, 1) := by decide +kernel
theorem d2_6 : decode jdk_42_method_3_code 6 = .ok (.invokespecial 27, 3) := by decide +kernel
theorem d2_9 : decode jdk_42_method_3_code 9 = .ok (.return_, 1) := by decide +kernel
set_option maxRecDepth 65536 in
set_option maxHeartbeats 40000000 in
theorem rmE1 (l : Launch) (Z : State) (a0 : Array Value) (hw : ∀ d ∈ tables_1, d.before a0 Z = true) (x b : Addr) (kC : ClassId) (vs : List Value) (d : Value) (h0 : Heap) (Z0 : Ext Z.heap h0) (E : Exa Z h0 x "java/lang/String") (V : Fld Z h0 x "java/lang/String" "value" "[B" .null) (Cd : Fld Z h0 x "java/lang/String" "coder" "B" (.int 0)) (gz : Z.heap.size ≤ x) (Kb : Arv Z h0 b kC .char (0 : Int32) vs d) :
    MetW l Z consts_1 (⟨"java/lang/String", "<init>", "([C)V"⟩ : MethodName) jdk_42_method_3_code 2 none [] ({ frames := 2, cells := 4, slots := 8, locals := 29 } : Room) #[(.ref x), (.ref b)] h0 (fun v h => v = none ∧ Keep h0 h [x] ∧ Str Z h x []) := by
  refine metW (by first | exact plainFor_of_name (by first | (simp [plainName, overriddenIn]; done) | decide +kernel) | decide +kernel) Z0 (Ls := #[.val (.ref x), .val (.ref b)]) (fun m => by first | (simp [entryFrame, mkF, argsToLocals, Value.category]; done) | rfl) ?_
  intro p e s m below meth c T0 vm0 hx hby hml hret hlk hown hnm hZ N0 wd0
  refine Ends.go (f' := (mkF m 1 #[.val (.ref x), .val (.ref b)] [(.ref x)])) (fun t k => XS.aloadN N0.here hx rfl (hb hby d2_0) rfl rfl k) ?_
  refine Ends.go (f' := (mkF m 2 #[.val (.ref x), .val (.ref b)] [(.ref b), (.ref x)])) (fun t k => XS.aloadN N0.here hx rfl (hb hby d2_1) rfl rfl k) ?_
  refine Ends.go (f' := (mkF m 3 #[.val (.ref x), .val (.ref b)] [(.int (0 : Int32)), (.ref b), (.ref x)])) (fun t k => XS.iconst N0.here hx rfl (hb hby d2_2) k) ?_
  refine Ends.go (f' := (mkF m 4 #[.val (.ref x), .val (.ref b)] [(.ref b), (.int (0 : Int32)), (.ref b), (.ref x)])) (fun t k => XS.aloadN N0.here hx rfl (hb hby d2_3) rfl rfl k) ?_
  refine gLen N0 hx hZ Kb (hb hby d2_4) ?_
  show Ends p e below _ T0 (mkF m 5 #[.val (.ref x), .val (.ref b)] [(.int (0 : Int32)), (.int (0 : Int32)), (.ref b), (.ref x)])
  refine Ends.go (f' := (mkF m 6 #[.val (.ref x), .val (.ref b)] [.null, (.int (0 : Int32)), (.int (0 : Int32)), (.ref b), (.ref x)])) (fun t k => XS.aconstNull N0.here hx rfl (hb hby d2_5) k) ?_
  refine gSpecialW (W := 0) (y := (⟨"java/lang/String", "<init>", "([CIILjava/lang/Void;)V"⟩ : MethodName)) (a := x) (argsL := [(.ref b), (.int (0 : Int32)), (.int (0 : Int32)), .null]) (rest := []) rfl N0 hx hZ hown wd0 (hw _ (List.mem_of_getElem? (i := 12) rfl)) (hw _ (List.mem_of_getElem? (i := 13) rfl)) (hw _ (List.mem_of_getElem? (i := 15) rfl)) (by decide) ((rmE4 l Z a0 hw x b h0 N0.ext E V Cd gz).back (W := 0) hZ (hw _ (List.mem_of_getElem? (i := 15) rfl)) (hw _ (List.mem_of_getElem? (i := 7) rfl)) (nle rfl) (nle rfl) (elw hw) wd0) (hb hby d2_6) rfl (by rw [hml]; rfl) (lenOf (by decide +kernel : parseMethodDescriptor "([CIILjava/lang/Void;)V" = some ⟨[(.array .char), .int, .int, (.object "java/lang/Void")], none⟩) rfl) (nle rfl) (nle rfl) (nle rfl) (fun _ _ _ q => q.2) ?_
  rintro _ vm1 T2 h3 L6 N4 ⟨⟨rfl, q1, q2⟩, -⟩ hZ hown wd5
  show Ends p e below _ T2 (mkF m 9 #[.val (.ref x), .val (.ref b)] [])
  exact retVW N4 hZ (elw hw) wd5 hx hlk hret (hb hby d2_9) ⟨rfl, q1, q2⟩ (nle rfl) (nle rfl)
theorem fr_nil {Z : State} {L : List Loc} (q : L = []) : Fr Z.heap.size L := q ▸ Fr.nil _
/-- a reference to a String of known chars, or null -/
def SV (Z : State) (h : Heap) (v : Value) (o : Option (List Int32)) : Prop := (v = .null ∧ o = none) ∨ ∃ a cs, v = .ref a ∧ o = some cs ∧ Str Z h a cs
theorem SV.isRef {Z : State} {h : Heap} {v : Value} {o : Option (List Int32)} (S : SV Z h v o) : v.isRef = true := by
  rcases S with ⟨rfl, -⟩ | ⟨a, cs, rfl, -⟩ <;> rfl
theorem SV.ext {Z : State} {h h' : Heap} {v : Value} {o : Option (List Int32)} (S : SV Z h v o) (E : Ext h h') : SV Z h' v o := by
  rcases S with q | ⟨a, cs, h1, h2, h3⟩
  · exact Or.inl q
  · exact Or.inr ⟨a, cs, h1, h2, h3.ext E⟩
theorem d6_0 : decode jdk_42_method_66_code 0 = .ok (.aload_n 0, 1) := by decide +kernel
theorem d6_1 : decode jdk_42_method_66_code 1 = .ok (.aload_n 1, 1) := by decide +kernel
theorem d6_2 : decode jdk_42_method_66_code 2 = .ok (.if_acmp .ne 5, 3) := by decide +kernel
theorem d6_7 : decode jdk_42_method_66_code 7 = .ok (.aload_n 1, 1) := by decide +kernel
theorem d6_8 : decode jdk_42_method_66_code 8 = .ok (.instanceof 10, 3) := by decide +kernel
theorem d6_11 : decode jdk_42_method_66_code 11 = .ok (.ifCond .eq 43, 3) := by decide +kernel
theorem d6_54 : decode jdk_42_method_66_code 54 = .ok (.iconst 0, 1) := by decide +kernel
theorem d6_55 : decode jdk_42_method_66_code 55 = .ok (.ireturn, 1) := by decide +kernel
set_option maxRecDepth 65536 in
set_option maxHeartbeats 40000000 in
theorem rmEqN (l : Launch) (Z : State) (a0 : Array Value) (hw : ∀ d ∈ tables_1, d.before a0 Z = true) (a : Addr) (h0 : Heap) (Z0 : Ext Z.heap h0) :
    MetN l Z (⟨"java/lang/String", "equals", "(Ljava/lang/Object;)Z"⟩ : MethodName) jdk_42_method_66_code 3 (some .boolean) [] ({ frames := 0, cells := 0, slots := 0, locals := 0 } : Room) #[(.ref a), .null] h0 (fun v h => v = some (.int 0) ∧ h = h0) := by
  refine metN (by first | exact plainFor_of_name (by first | (simp [plainName, overriddenIn]; done) | decide +kernel) | decide +kernel) Z0 (Ls := #[.val (.ref a), .val .null, .unset]) (fun m => by first | (simp [entryFrame, mkF, argsToLocals, Value.category]; done) | rfl) ?_
  intro p e s m below meth c T0 hx hby hml hret hlk hown hnm hZ N0
  refine Ends.go (f' := (mkF m 1 #[.val (.ref a), .val .null, .unset] [(.ref a)])) (fun t k => XS.aloadN N0.here hx rfl (hb hby d6_0) rfl rfl k) ?_
  refine Ends.go (f' := (mkF m 2 #[.val (.ref a), .val .null, .unset] [.null, (.ref a)])) (fun t k => XS.aloadN N0.here hx rfl (hb hby d6_1) rfl rfl k) ?_
  refine Ends.go (f' := (mkF m 7 #[.val (.ref a), .val .null, .unset] [])) (fun t k => XT.acmpYes N0.here hx rfl (pc0 := 2) (pc' := 7) rfl (hb hby d6_2) rfl rfl rfl (XT.aa_ne_t (by intro q; cases q)) (by decide) (by decide) k) ?_
  refine Ends.go (f' := (mkF m 8 #[.val (.ref a), .val .null, .unset] [.null])) (fun t k => XS.aloadN N0.here hx rfl (hb hby d6_7) rfl rfl k) ?_
  refine gInstN N0 hx (hb hby d6_8) ?_
  show Ends p e below _ T0 (mkF m 11 #[.val (.ref a), .val .null, .unset] [(.int (0 : Int32))])
  refine Ends.go (f' := (mkF m 54 #[.val (.ref a), .val .null, .unset] [])) (fun t k => XS.ifYes N0.here hx rfl (pc0 := 11) (pc' := 54) rfl (hb hby d6_11) rfl (XT.i0_eq_t (by decide)) (by decide) (by decide) k) ?_
  refine Ends.go (f' := (mkF m 55 #[.val (.ref a), .val .null, .unset] [(.int (0 : Int32))])) (fun t k => XS.iconst N0.here hx rfl (hb hby d6_54) k) ?_
  exact retZ N0 hx hlk hret (by simp) (hb hby d6_55) ⟨rfl, rfl⟩ (nle rfl) (nle rfl)
theorem nar_nar (x : Int32) : nar .char (nar .char x) = nar .char x := by simp only [nar, UInt32.toUInt32_toInt32, UInt16.toUInt16_toUInt32]
def tab8 : List Int32 := [116, 114, 117, 101, 84, 82, 85, 69]
def f_pick (x : Int32) : Int32 := if (x &&& (256 : Int32)) = 0 then nar .char (nar .char (x &&& (255 : Int32))) else tab8.getD ((XT.ushr x (9 : Int32)) &&& (7 : Int32)).toNatClampNeg 0
theorem and7 (y : Int32) : ¬ (y &&& (7 : Int32)) < 0 ∧ (y &&& (7 : Int32)) < (8 : Int32) := by
  have q := c_and y (7 : Int32) (by decide)
  have e7 : (7 : Int32).toInt = 7 := rfl
  have e8 : (8 : Int32).toInt = 8 := rfl
  have e0 : (0 : Int32).toInt = 0 := rfl
  rw [Int32.lt_iff_toInt_lt, Int32.lt_iff_toInt_lt]; omega
theorem nar255 (x : Int32) : (nar .char (x &&& (255 : Int32))).toInt = (x &&& (255 : Int32)).toInt := by
  have q := c_and x (255 : Int32) (by decide)
  have r := c_i2c (x &&& (255 : Int32))
  have e7 : (255 : Int32).toInt = 255 := rfl
  have e2 : (nar .char (x &&& (255 : Int32))).toInt = (x &&& (255 : Int32)).toUInt32.toUInt16.toUInt32.toInt32.toInt := rfl
  omega
theorem ok255 (x : Int32) : ¬ nar .char (x &&& (255 : Int32)) < 0 ∧ ¬ (255 : Int32) < nar .char (x &&& (255 : Int32)) := by
  have q := c_and x (255 : Int32) (by decide)
  have r := nar255 x
  have e7 : (255 : Int32).toInt = 255 := rfl
  have e0 : (0 : Int32).toInt = 0 := rfl
  rw [Int32.lt_iff_toInt_lt, Int32.lt_iff_toInt_lt]; omega
theorem tab8_cases (j : Nat) (P : Int32 → Prop) (h0 : P 0) (h : ∀ c ∈ tab8, P c) : P (tab8.getD j 0) := by
  rw [List.getD_eq_getElem?_getD]
  cases q : tab8[j]? with
  | none => exact h0
  | some c => exact h c (List.mem_of_getElem? q)
theorem pick_ok (x : Int32) : ¬ f_pick x < 0 ∧ ¬ (255 : Int32) < f_pick x := by
  unfold f_pick
  split
  · rw [nar_nar]; exact ok255 x
  · exact tab8_cases _ (fun c => ¬ c < 0 ∧ ¬ (255 : Int32) < c) (by decide) (by decide)
theorem nar_pick (x : Int32) : nar .char (f_pick x) = f_pick x := by
  unfold f_pick
  split
  · simp only [nar_nar]
  · exact tab8_cases _ (fun c => nar .char c = c) (by decide) (by decide)
theorem getD_int (l : List Int32) (j : Nat) : (l.map Value.int).getD j (.int 0) = .int (l.getD j 0) := by
  simp only [List.getD_eq_getElem?_getD, List.getElem?_map]
  cases l[j]? <;> rfl
theorem d1_0 : decode method_2_code 0 = .ok (.iload_n 0, 1) := by decide +kernel
theorem d1_1 : decode method_2_code 1 = .ok (.sipush 256, 3) := by decide +kernel
theorem d1_4 : decode method_2_code 4 = .ok (.iand, 1) := by decide +kernel
theorem d1_5 : decode method_2_code 5 = .ok (.ifCond .ne 10, 3) := by decide +kernel
theorem d1_8 : decode method_2_code 8 = .ok (.iload_n 0, 1) := by decide +kernel
theorem d1_9 : decode method_2_code 9 = .ok (.sipush 255, 3) := by decide +kernel
theorem d1_12 : decode method_2_code 12 = .ok (.iand, 1) := by decide +kernel
theorem d1_13 : decode method_2_code 13 = .ok (.i2c, 1) := by decide +kernel
theorem d1_14 : decode method_2_code 14 = .ok (.ireturn, 1) := by decide +kernel
theorem d1_15 : decode method_2_code 15 = .ok (.bipush 8, 2) := by decide +kernel
theorem d1_17 : decode method_2_code 17 = .ok (.newarray .char, 2) := by decide +kernel
theorem d1_19 : decode method_2_code 19 = .ok (.dup, 1) := by decide +kernel
theorem d1_20 : decode method_2_code 20 = .ok (.iconst 0, 1) := by decide +kernel
theorem d1_21 : decode method_2_code 21 = .ok (.bipush 116, 2) := by decide +kernel
theorem d1_23 : decode method_2_code 23 = .ok (.castore, 1) := by decide +kernel
theorem d1_24 : decode method_2_code 24 = .ok (.dup, 1) := by decide +kernel
theorem d1_25 : decode method_2_code 25 = .ok (.iconst 1, 1) := by decide +kernel
theorem d1_26 : decode method_2_code 26 = .ok (.bipush 114, 2) := by decide +kernel
theorem d1_28 : decode method_2_code 28 = .ok (.castore, 1) := by decide +kernel
theorem d1_29 : decode method_2_code 29 = .ok (.dup, 1) := by decide +kernel
theorem d1_30 : decode method_2_code 30 = .ok (.iconst 2, 1) := by decide +kernel
theorem d1_31 : decode method_2_code 31 = .ok (.bipush 117, 2) := by decide +kernel
theorem d1_33 : decode method_2_code 33 = .ok (.castore, 1) := by decide +kernel
theorem d1_34 : decode method_2_code 34 = .ok (.dup, 1) := by decide +kernel
theorem d1_35 : decode method_2_code 35 = .ok (.iconst 3, 1) := by decide +kernel
theorem d1_36 : decode method_2_code 36 = .ok (.bipush 101, 2) := by decide +kernel
theorem d1_38 : decode method_2_code 38 = .ok (.castore, 1) := by decide +kernel
theorem d1_39 : decode method_2_code 39 = .ok (.dup, 1) := by decide +kernel
theorem d1_40 : decode method_2_code 40 = .ok (.iconst 4, 1) := by decide +kernel
theorem d1_41 : decode method_2_code 41 = .ok (.bipush 84, 2) := by decide +kernel
theorem d1_43 : decode method_2_code 43 = .ok (.castore, 1) := by decide +kernel
theorem d1_44 : decode method_2_code 44 = .ok (.dup, 1) := by decide +kernel
theorem d1_45 : decode method_2_code 45 = .ok (.iconst 5, 1) := by decide +kernel
theorem d1_46 : decode method_2_code 46 = .ok (.bipush 82, 2) := by decide +kernel
theorem d1_48 : decode method_2_code 48 = .ok (.castore, 1) := by decide +kernel
theorem d1_49 : decode method_2_code 49 = .ok (.dup, 1) := by decide +kernel
theorem d1_50 : decode method_2_code 50 = .ok (.bipush 6, 2) := by decide +kernel
theorem d1_52 : decode method_2_code 52 = .ok (.bipush 85, 2) := by decide +kernel
theorem d1_54 : decode method_2_code 54 = .ok (.castore, 1) := by decide +kernel
theorem d1_55 : decode method_2_code 55 = .ok (.dup, 1) := by decide +kernel
theorem d1_56 : decode method_2_code 56 = .ok (.bipush 7, 2) := by decide +kernel
theorem d1_58 : decode method_2_code 58 = .ok (.bipush 69, 2) := by decide +kernel
theorem d1_60 : decode method_2_code 60 = .ok (.castore, 1) := by decide +kernel
theorem d1_61 : decode method_2_code 61 = .ok (.astore_n 1, 1) := by decide +kernel
theorem d1_62 : decode method_2_code 62 = .ok (.aload_n 1, 1) := by decide +kernel
theorem d1_63 : decode method_2_code 63 = .ok (.iload_n 0, 1) := by decide +kernel
theorem d1_64 : decode method_2_code 64 = .ok (.bipush 9, 2) := by decide +kernel
theorem d1_66 : decode method_2_code 66 = .ok (.iushr, 1) := by decide +kernel
theorem d1_67 : decode method_2_code 67 = .ok (.bipush 7, 2) := by decide +kernel
theorem d1_69 : decode method_2_code 69 = .ok (.iand, 1) := by decide +kernel
theorem d1_70 : decode method_2_code 70 = .ok (.caload, 1) := by decide +kernel
theorem d1_71 : decode method_2_code 71 = .ok (.ireturn, 1) := by decide +kernel
set_option maxRecDepth 65536 in
set_option maxHeartbeats 40000000 in
theorem rmPick (l : Launch) (Z : State) (a0 : Array Value) (hw : ∀ d ∈ tables_1, d.before a0 Z = true) (p0 : Int32) (h0 : Heap) (Z0 : Ext Z.heap h0) :
    MetN l Z (⟨"com/example/waypost/waypost/model/BuiltValueIsTruePinLaw", "pick", "(I)C"⟩ : MethodName) method_2_code 2 (some .char) [] ({ frames := 0, cells := 1, slots := 8, locals := 0 } : Room) #[(.int p0)] h0 (fun v h => v = some (.int (f_pick p0)) ∧ Ext h0 h) := by
  refine metN (by first | exact plainFor_of_name (by first | (simp [plainName, overriddenIn]; done) | decide +kernel) | decide +kernel) Z0 (Ls := #[.val (.int p0), .unset]) (fun m => by first | (simp [entryFrame, mkF, argsToLocals, Value.category]; done) | rfl) ?_
  intro p e s m below meth c T0 hx hby hml hret hlk hown hnm hZ N0
  refine Ends.go (f' := (mkF m 1 #[.val (.int p0), .unset] [(.int p0)])) (fun t k => XS.iloadN N0.here hx rfl (hb hby d1_0) rfl k) ?_
  refine Ends.go (f' := (mkF m 4 #[.val (.int p0), .unset] [(.int (256 : Int32)), (.int p0)])) (fun t k => XS.sipush N0.here hx rfl (hb hby d1_1) k) ?_
  refine Ends.go (f' := (mkF m 5 #[.val (.int p0), .unset] [(.int (p0 &&& (256 : Int32)))])) (fun t k => XS.iand N0.here hx rfl (hb hby d1_4) rfl k) ?_
  by_cases c1 : (p0 &&& (256 : Int32)) = 0
  · refine Ends.go (f' := (mkF m 8 #[.val (.int p0), .unset] [])) (fun t k => XS.ifNo N0.here hx rfl (hb hby d1_5) rfl (XT.i0_ne_f c1) k) ?_
    refine Ends.go (f' := (mkF m 9 #[.val (.int p0), .unset] [(.int p0)])) (fun t k => XS.iloadN N0.here hx rfl (hb hby d1_8) rfl k) ?_
    refine Ends.go (f' := (mkF m 12 #[.val (.int p0), .unset] [(.int (255 : Int32)), (.int p0)])) (fun t k => XS.sipush N0.here hx rfl (hb hby d1_9) k) ?_
    refine Ends.go (f' := (mkF m 13 #[.val (.int p0), .unset] [(.int (p0 &&& (255 : Int32)))])) (fun t k => XS.iand N0.here hx rfl (hb hby d1_12) rfl k) ?_
    refine Ends.go (f' := (mkF m 14 #[.val (.int p0), .unset] [(.int (nar .char (p0 &&& (255 : Int32))))])) (fun t k => XT.i2c N0.here hx rfl (hb hby d1_13) rfl k) ?_
    exact retZ N0 hx hlk hret (by simp) (hb hby d1_14) ⟨by simp only [f_pick, if_pos c1], ext_refl _⟩ (nle rfl) (nle rfl)
  · refine Ends.go (f' := (mkF m 15 #[.val (.int p0), .unset] [])) (fun t k => XS.ifYes N0.here hx rfl (pc0 := 5) (pc' := 15) rfl (hb hby d1_5) rfl (XT.i0_ne_t c1) (by decide) (by decide) k) ?_
    refine Ends.go (f' := (mkF m 17 #[.val (.int p0), .unset] [(.int (8 : Int32))])) (fun t k => XS.bipush N0.here hx rfl (hb hby d1_15) k) ?_
    refine gArr 8 N0 hx hZ (hw _ (List.mem_of_getElem? (i := 8) rfl)) (hb hby d1_17) (by decide) (nle rfl) (nle rfl) (nle rfl) (nle rfl) ?_
    intro T1 h2 b3 kA4 eb5 N6 E7 V8
    have g9 : h0.size ≤ b3 := by rw [eb5]; exact (ext_refl h0).1
    have g10 : Z.heap.size ≤ b3 := by rw [eb5]; exact N0.le
    have X11 : Ext h0 h2 := ext_trans (ext_refl h0) E7
    have V12 : Arv Z h2 b3 kA4 .char (8 : Int32) [(.int (0 : Int32)), (.int (0 : Int32)), (.int (0 : Int32)), (.int (0 : Int32)), (.int (0 : Int32)), (.int (0 : Int32)), (.int (0 : Int32)), (.int (0 : Int32))] (.int (0 : Int32)) := V8.pad (pad_rep [] (.int (0 : Int32)) 8)
    show Ends p e below _ T1 (mkF m 19 #[.val (.int p0), .unset] [(.ref b3)])
    refine Ends.go (f' := (mkF m 20 #[.val (.int p0), .unset] [(.ref b3), (.ref b3)])) (fun t k => XS.dup N6.here hx rfl (hb hby d1_19) rfl rfl k) ?_
    refine Ends.go (f' := (mkF m 21 #[.val (.int p0), .unset] [(.int (0 : Int32)), (.ref b3), (.ref b3)])) (fun t k => XS.iconst N6.here hx rfl (hb hby d1_20) k) ?_
    refine Ends.go (f' := (mkF m 23 #[.val (.int p0), .unset] [(.int (116 : Int32)), (.int (0 : Int32)), (.ref b3), (.ref b3)])) (fun t k => XS.bipush N6.here hx rfl (hb hby d1_21) k) ?_
    refine gStC 0 N6 hx hZ V12 g10 (by decide) rfl (nle rfl) (hb hby d1_23) ?_
    intro T13 h14 N15 W16 V17
    have V18 : Arv Z h14 b3 kA4 .char (8 : Int32) [(.int (nar .char (116 : Int32))), (.int (0 : Int32)), (.int (0 : Int32)), (.int (0 : Int32)), (.int (0 : Int32)), (.int (0 : Int32)), (.int (0 : Int32)), (.int (0 : Int32))] (.int (0 : Int32)) := V17
    have X19 : Ext h0 h14 := ext_wr X11 W16 g9
    show Ends p e below _ T13 (mkF m 24 #[.val (.int p0), .unset] [(.ref b3)])
    refine Ends.go (f' := (mkF m 25 #[.val (.int p0), .unset] [(.ref b3), (.ref b3)])) (fun t k => XS.dup N15.here hx rfl (hb hby d1_24) rfl rfl k) ?_
    refine Ends.go (f' := (mkF m 26 #[.val (.int p0), .unset] [(.int (1 : Int32)), (.ref b3), (.ref b3)])) (fun t k => XS.iconst N15.here hx rfl (hb hby d1_25) k) ?_
    refine Ends.go (f' := (mkF m 28 #[.val (.int p0), .unset] [(.int (114 : Int32)), (.int (1 : Int32)), (.ref b3), (.ref b3)])) (fun t k => XS.bipush N15.here hx rfl (hb hby d1_26) k) ?_
    refine gStC 1 N15 hx hZ V18 g10 (by decide) rfl (nle rfl) (hb hby d1_28) ?_
    intro T20 h21 N22 W23 V24
    have V25 : Arv Z h21 b3 kA4 .char (8 : Int32) [(.int (nar .char (116 : Int32))), (.int (nar .char (114 : Int32))), (.int (0 : Int32)), (.int (0 : Int32)), (.int (0 : Int32)), (.int (0 : Int32)), (.int (0 : Int32)), (.int (0 : Int32))] (.int (0 : Int32)) := V24
    have X26 : Ext h0 h21 := ext_wr X19 W23 g9
    show Ends p e below _ T20 (mkF m 29 #[.val (.int p0), .unset] [(.ref b3)])
    refine Ends.go (f' := (mkF m 30 #[.val (.int p0), .unset] [(.ref b3), (.ref b3)])) (fun t k => XS.dup N22.here hx rfl (hb hby d1_29) rfl rfl k) ?_
    refine Ends.go (f' := (mkF m 31 #[.val (.int p0), .unset] [(.int (2 : Int32)), (.ref b3), (.ref b3)])) (fun t k => XS.iconst N22.here hx rfl (hb hby d1_30) k) ?_
    refine Ends.go (f' := (mkF m 33 #[.val (.int p0), .unset] [(.int (117 : Int32)), (.int (2 : Int32)), (.ref b3), (.ref b3)])) (fun t k => XS.bipush N22.here hx rfl (hb hby d1_31) k) ?_
    refine gStC 2 N22 hx hZ V25 g10 (by decide) rfl (nle rfl) (hb hby d1_33) ?_
    intro T27 h28 N29 W30 V31
    have V32 : Arv Z h28 b3 kA4 .char (8 : Int32) [(.int (nar .char (116 : Int32))), (.int (nar .char (114 : Int32))), (.int (nar .char (117 : Int32))), (.int (0 : Int32)), (.int (0 : Int32)), (.int (0 : Int32)), (.int (0 : Int32)), (.int (0 : Int32))] (.int (0 : Int32)) := V31
    have X33 : Ext h0 h28 := ext_wr X26 W30 g9
    show Ends p e below _ T27 (mkF m 34 #[.val (.int p0), .unset] [(.ref b3)])
    refine Ends.go (f' := (mkF m 35 #[.val (.int p0), .unset] [(.ref b3), (.ref b3)])) (fun t k => XS.dup N29.here hx rfl (hb hby d1_34) rfl rfl k) ?_
    refine Ends.go (f' := (mkF m 36 #[.val (.int p0), .unset] [(.int (3 : Int32)), (.ref b3), (.ref b3)])) (fun t k => XS.iconst N29.here hx rfl (hb hby d1_35) k) ?_
    refine Ends.go (f' := (mkF m 38 #[.val (.int p0), .unset] [(.int (101 : Int32)), (.int (3 : Int32)), (.ref b3), (.ref b3)])) (fun t k => XS.bipush N29.here hx rfl (hb hby d1_36) k) ?_
    refine gStC 3 N29 hx hZ V32 g10 (by decide) rfl (nle rfl) (hb hby d1_38) ?_
    intro T34 h35 N36 W37 V38
    have V39 : Arv Z h35 b3 kA4 .char (8 : Int32) [(.int (nar .char (116 : Int32))), (.int (nar .char (114 : Int32))), (.int (nar .char (117 : Int32))), (.int (nar .char (101 : Int32))), (.int (0 : Int32)), (.int (0 : Int32)), (.int (0 : Int32)), (.int (0 : Int32))] (.int (0 : Int32)) := V38
    have X40 : Ext h0 h35 := ext_wr X33 W37 g9
    show Ends p e below _ T34 (mkF m 39 #[.val (.int p0), .unset] [(.ref b3)])
    refine Ends.go (f' := (mkF m 40 #[.val (.int p0), .unset] [(.ref b3), (.ref b3)])) (fun t k => XS.dup N36.here hx rfl (hb hby d1_39) rfl rfl k) ?_
    refine Ends.go (f' := (mkF m 41 #[.val (.int p0), .unset] [(.int (4 : Int32)), (.ref b3), (.ref b3)])) (fun t k => XS.iconst N36.here hx rfl (hb hby d1_40) k) ?_
    refine Ends.go (f' := (mkF m 43 #[.val (.int p0), .unset] [(.int (84 : Int32)), (.int (4 : Int32)), (.ref b3), (.ref b3)])) (fun t k => XS.bipush N36.here hx rfl (hb hby d1_41) k) ?_
    refine gStC 4 N36 hx hZ V39 g10 (by decide) rfl (nle rfl) (hb hby d1_43) ?_
    intro T41 h42 N43 W44 V45
    have V46 : Arv Z h42 b3 kA4 .char (8 : Int32) [(.int (nar .char (116 : Int32))), (.int (nar .char (114 : Int32))), (.int (nar .char (117 : Int32))), (.int (nar .char (101 : Int32))), (.int (nar .char (84 : Int32))), (.int (0 : Int32)), (.int (0 : Int32)), (.int (0 : Int32))] (.int (0 : Int32)) := V45
    have X47 : Ext h0 h42 := ext_wr X40 W44 g9
    show Ends p e below _ T41 (mkF m 44 #[.val (.int p0), .unset] [(.ref b3)])
    refine Ends.go (f' := (mkF m 45 #[.val (.int p0), .unset] [(.ref b3), (.ref b3)])) (fun t k => XS.dup N43.here hx rfl (hb hby d1_44) rfl rfl k) ?_
    refine Ends.go (f' := (mkF m 46 #[.val (.int p0), .unset] [(.int (5 : Int32)), (.ref b3), (.ref b3)])) (fun t k => XS.iconst N43.here hx rfl (hb hby d1_45) k) ?_
    refine Ends.go (f' := (mkF m 48 #[.val (.int p0), .unset] [(.int (82 : Int32)), (.int (5 : Int32)), (.ref b3), (.ref b3)])) (fun t k => XS.bipush N43.here hx rfl (hb hby d1_46) k) ?_
    refine gStC 5 N43 hx hZ V46 g10 (by decide) rfl (nle rfl) (hb hby d1_48) ?_
    intro T48 h49 N50 W51 V52
    have V53 : Arv Z h49 b3 kA4 .char (8 : Int32) [(.int (nar .char (116 : Int32))), (.int (nar .char (114 : Int32))), (.int (nar .char (117 : Int32))), (.int (nar .char (101 : Int32))), (.int (nar .char (84 : Int32))), (.int (nar .char (82 : Int32))), (.int (0 : Int32)), (.int (0 : Int32))] (.int (0 : Int32)) := V52
    have X54 : Ext h0 h49 := ext_wr X47 W51 g9
    show Ends p e below _ T48 (mkF m 49 #[.val (.int p0), .unset] [(.ref b3)])
    refine Ends.go (f' := (mkF m 50 #[.val (.int p0), .unset] [(.ref b3), (.ref b3)])) (fun t k => XS.dup N50.here hx rfl (hb hby d1_49) rfl rfl k) ?_
    refine Ends.go (f' := (mkF m 52 #[.val (.int p0), .unset] [(.int (6 : Int32)), (.ref b3), (.ref b3)])) (fun t k => XS.bipush N50.here hx rfl (hb hby d1_50) k) ?_
    refine Ends.go (f' := (mkF m 54 #[.val (.int p0), .unset] [(.int (85 : Int32)), (.int (6 : Int32)), (.ref b3), (.ref b3)])) (fun t k => XS.bipush N50.here hx rfl (hb hby d1_52) k) ?_
    refine gStC 6 N50 hx hZ V53 g10 (by decide) rfl (nle rfl) (hb hby d1_54) ?_
    intro T55 h56 N57 W58 V59
    have V60 : Arv Z h56 b3 kA4 .char (8 : Int32) [(.int (nar .char (116 : Int32))), (.int (nar .char (114 : Int32))), (.int (nar .char (117 : Int32))), (.int (nar .char (101 : Int32))), (.int (nar .char (84 : Int32))), (.int (nar .char (82 : Int32))), (.int (nar .char (85 : Int32))), (.int (0 : Int32))] (.int (0 : Int32)) := V59
    have X61 : Ext h0 h56 := ext_wr X54 W58 g9
    show Ends p e below _ T55 (mkF m 55 #[.val (.int p0), .unset] [(.ref b3)])
    refine Ends.go (f' := (mkF m 56 #[.val (.int p0), .unset] [(.ref b3), (.ref b3)])) (fun t k => XS.dup N57.here hx rfl (hb hby d1_55) rfl rfl k) ?_
    refine Ends.go (f' := (mkF m 58 #[.val (.int p0), .unset] [(.int (7 : Int32)), (.ref b3), (.ref b3)])) (fun t k => XS.bipush N57.here hx rfl (hb hby d1_56) k) ?_
    refine Ends.go (f' := (mkF m 60 #[.val (.int p0), .unset] [(.int (69 : Int32)), (.int (7 : Int32)), (.ref b3), (.ref b3)])) (fun t k => XS.bipush N57.here hx rfl (hb hby d1_58) k) ?_
    refine gStC 7 N57 hx hZ V60 g10 (by decide) rfl (nle rfl) (hb hby d1_60) ?_
    intro T62 h63 N64 W65 V66
    have V67 : Arv Z h63 b3 kA4 .char (8 : Int32) [(.int (nar .char (116 : Int32))), (.int (nar .char (114 : Int32))), (.int (nar .char (117 : Int32))), (.int (nar .char (101 : Int32))), (.int (nar .char (84 : Int32))), (.int (nar .char (82 : Int32))), (.int (nar .char (85 : Int32))), (.int (nar .char (69 : Int32)))] (.int (0 : Int32)) := V66
    have X68 : Ext h0 h63 := ext_wr X61 W65 g9
    show Ends p e below _ T62 (mkF m 61 #[.val (.int p0), .unset] [(.ref b3)])
    refine Ends.go (f' := (mkF m 62 #[.val (.int p0), .val (.ref b3)] [])) (fun t k => XS.astoreN N64.here hx rfl (hb hby d1_61) rfl rfl (l' := #[.val (.int p0), .val (.ref b3)]) rfl k) ?_
    refine Ends.go (f' := (mkF m 63 #[.val (.int p0), .val (.ref b3)] [(.ref b3)])) (fun t k => XS.aloadN N64.here hx rfl (hb hby d1_62) rfl rfl k) ?_
    refine Ends.go (f' := (mkF m 64 #[.val (.int p0), .val (.ref b3)] [(.int p0), (.ref b3)])) (fun t k => XS.iloadN N64.here hx rfl (hb hby d1_63) rfl k) ?_
    refine Ends.go (f' := (mkF m 66 #[.val (.int p0), .val (.ref b3)] [(.int (9 : Int32)), (.int p0), (.ref b3)])) (fun t k => XS.bipush N64.here hx rfl (hb hby d1_64) k) ?_
    refine Ends.go (f' := (mkF m 67 #[.val (.int p0), .val (.ref b3)] [(.int (XT.ushr p0 (9 : Int32))), (.ref b3)])) (fun t k => XT.iushr N64.here hx rfl (hb hby d1_66) rfl k) ?_
    refine Ends.go (f' := (mkF m 69 #[.val (.int p0), .val (.ref b3)] [(.int (7 : Int32)), (.int (XT.ushr p0 (9 : Int32))), (.ref b3)])) (fun t k => XS.bipush N64.here hx rfl (hb hby d1_67) k) ?_
    refine Ends.go (f' := (mkF m 70 #[.val (.int p0), .val (.ref b3)] [(.int ((XT.ushr p0 (9 : Int32)) &&& (7 : Int32))), (.ref b3)])) (fun t k => XS.iand N64.here hx rfl (hb hby d1_69) rfl k) ?_
    have vt : Arv Z h63 b3 kA4 .char (8 : Int32) (tab8.map Value.int) (.int (0 : Int32)) := V67
    refine gLdC N64 hx hZ vt (and7 _) (getD_int tab8 _) (hb hby d1_70) ?_
    show Ends p e below _ T62 (mkF m 71 #[.val (.int p0), .val (.ref b3)] [(.int (tab8.getD ((XT.ushr p0 (9 : Int32)) &&& (7 : Int32)).toNatClampNeg 0))])
    have q9 : f_pick p0 = tab8.getD ((XT.ushr p0 (9 : Int32)) &&& (7 : Int32)).toNatClampNeg 0 := by simp only [f_pick, if_neg c1]
    exact retZ N64 hx hlk hret (by simp) (hb hby d1_71) ⟨by rw [← q9, nar_pick], X68⟩ (nle rfl) (nle rfl)
def tr1 : List Int32 := [(116 : Int32), (114 : Int32), (117 : Int32), (101 : Int32)]
def tr2 : List Int32 := [(84 : Int32), (82 : Int32), (85 : Int32), (69 : Int32)]
def tr3 : List Int32 := [(84 : Int32), (114 : Int32), (117 : Int32), (101 : Int32)]
def isT (o : Option (List Int32)) : Int32 := if o = some tr1 ∨ o = some tr2 ∨ o = some tr3 then 1 else 0
theorem d5_0 : decode prog_42_method_5_code 0 = .ok (.ldc 75, 2) := by decide +kernel
theorem d5_2 : decode prog_42_method_5_code 2 = .ok (.aload_n 0, 1) := by decide +kernel
theorem d5_3 : decode prog_42_method_5_code 3 = .ok (.invokevirtual 77, 3) := by decide +kernel
theorem d5_6 : decode prog_42_method_5_code 6 = .ok (.ifCond .ne 21, 3) := by decide +kernel
theorem d5_9 : decode prog_42_method_5_code 9 = .ok (.ldc 81, 2) := by decide +kernel
theorem d5_11 : decode prog_42_method_5_code 11 = .ok (.aload_n 0, 1) := by decide +kernel
theorem d5_12 : decode prog_42_method_5_code 12 = .ok (.invokevirtual 77, 3) := by decide +kernel
theorem d5_15 : decode prog_42_method_5_code 15 = .ok (.ifCond .ne 12, 3) := by decide +kernel
theorem d5_18 : decode prog_42_method_5_code 18 = .ok (.ldc 83, 2) := by decide +kernel
theorem d5_20 : decode prog_42_method_5_code 20 = .ok (.aload_n 0, 1) := by decide +kernel
theorem d5_21 : decode prog_42_method_5_code 21 = .ok (.invokevirtual 77, 3) := by decide +kernel
theorem d5_24 : decode prog_42_method_5_code 24 = .ok (.ifCond .eq 7, 3) := by decide +kernel
theorem d5_27 : decode prog_42_method_5_code 27 = .ok (.iconst 1, 1) := by decide +kernel
theorem d5_28 : decode prog_42_method_5_code 28 = .ok (.goto 4, 3) := by decide +kernel
theorem d5_31 : decode prog_42_method_5_code 31 = .ok (.iconst 0, 1) := by decide +kernel
theorem d5_32 : decode prog_42_method_5_code 32 = .ok (.ireturn, 1) := by decide +kernel
set_option maxRecDepth 65536 in
set_option maxHeartbeats 40000000 in
theorem rmIsTS (l : Launch) (Z : State) (a0 : Array Value) (hw : ∀ d ∈ tables_1, d.before a0 Z = true) (a : Addr) (cs : List Int32) (h0 : Heap) (Z0 : Ext Z.heap h0) (G : Jdk Z) (Sa : Str Z h0 a cs) :
    MetW l Z consts_1 (⟨"com/example/waypost/waypost/model/BuiltValue", "isTrue", "(Ljava/lang/String;)Z"⟩ : MethodName) prog_42_method_5_code 1 (some .boolean) [] ({ frames := 2, cells := 6, slots := 60, locals := 28 } : Room) #[(.ref a)] h0 (fun v h => v = some (.int (isT (some cs))) ∧ Ext h0 h) := by
  refine metW (by first | exact plainFor_of_name (by first | (simp [plainName, overriddenIn]; done) | decide +kernel) | decide +kernel) Z0 (Ls := #[.val (.ref a)]) (fun m => by first | (simp [entryFrame, mkF, argsToLocals, Value.category]; done) | rfl) ?_
  intro p e s m below meth c T0 vm0 hx hby hml hret hlk hown hnm hZ N0 wd0
  refine gLdcS (cs := [(116 : Int32), (114 : Int32), (117 : Int32), (101 : Int32)]) 16 N0 hx hZ hown (hw _ (List.mem_of_getElem? (i := 31) rfl)) (satoms hw) (elw hw) (by simp [consts_1]) wd0 ⟨by decide +kernel, by decide +kernel⟩ (by decide +kernel) (nle rfl) (hb hby d5_0) (nle rfl) (nle rfl) (nle rfl) (nle rfl) ?_
  intro vm1 T2 h3 a4 N5 E6 S7 hZ hown wd8 R9
  have X10 : Ext h0 h3 := ext_trans (ext_refl h0) E6
  show Ends p e below _ T2 (mkF m 2 #[.val (.ref a)] [(.ref a4)])
  refine Ends.go (f' := (mkF m 3 #[.val (.ref a)] [(.ref a), (.ref a4)])) (fun t k => XS.aloadN N5.here hx rfl (hb hby d5_2) rfl rfl k) ?_
  refine gVirtual (W := 0) (y := (⟨"java/lang/String", "equals", "(Ljava/lang/Object;)Z"⟩ : MethodName)) (z := (⟨"java/lang/String", "equals", "(Ljava/lang/Object;)Z"⟩ : MethodName)) (C := "java/lang/String") (b := a4) (argsL := [(.ref a)]) (rest := []) N5 hx hZ hown (hw _ (List.mem_of_getElem? (i := 32) rfl)) (hw _ (List.mem_of_getElem? (i := 33) rfl)) (hw _ (List.mem_of_getElem? (i := 35) rfl)) (hw _ (List.mem_of_getElem? (i := 34) rfl)) (by decide) (notFace_of_selects (args := #[]) (mvT hZ (hw _ (List.mem_of_getElem? (i := 35) rfl)))) S7.1 (strEq (W := 0) hZ hw G N5.ext S7 (Sa.ext X10) (nle rfl) (nle rfl)) (hb hby d5_3) rfl (by rw [hml]; rfl) (lenOf (by decide +kernel : parseMethodDescriptor "(Ljava/lang/Object;)Z" = some ⟨[(.object "java/lang/Object")], (some .boolean)⟩) rfl) (nle rfl) (nle rfl) (nle rfl) (fun _ _ _ q => fr_nil q.2.1) ?_
  rintro _ T11 _ _ N12 ⟨rfl, -, e_h⟩; rw [e_h] at N12; clear e_h
  show Ends p e below _ T11 (mkF m 6 #[.val (.ref a)] [(.int (if [(116 : Int32), (114 : Int32), (117 : Int32), (101 : Int32)] = cs then (1 : Int32) else (0 : Int32)))])
  by_cases c0 : tr1 = cs
  · rw [if_pos (show [(116 : Int32), (114 : Int32), (117 : Int32), (101 : Int32)] = cs from c0)]
    refine Ends.go (f' := (mkF m 27 #[.val (.ref a)] [])) (fun t k => XS.ifYes N12.here hx rfl (pc0 := 6) (pc' := 27) rfl (hb hby d5_6) rfl (XT.i0_ne_t (by decide)) (by decide) (by decide) k) ?_
    refine Ends.go (f' := (mkF m 28 #[.val (.ref a)] [(.int (1 : Int32))])) (fun t k => XS.iconst N12.here hx rfl (hb hby d5_27) k) ?_
    refine Ends.go (f' := (mkF m 32 #[.val (.ref a)] [(.int (1 : Int32))])) (fun t k => XS.goto N12.here hx rfl (pc0 := 28) (pc' := 32) rfl (hb hby d5_28) (by decide) (by decide) k) ?_
    exact retZW N12 hZ (elw hw) wd8 hx hlk hret (by simp) (hb hby d5_32) ⟨by rw [isT, if_pos (Or.inl (congrArg some c0.symm))]; rfl, X10⟩ (nle rfl) (nle rfl)
  · rw [if_neg (show ¬ [(116 : Int32), (114 : Int32), (117 : Int32), (101 : Int32)] = cs from c0)]
    refine Ends.go (f' := (mkF m 9 #[.val (.ref a)] [])) (fun t k => XS.ifNo N12.here hx rfl (hb hby d5_6) rfl (XT.i0_ne_f (by decide)) k) ?_
    refine gLdcS (cs := [(84 : Int32), (82 : Int32), (85 : Int32), (69 : Int32)]) 16 N12 hx hZ hown (hw _ (List.mem_of_getElem? (i := 43) rfl)) (satoms hw) (elw hw) (by simp [consts_1]) wd8 ⟨by decide +kernel, by decide +kernel⟩ (by decide +kernel) (nle rfl) (hb hby d5_9) (nle rfl) (nle rfl) (nle rfl) (nle rfl) ?_
    intro vm13 T14 h15 a16 N17 E18 S19 hZ hown wd20 R21
    have X22 : Ext h0 h15 := ext_trans X10 E18
    have X23 : Ext h3 h15 := ext_trans (ext_refl h3) E18
    show Ends p e below _ T14 (mkF m 11 #[.val (.ref a)] [(.ref a16)])
    refine Ends.go (f' := (mkF m 12 #[.val (.ref a)] [(.ref a), (.ref a16)])) (fun t k => XS.aloadN N17.here hx rfl (hb hby d5_11) rfl rfl k) ?_
    refine gVirtual (W := 0) (y := (⟨"java/lang/String", "equals", "(Ljava/lang/Object;)Z"⟩ : MethodName)) (z := (⟨"java/lang/String", "equals", "(Ljava/lang/Object;)Z"⟩ : MethodName)) (C := "java/lang/String") (b := a16) (argsL := [(.ref a)]) (rest := []) N17 hx hZ hown (hw _ (List.mem_of_getElem? (i := 32) rfl)) (hw _ (List.mem_of_getElem? (i := 33) rfl)) (hw _ (List.mem_of_getElem? (i := 35) rfl)) (hw _ (List.mem_of_getElem? (i := 34) rfl)) (by decide) (notFace_of_selects (args := #[]) (mvT hZ (hw _ (List.mem_of_getElem? (i := 35) rfl)))) S19.1 (strEq (W := 0) hZ hw G N17.ext S19 (Sa.ext X22) (nle rfl) (nle rfl)) (hb hby d5_12) rfl (by rw [hml]; rfl) (lenOf (by decide +kernel : parseMethodDescriptor "(Ljava/lang/Object;)Z" = some ⟨[(.object "java/lang/Object")], (some .boolean)⟩) rfl) (nle rfl) (nle rfl) (nle rfl) (fun _ _ _ q => fr_nil q.2.1) ?_
    rintro _ T24 _ _ N25 ⟨rfl, -, e_h⟩; rw [e_h] at N25; clear e_h
    show Ends p e below _ T24 (mkF m 15 #[.val (.ref a)] [(.int (if [(84 : Int32), (82 : Int32), (85 : Int32), (69 : Int32)] = cs then (1 : Int32) else (0 : Int32)))])
    by_cases c1 : tr2 = cs
    · rw [if_pos (show [(84 : Int32), (82 : Int32), (85 : Int32), (69 : Int32)] = cs from c1)]
      refine Ends.go (f' := (mkF m 27 #[.val (.ref a)] [])) (fun t k => XS.ifYes N25.here hx rfl (pc0 := 15) (pc' := 27) rfl (hb hby d5_15) rfl (XT.i0_ne_t (by decide)) (by decide) (by decide) k) ?_
      refine Ends.go (f' := (mkF m 28 #[.val (.ref a)] [(.int (1 : Int32))])) (fun t k => XS.iconst N25.here hx rfl (hb hby d5_27) k) ?_
      refine Ends.go (f' := (mkF m 32 #[.val (.ref a)] [(.int (1 : Int32))])) (fun t k => XS.goto N25.here hx rfl (pc0 := 28) (pc' := 32) rfl (hb hby d5_28) (by decide) (by decide) k) ?_
      exact retZW N25 hZ (elw hw) wd20 hx hlk hret (by simp) (hb hby d5_32) ⟨by rw [isT, if_pos (Or.inr (Or.inl (congrArg some c1.symm)))]; rfl, X22⟩ (nle rfl) (nle rfl)
    · rw [if_neg (show ¬ [(84 : Int32), (82 : Int32), (85 : Int32), (69 : Int32)] = cs from c1)]
      refine Ends.go (f' := (mkF m 18 #[.val (.ref a)] [])) (fun t k => XS.ifNo N25.here hx rfl (hb hby d5_15) rfl (XT.i0_ne_f (by decide)) k) ?_
      refine gLdcS (cs := [(84 : Int32), (114 : Int32), (117 : Int32), (101 : Int32)]) 16 N25 hx hZ hown (hw _ (List.mem_of_getElem? (i := 44) rfl)) (satoms hw) (elw hw) (by simp [consts_1]) wd20 ⟨by decide +kernel, by decide +kernel⟩ (by decide +kernel) (nle rfl) (hb hby d5_18) (nle rfl) (nle rfl) (nle rfl) (nle rfl) ?_
      intro vm26 T27 h28 a29 N30 E31 S32 hZ hown wd33 R34
      have X35 : Ext h0 h28 := ext_trans X22 E31
      have X36 : Ext h3 h28 := ext_trans X23 E31
      have X37 : Ext h15 h28 := ext_trans (ext_refl h15) E31
      show Ends p e below _ T27 (mkF m 20 #[.val (.ref a)] [(.ref a29)])
      refine Ends.go (f' := (mkF m 21 #[.val (.ref a)] [(.ref a), (.ref a29)])) (fun t k => XS.aloadN N30.here hx rfl (hb hby d5_20) rfl rfl k) ?_
      refine gVirtual (W := 0) (y := (⟨"java/lang/String", "equals", "(Ljava/lang/Object;)Z"⟩ : MethodName)) (z := (⟨"java/lang/String", "equals", "(Ljava/lang/Object;)Z"⟩ : MethodName)) (C := "java/lang/String") (b := a29) (argsL := [(.ref a)]) (rest := []) N30 hx hZ hown (hw _ (List.mem_of_getElem? (i := 32) rfl)) (hw _ (List.mem_of_getElem? (i := 33) rfl)) (hw _ (List.mem_of_getElem? (i := 35) rfl)) (hw _ (List.mem_of_getElem? (i := 34) rfl)) (by decide) (notFace_of_selects (args := #[]) (mvT hZ (hw _ (List.mem_of_getElem? (i := 35) rfl)))) S32.1 (strEq (W := 0) hZ hw G N30.ext S32 (Sa.ext X35) (nle rfl) (nle rfl)) (hb hby d5_21) rfl (by rw [hml]; rfl) (lenOf (by decide +kernel : parseMethodDescriptor "(Ljava/lang/Object;)Z" = some ⟨[(.object "java/lang/Object")], (some .boolean)⟩) rfl) (nle rfl) (nle rfl) (nle rfl) (fun _ _ _ q => fr_nil q.2.1) ?_
      rintro _ T38 _ _ N39 ⟨rfl, -, e_h⟩; rw [e_h] at N39; clear e_h
      show Ends p e below _ T38 (mkF m 24 #[.val (.ref a)] [(.int (if [(84 : Int32), (114 : Int32), (117 : Int32), (101 : Int32)] = cs then (1 : Int32) else (0 : Int32)))])
      by_cases c2 : tr3 = cs
      · rw [if_pos (show [(84 : Int32), (114 : Int32), (117 : Int32), (101 : Int32)] = cs from c2)]
        refine Ends.go (f' := (mkF m 27 #[.val (.ref a)] [])) (fun t k => XS.ifNo N39.here hx rfl (hb hby d5_24) rfl (XT.i0_eq_f (by decide)) k) ?_
        refine Ends.go (f' := (mkF m 28 #[.val (.ref a)] [(.int (1 : Int32))])) (fun t k => XS.iconst N39.here hx rfl (hb hby d5_27) k) ?_
        refine Ends.go (f' := (mkF m 32 #[.val (.ref a)] [(.int (1 : Int32))])) (fun t k => XS.goto N39.here hx rfl (pc0 := 28) (pc' := 32) rfl (hb hby d5_28) (by decide) (by decide) k) ?_
        exact retZW N39 hZ (elw hw) wd33 hx hlk hret (by simp) (hb hby d5_32) ⟨by rw [isT, if_pos (Or.inr (Or.inr ((congrArg some c2.symm))))]; rfl, X35⟩ (nle rfl) (nle rfl)
      · rw [if_neg (show ¬ [(84 : Int32), (114 : Int32), (117 : Int32), (101 : Int32)] = cs from c2)]
        refine Ends.go (f' := (mkF m 31 #[.val (.ref a)] [])) (fun t k => XS.ifYes N39.here hx rfl (pc0 := 24) (pc' := 31) rfl (hb hby d5_24) rfl (XT.i0_eq_t (by decide)) (by decide) (by decide) k) ?_
        refine Ends.go (f' := (mkF m 32 #[.val (.ref a)] [(.int (0 : Int32))])) (fun t k => XS.iconst N39.here hx rfl (hb hby d5_31) k) ?_
        exact retZW N39 hZ (elw hw) wd33 hx hlk hret (by simp) (hb hby d5_32) ⟨by have hno : ¬ (some cs = some tr1 ∨ some cs = some tr2 ∨ some cs = some tr3) := (by rintro (q | q | q) <;> first | exact c0 (Option.some.inj q).symm | exact c1 (Option.some.inj q).symm | exact c2 (Option.some.inj q).symm); rw [isT, if_neg hno]; rfl, X35⟩ (nle rfl) (nle rfl)
set_option maxRecDepth 65536 in
set_option maxHeartbeats 40000000 in
theorem rmIsTN (l : Launch) (Z : State) (a0 : Array Value) (hw : ∀ d ∈ tables_1, d.before a0 Z = true) (h0 : Heap) (Z0 : Ext Z.heap h0) (G : Jdk Z) :
    MetW l Z consts_1 (⟨"com/example/waypost/waypost/model/BuiltValue", "isTrue", "(Ljava/lang/String;)Z"⟩ : MethodName) prog_42_method_5_code 1 (some .boolean) [] ({ frames := 2, cells := 6, slots := 60, locals := 28 } : Room) #[.null] h0 (fun v h => v = some (.int (isT none)) ∧ Ext h0 h) := by
  refine metW (by first | exact plainFor_of_name (by first | (simp [plainName, overriddenIn]; done) | decide +kernel) | decide +kernel) Z0 (Ls := #[.val .null]) (fun m => by first | (simp [entryFrame, mkF, argsToLocals, Value.category]; done) | rfl) ?_
  intro p e s m below meth c T0 vm0 hx hby hml hret hlk hown hnm hZ N0 wd0
  refine gLdcS (cs := [(116 : Int32), (114 : Int32), (117 : Int32), (101 : Int32)]) 16 N0 hx hZ hown (hw _ (List.mem_of_getElem? (i := 31) rfl)) (satoms hw) (elw hw) (by simp [consts_1]) wd0 ⟨by decide +kernel, by decide +kernel⟩ (by decide +kernel) (nle rfl) (hb hby d5_0) (nle rfl) (nle rfl) (nle rfl) (nle rfl) ?_
  intro vm1 T2 h3 a4 N5 E6 S7 hZ hown wd8 R9
  have X10 : Ext h0 h3 := ext_trans (ext_refl h0) E6
  show Ends p e below _ T2 (mkF m 2 #[.val .null] [(.ref a4)])
  refine Ends.go (f' := (mkF m 3 #[.val .null] [.null, (.ref a4)])) (fun t k => XS.aloadN N5.here hx rfl (hb hby d5_2) rfl rfl k) ?_
  refine gVirtual (W := 0) (y := (⟨"java/lang/String", "equals", "(Ljava/lang/Object;)Z"⟩ : MethodName)) (z := (⟨"java/lang/String", "equals", "(Ljava/lang/Object;)Z"⟩ : MethodName)) (C := "java/lang/String") (b := a4) (argsL := [.null]) (rest := []) N5 hx hZ hown (hw _ (List.mem_of_getElem? (i := 32) rfl)) (hw _ (List.mem_of_getElem? (i := 33) rfl)) (hw _ (List.mem_of_getElem? (i := 35) rfl)) (hw _ (List.mem_of_getElem? (i := 34) rfl)) (by decide) (notFace_of_selects (args := #[]) (mvT hZ (hw _ (List.mem_of_getElem? (i := 35) rfl)))) S7.1 ((rmEqN l Z a0 hw a4 h3 N5.ext).back (W := 0) hZ (hw _ (List.mem_of_getElem? (i := 36) rfl)) (hw _ (List.mem_of_getElem? (i := 7) rfl)) (nle rfl) (nle rfl)) (hb hby d5_3) rfl (by rw [hml]; rfl) (lenOf (by decide +kernel : parseMethodDescriptor "(Ljava/lang/Object;)Z" = some ⟨[(.object "java/lang/Object")], (some .boolean)⟩) rfl) (nle rfl) (nle rfl) (nle rfl) (fun _ _ _ q => q.2) ?_
  rintro _ T11 _ _ N12 ⟨⟨rfl, e_h⟩, -⟩; rw [e_h] at N12; clear e_h
  show Ends p e below _ T11 (mkF m 6 #[.val .null] [(.int (0 : Int32))])
  refine Ends.go (f' := (mkF m 9 #[.val .null] [])) (fun t k => XS.ifNo N12.here hx rfl (hb hby d5_6) rfl (XT.i0_ne_f (by decide)) k) ?_
  refine gLdcS (cs := [(84 : Int32), (82 : Int32), (85 : Int32), (69 : Int32)]) 16 N12 hx hZ hown (hw _ (List.mem_of_getElem? (i := 43) rfl)) (satoms hw) (elw hw) (by simp [consts_1]) wd8 ⟨by decide +kernel, by decide +kernel⟩ (by decide +kernel) (nle rfl) (hb hby d5_9) (nle rfl) (nle rfl) (nle rfl) (nle rfl) ?_
  intro vm13 T14 h15 a16 N17 E18 S19 hZ hown wd20 R21
  have X22 : Ext h0 h15 := ext_trans X10 E18
  have X23 : Ext h3 h15 := ext_trans (ext_refl h3) E18
  show Ends p e below _ T14 (mkF m 11 #[.val .null] [(.ref a16)])
  refine Ends.go (f' := (mkF m 12 #[.val .null] [.null, (.ref a16)])) (fun t k => XS.aloadN N17.here hx rfl (hb hby d5_11) rfl rfl k) ?_
  refine gVirtual (W := 0) (y := (⟨"java/lang/String", "equals", "(Ljava/lang/Object;)Z"⟩ : MethodName)) (z := (⟨"java/lang/String", "equals", "(Ljava/lang/Object;)Z"⟩ : MethodName)) (C := "java/lang/String") (b := a16) (argsL := [.null]) (rest := []) N17 hx hZ hown (hw _ (List.mem_of_getElem? (i := 32) rfl)) (hw _ (List.mem_of_getElem? (i := 33) rfl)) (hw _ (List.mem_of_getElem? (i := 35) rfl)) (hw _ (List.mem_of_getElem? (i := 34) rfl)) (by decide) (notFace_of_selects (args := #[]) (mvT hZ (hw _ (List.mem_of_getElem? (i := 35) rfl)))) S19.1 ((rmEqN l Z a0 hw a16 h15 N17.ext).back (W := 0) hZ (hw _ (List.mem_of_getElem? (i := 36) rfl)) (hw _ (List.mem_of_getElem? (i := 7) rfl)) (nle rfl) (nle rfl)) (hb hby d5_12) rfl (by rw [hml]; rfl) (lenOf (by decide +kernel : parseMethodDescriptor "(Ljava/lang/Object;)Z" = some ⟨[(.object "java/lang/Object")], (some .boolean)⟩) rfl) (nle rfl) (nle rfl) (nle rfl) (fun _ _ _ q => q.2) ?_
  rintro _ T24 _ _ N25 ⟨⟨rfl, e_h⟩, -⟩; rw [e_h] at N25; clear e_h
  show Ends p e below _ T24 (mkF m 15 #[.val .null] [(.int (0 : Int32))])
  refine Ends.go (f' := (mkF m 18 #[.val .null] [])) (fun t k => XS.ifNo N25.here hx rfl (hb hby d5_15) rfl (XT.i0_ne_f (by decide)) k) ?_
  refine gLdcS (cs := [(84 : Int32), (114 : Int32), (117 : Int32), (101 : Int32)]) 16 N25 hx hZ hown (hw _ (List.mem_of_getElem? (i := 44) rfl)) (satoms hw) (elw hw) (by simp [consts_1]) wd20 ⟨by decide +kernel, by decide +kernel⟩ (by decide +kernel) (nle rfl) (hb hby d5_18) (nle rfl) (nle rfl) (nle rfl) (nle rfl) ?_
  intro vm26 T27 h28 a29 N30 E31 S32 hZ hown wd33 R34
  have X35 : Ext h0 h28 := ext_trans X22 E31
  have X36 : Ext h3 h28 := ext_trans X23 E31
  have X37 : Ext h15 h28 := ext_trans (ext_refl h15) E31
  show Ends p e below _ T27 (mkF m 20 #[.val .null] [(.ref a29)])
  refine Ends.go (f' := (mkF m 21 #[.val .null] [.null, (.ref a29)])) (fun t k => XS.aloadN N30.here hx rfl (hb hby d5_20) rfl rfl k) ?_
  refine gVirtual (W := 0) (y := (⟨"java/lang/String", "equals", "(Ljava/lang/Object;)Z"⟩ : MethodName)) (z := (⟨"java/lang/String", "equals", "(Ljava/lang/Object;)Z"⟩ : MethodName)) (C := "java/lang/String") (b := a29) (argsL := [.null]) (rest := []) N30 hx hZ hown (hw _ (List.mem_of_getElem? (i := 32) rfl)) (hw _ (List.mem_of_getElem? (i := 33) rfl)) (hw _ (List.mem_of_getElem? (i := 35) rfl)) (hw _ (List.mem_of_getElem? (i := 34) rfl)) (by decide) (notFace_of_selects (args := #[]) (mvT hZ (hw _ (List.mem_of_getElem? (i := 35) rfl)))) S32.1 ((rmEqN l Z a0 hw a29 h28 N30.ext).back (W := 0) hZ (hw _ (List.mem_of_getElem? (i := 36) rfl)) (hw _ (List.mem_of_getElem? (i := 7) rfl)) (nle rfl) (nle rfl)) (hb hby d5_21) rfl (by rw [hml]; rfl) (lenOf (by decide +kernel : parseMethodDescriptor "(Ljava/lang/Object;)Z" = some ⟨[(.object "java/lang/Object")], (some .boolean)⟩) rfl) (nle rfl) (nle rfl) (nle rfl) (fun _ _ _ q => q.2) ?_
  rintro _ T38 _ _ N39 ⟨⟨rfl, e_h⟩, -⟩; rw [e_h] at N39; clear e_h
  show Ends p e below _ T38 (mkF m 24 #[.val .null] [(.int (0 : Int32))])
  refine Ends.go (f' := (mkF m 31 #[.val .null] [])) (fun t k => XS.ifYes N39.here hx rfl (pc0 := 24) (pc' := 31) rfl (hb hby d5_24) rfl (XT.i0_eq_t (by decide)) (by decide) (by decide) k) ?_
  refine Ends.go (f' := (mkF m 32 #[.val .null] [(.int (0 : Int32))])) (fun t k => XS.iconst N39.here hx rfl (hb hby d5_31) k) ?_
  exact retZW N39 hZ (elw hw) wd33 hx hlk hret (by simp) (hb hby d5_32) ⟨by decide, X35⟩ (nle rfl) (nle rfl)
theorem rmIsT (l : Launch) (Z : State) (a0 : Array Value) (hw : ∀ d ∈ tables_1, d.before a0 Z = true) (sv : Value) (o : Option (List Int32)) (h0 : Heap) (Z0 : Ext Z.heap h0) (G : Jdk Z) (S : SV Z h0 sv o) :
    MetW l Z consts_1 (⟨"com/example/waypost/waypost/model/BuiltValue", "isTrue", "(Ljava/lang/String;)Z"⟩ : MethodName) prog_42_method_5_code 1 (some .boolean) [] ({ frames := 2, cells := 6, slots := 60, locals := 28 } : Room) #[sv] h0 (fun v h => v = some (.int (isT o)) ∧ Ext h0 h) := by
  rcases S with ⟨rfl, rfl⟩ | ⟨a, cs, rfl, rfl, S⟩
  · exact rmIsTN l Z a0 hw h0 Z0 G
  · exact rmIsTS l Z a0 hw a cs h0 Z0 G S
def strOf (len c0 c1 c2 c3 c4 : Int32) : Option (List Int32) := if len = 0 then some [] else if len = 1 then some [c0] else if len = 2 then some [c0, c1] else if len = 3 then some [c0, c1, c2] else if len = 4 then some [c0, c1, c2, c3] else if len = 5 then some [c0, c1, c2, c3, c4] else none
theorem plain (len c0 c1 c2 c3 c4 lo up ti ex : Int32) (hlo : lo = (if c0 = (116 : Int32) ∧ c1 = (114 : Int32) ∧ c2 = (117 : Int32) ∧ c3 = (101 : Int32) then (1 : Int32) else (0 : Int32))) (hup : up = (if c0 = (84 : Int32) ∧ c1 = (82 : Int32) ∧ c2 = (85 : Int32) ∧ c3 = (69 : Int32) then (1 : Int32) else (0 : Int32))) (hti : ti = (if c0 = (84 : Int32) ∧ c1 = (114 : Int32) ∧ c2 = (117 : Int32) ∧ c3 = (101 : Int32) then (1 : Int32) else (0 : Int32)))
    (hex : ex = (if len = (4 : Int32) ∧ (¬ lo = 0 ∨ ¬ up = 0 ∨ ¬ ti = 0) then (1 : Int32) else (0 : Int32))) : isT (strOf len c0 c1 c2 c3 c4) = ex := by
  have key : (strOf len c0 c1 c2 c3 c4 = some tr1 ∨ strOf len c0 c1 c2 c3 c4 = some tr2 ∨ strOf len c0 c1 c2 c3 c4 = some tr3) ↔ (len = (4 : Int32) ∧ (¬ lo = 0 ∨ ¬ up = 0 ∨ ¬ ti = 0)) := by
    have a1 : ¬ lo = 0 ↔ (c0 = (116 : Int32) ∧ c1 = (114 : Int32) ∧ c2 = (117 : Int32) ∧ c3 = (101 : Int32)) := by rw [hlo]; split <;> simp_all
    have a2 : ¬ up = 0 ↔ (c0 = (84 : Int32) ∧ c1 = (82 : Int32) ∧ c2 = (85 : Int32) ∧ c3 = (69 : Int32)) := by rw [hup]; split <;> simp_all
    have a3 : ¬ ti = 0 ↔ (c0 = (84 : Int32) ∧ c1 = (114 : Int32) ∧ c2 = (117 : Int32) ∧ c3 = (101 : Int32)) := by rw [hti]; split <;> simp_all
    rw [a1, a2, a3]
    unfold strOf tr1 tr2 tr3
    by_cases l0 : len = 0
    · subst l0; simp
    by_cases l1 : len = 1
    · subst l1; simp
    by_cases l2 : len = 2
    · subst l2; simp
    by_cases l3 : len = 3
    · subst l3; simp
    by_cases l4 : len = 4
    · subst l4; simp
    by_cases l5 : len = 5
    · subst l5; simp
    · simp [l0, l1, l2, l3, l4, l5]
  rw [hex, isT]
  simp only [key]
set_option maxRecDepth 65536 in
set_option maxHeartbeats 40000000 in
theorem rmLaw (l : Launch) (Z : State) (a0 : Array Value) (hw : ∀ d ∈ tables_1, d.before a0 Z = true) (ws : List Jvm.Cond) (i0 i1 i2 i3 i4 i5 : Int32) (h0 : Heap) (Z0 : Ext Z.heap h0) (G : Jdk Z) :
    MetW l Z consts_1 x code maxLocals ret ws room_1 #[(.int i0), (.int i1), (.int i2), (.int i3), (.int i4), (.int i5)] h0 (fun v _ => v = some (.int 1)) := by
  refine metW (by first | exact plainFor_of_name (by first | (simp [plainName, overriddenIn]; done) | decide +kernel) | decide +kernel) Z0 (Ls := #[.val (.int i0), .val (.int i1), .val (.int i2), .val (.int i3), .val (.int i4), .val (.int i5), .unset, .unset, .unset, .unset, .unset, .unset, .unset, .unset, .unset, .unset, .unset]) (fun m => by first | (simp [entryFrame, mkF, argsToLocals, Value.category, maxLocals]; done) | rfl) ?_
  intro p e s m below meth c T0 vm0 hx hby hml hret hlk hown hnm hZ N0 wd0
  have hown : (s.setVm vm0).vm.findClass "com/example/waypost/waypost/model/BuiltValueIsTruePinLaw" = some m.cls := hown
  have hret : meth.sig.returnType = some .boolean := hret
  have hml : c.maxLocals = 17 := hml
  have join : ∀ (vm1 : Vm) (T1 : State) (h1 : Heap) (sv : Value) (o : Option (List Int32)), Now p l e room_1 (s.setVm vm1) m #[(.int i0), (.int i1), (.int i2), (.int i3), (.int i4), (.int i5)] below meth c Z T1 h1 11 60 → Z.Warmed39 (s.setVm vm1).vm → (s.setVm vm1).vm.findClass "com/example/waypost/waypost/model/BuiltValueIsTruePinLaw" = some m.cls → Wd Z s consts_1 vm1 h1 → SV Z h1 sv o → o = strOf ((i0 &&& (2147483647 : Int32)) % (7 : Int32)) (f_pick i1) (f_pick i2) (f_pick i3) (f_pick i4) (f_pick i5) → Ends p e below (PhiW Z s consts_1 (fun v _ => v = some (.int 1)) room_1.cells room_1.slots) T1 (mkF m 244 #[.val (.int i0), .val (.int i1), .val (.int i2), .val (.int i3), .val (.int i4), .val (.int i5), .val (.int ((i0 &&& (2147483647 : Int32)) % (7 : Int32))), .val (.int (f_pick i1)), .val (.int (f_pick i2)), .val (.int (f_pick i3)), .val (.int (f_pick i4)), .val (.int (f_pick i5)), .val sv, .unset, .unset, .unset, .unset] []) := by
    intro vm1 T1 h1 sv o N1 hZ hown wd1 Sv ho
    suffices J26 : ∀ bo27 : Int32, bo27 = (if (f_pick i1) = (116 : Int32) ∧ (f_pick i2) = (114 : Int32) ∧ (f_pick i3) = (117 : Int32) ∧ (f_pick i4) = (101 : Int32) then (1 : Int32) else (0 : Int32)) → Ends p e below (PhiW Z s consts_1 (fun v _ => v = some (.int 1)) room_1.cells room_1.slots) T1 (mkF m 277 #[.val (.int i0), .val (.int i1), .val (.int i2), .val (.int i3), .val (.int i4), .val (.int i5), .val (.int ((i0 &&& (2147483647 : Int32)) % (7 : Int32))), .val (.int (f_pick i1)), .val (.int (f_pick i2)), .val (.int (f_pick i3)), .val (.int (f_pick i4)), .val (.int (f_pick i5)), .val sv, .unset, .unset, .unset, .unset] [(.int bo27)]) by
      refine Ends.go (f' := (mkF m 246 #[.val (.int i0), .val (.int i1), .val (.int i2), .val (.int i3), .val (.int i4), .val (.int i5), .val (.int ((i0 &&& (2147483647 : Int32)) % (7 : Int32))), .val (.int (f_pick i1)), .val (.int (f_pick i2)), .val (.int (f_pick i3)), .val (.int (f_pick i4)), .val (.int (f_pick i5)), .val sv, .unset, .unset, .unset, .unset] [(.int (f_pick i1))])) (fun t k => XS.iload N1.here hx rfl (hb hby at_244) rfl k) ?_
      refine Ends.go (f' := (mkF m 248 #[.val (.int i0), .val (.int i1), .val (.int i2), .val (.int i3), .val (.int i4), .val (.int i5), .val (.int ((i0 &&& (2147483647 : Int32)) % (7 : Int32))), .val (.int (f_pick i1)), .val (.int (f_pick i2)), .val (.int (f_pick i3)), .val (.int (f_pick i4)), .val (.int (f_pick i5)), .val sv, .unset, .unset, .unset, .unset] [(.int (116 : Int32)), (.int (f_pick i1))])) (fun t k => XS.bipush N1.here hx rfl (hb hby at_246) k) ?_
      by_cases c29 : (f_pick i1) = (116 : Int32)
      · refine Ends.go (f' := (mkF m 251 #[.val (.int i0), .val (.int i1), .val (.int i2), .val (.int i3), .val (.int i4), .val (.int i5), .val (.int ((i0 &&& (2147483647 : Int32)) % (7 : Int32))), .val (.int (f_pick i1)), .val (.int (f_pick i2)), .val (.int (f_pick i3)), .val (.int (f_pick i4)), .val (.int (f_pick i5)), .val sv, .unset, .unset, .unset, .unset] [])) (fun t k => XS.icmpNo N1.here hx rfl (hb hby at_248) rfl (XT.ii_ne_f c29) k) ?_
        refine Ends.go (f' := (mkF m 253 #[.val (.int i0), .val (.int i1), .val (.int i2), .val (.int i3), .val (.int i4), .val (.int i5), .val (.int ((i0 &&& (2147483647 : Int32)) % (7 : Int32))), .val (.int (f_pick i1)), .val (.int (f_pick i2)), .val (.int (f_pick i3)), .val (.int (f_pick i4)), .val (.int (f_pick i5)), .val sv, .unset, .unset, .unset, .unset] [(.int (f_pick i2))])) (fun t k => XS.iload N1.here hx rfl (hb hby at_251) rfl k) ?_
        refine Ends.go (f' := (mkF m 255 #[.val (.int i0), .val (.int i1), .val (.int i2), .val (.int i3), .val (.int i4), .val (.int i5), .val (.int ((i0 &&& (2147483647 : Int32)) % (7 : Int32))), .val (.int (f_pick i1)), .val (.int (f_pick i2)), .val (.int (f_pick i3)), .val (.int (f_pick i4)), .val (.int (f_pick i5)), .val sv, .unset, .unset, .unset, .unset] [(.int (114 : Int32)), (.int (f_pick i2))])) (fun t k => XS.bipush N1.here hx rfl (hb hby at_253) k) ?_
        by_cases c30 : (f_pick i2) = (114 : Int32)
        · refine Ends.go (f' := (mkF m 258 #[.val (.int i0), .val (.int i1), .val (.int i2), .val (.int i3), .val (.int i4), .val (.int i5), .val (.int ((i0 &&& (2147483647 : Int32)) % (7 : Int32))), .val (.int (f_pick i1)), .val (.int (f_pick i2)), .val (.int (f_pick i3)), .val (.int (f_pick i4)), .val (.int (f_pick i5)), .val sv, .unset, .unset, .unset, .unset] [])) (fun t k => XS.icmpNo N1.here hx rfl (hb hby at_255) rfl (XT.ii_ne_f c30) k) ?_
          refine Ends.go (f' := (mkF m 260 #[.val (.int i0), .val (.int i1), .val (.int i2), .val (.int i3), .val (.int i4), .val (.int i5), .val (.int ((i0 &&& (2147483647 : Int32)) % (7 : Int32))), .val (.int (f_pick i1)), .val (.int (f_pick i2)), .val (.int (f_pick i3)), .val (.int (f_pick i4)), .val (.int (f_pick i5)), .val sv, .unset, .unset, .unset, .unset] [(.int (f_pick i3))])) (fun t k => XS.iload N1.here hx rfl (hb hby at_258) rfl k) ?_
          refine Ends.go (f' := (mkF m 262 #[.val (.int i0), .val (.int i1), .val (.int i2), .val (.int i3), .val (.int i4), .val (.int i5), .val (.int ((i0 &&& (2147483647 : Int32)) % (7 : Int32))), .val (.int (f_pick i1)), .val (.int (f_pick i2)), .val (.int (f_pick i3)), .val (.int (f_pick i4)), .val (.int (f_pick i5)), .val sv, .unset, .unset, .unset, .unset] [(.int (117 : Int32)), (.int (f_pick i3))])) (fun t k => XS.bipush N1.here hx rfl (hb hby at_260) k) ?_
          by_cases c31 : (f_pick i3) = (117 : Int32)
          · refine Ends.go (f' := (mkF m 265 #[.val (.int i0), .val (.int i1), .val (.int i2), .val (.int i3), .val (.int i4), .val (.int i5), .val (.int ((i0 &&& (2147483647 : Int32)) % (7 : Int32))), .val (.int (f_pick i1)), .val (.int (f_pick i2)), .val (.int (f_pick i3)), .val (.int (f_pick i4)), .val (.int (f_pick i5)), .val sv, .unset, .unset, .unset, .unset] [])) (fun t k => XS.icmpNo N1.here hx rfl (hb hby at_262) rfl (XT.ii_ne_f c31) k) ?_
            refine Ends.go (f' := (mkF m 267 #[.val (.int i0), .val (.int i1), .val (.int i2), .val (.int i3), .val (.int i4), .val (.int i5), .val (.int ((i0 &&& (2147483647 : Int32)) % (7 : Int32))), .val (.int (f_pick i1)), .val (.int (f_pick i2)), .val (.int (f_pick i3)), .val (.int (f_pick i4)), .val (.int (f_pick i5)), .val sv, .unset, .unset, .unset, .unset] [(.int (f_pick i4))])) (fun t k => XS.iload N1.here hx rfl (hb hby at_265) rfl k) ?_
            refine Ends.go (f' := (mkF m 269 #[.val (.int i0), .val (.int i1), .val (.int i2), .val (.int i3), .val (.int i4), .val (.int i5), .val (.int ((i0 &&& (2147483647 : Int32)) % (7 : Int32))), .val (.int (f_pick i1)), .val (.int (f_pick i2)), .val (.int (f_pick i3)), .val (.int (f_pick i4)), .val (.int (f_pick i5)), .val sv, .unset, .unset, .unset, .unset] [(.int (101 : Int32)), (.int (f_pick i4))])) (fun t k => XS.bipush N1.here hx rfl (hb hby at_267) k) ?_
            by_cases c32 : (f_pick i4) = (101 : Int32)
            · refine Ends.go (f' := (mkF m 272 #[.val (.int i0), .val (.int i1), .val (.int i2), .val (.int i3), .val (.int i4), .val (.int i5), .val (.int ((i0 &&& (2147483647 : Int32)) % (7 : Int32))), .val (.int (f_pick i1)), .val (.int (f_pick i2)), .val (.int (f_pick i3)), .val (.int (f_pick i4)), .val (.int (f_pick i5)), .val sv, .unset, .unset, .unset, .unset] [])) (fun t k => XS.icmpNo N1.here hx rfl (hb hby at_269) rfl (XT.ii_ne_f c32) k) ?_
              refine Ends.go (f' := (mkF m 273 #[.val (.int i0), .val (.int i1), .val (.int i2), .val (.int i3), .val (.int i4), .val (.int i5), .val (.int ((i0 &&& (2147483647 : Int32)) % (7 : Int32))), .val (.int (f_pick i1)), .val (.int (f_pick i2)), .val (.int (f_pick i3)), .val (.int (f_pick i4)), .val (.int (f_pick i5)), .val sv, .unset, .unset, .unset, .unset] [(.int (1 : Int32))])) (fun t k => XS.iconst N1.here hx rfl (hb hby at_272) k) ?_
              refine Ends.go (f' := (mkF m 277 #[.val (.int i0), .val (.int i1), .val (.int i2), .val (.int i3), .val (.int i4), .val (.int i5), .val (.int ((i0 &&& (2147483647 : Int32)) % (7 : Int32))), .val (.int (f_pick i1)), .val (.int (f_pick i2)), .val (.int (f_pick i3)), .val (.int (f_pick i4)), .val (.int (f_pick i5)), .val sv, .unset, .unset, .unset, .unset] [(.int (1 : Int32))])) (fun t k => XS.goto N1.here hx rfl (pc0 := 273) (pc' := 277) rfl (hb hby at_273) (by decide) (by decide) k) ?_
              exact J26 (1 : Int32) (by simp [c29, c30, c31, c32])
            · refine Ends.go (f' := (mkF m 276 #[.val (.int i0), .val (.int i1), .val (.int i2), .val (.int i3), .val (.int i4), .val (.int i5), .val (.int ((i0 &&& (2147483647 : Int32)) % (7 : Int32))), .val (.int (f_pick i1)), .val (.int (f_pick i2)), .val (.int (f_pick i3)), .val (.int (f_pick i4)), .val (.int (f_pick i5)), .val sv, .unset, .unset, .unset, .unset] [])) (fun t k => XS.icmpYes N1.here hx rfl (pc0 := 269) (pc' := 276) rfl (hb hby at_269) rfl (XT.ii_ne_t c32) (by decide) (by decide) k) ?_
              refine Ends.go (f' := (mkF m 277 #[.val (.int i0), .val (.int i1), .val (.int i2), .val (.int i3), .val (.int i4), .val (.int i5), .val (.int ((i0 &&& (2147483647 : Int32)) % (7 : Int32))), .val (.int (f_pick i1)), .val (.int (f_pick i2)), .val (.int (f_pick i3)), .val (.int (f_pick i4)), .val (.int (f_pick i5)), .val sv, .unset, .unset, .unset, .unset] [(.int (0 : Int32))])) (fun t k => XS.iconst N1.here hx rfl (hb hby at_276) k) ?_
              exact J26 (0 : Int32) (by simp [c29, c30, c31, c32])
          · refine Ends.go (f' := (mkF m 276 #[.val (.int i0), .val (.int i1), .val (.int i2), .val (.int i3), .val (.int i4), .val (.int i5), .val (.int ((i0 &&& (2147483647 : Int32)) % (7 : Int32))), .val (.int (f_pick i1)), .val (.int (f_pick i2)), .val (.int (f_pick i3)), .val (.int (f_pick i4)), .val (.int (f_pick i5)), .val sv, .unset, .unset, .unset, .unset] [])) (fun t k => XS.icmpYes N1.here hx rfl (pc0 := 262) (pc' := 276) rfl (hb hby at_262) rfl (XT.ii_ne_t c31) (by decide) (by decide) k) ?_
            refine Ends.go (f' := (mkF m 277 #[.val (.int i0), .val (.int i1), .val (.int i2), .val (.int i3), .val (.int i4), .val (.int i5), .val (.int ((i0 &&& (2147483647 : Int32)) % (7 : Int32))), .val (.int (f_pick i1)), .val (.int (f_pick i2)), .val (.int (f_pick i3)), .val (.int (f_pick i4)), .val (.int (f_pick i5)), .val sv, .unset, .unset, .unset, .unset] [(.int (0 : Int32))])) (fun t k => XS.iconst N1.here hx rfl (hb hby at_276) k) ?_
            exact J26 (0 : Int32) (by simp [c29, c30, c31])
        · refine Ends.go (f' := (mkF m 276 #[.val (.int i0), .val (.int i1), .val (.int i2), .val (.int i3), .val (.int i4), .val (.int i5), .val (.int ((i0 &&& (2147483647 : Int32)) % (7 : Int32))), .val (.int (f_pick i1)), .val (.int (f_pick i2)), .val (.int (f_pick i3)), .val (.int (f_pick i4)), .val (.int (f_pick i5)), .val sv, .unset, .unset, .unset, .unset] [])) (fun t k => XS.icmpYes N1.here hx rfl (pc0 := 255) (pc' := 276) rfl (hb hby at_255) rfl (XT.ii_ne_t c30) (by decide) (by decide) k) ?_
          refine Ends.go (f' := (mkF m 277 #[.val (.int i0), .val (.int i1), .val (.int i2), .val (.int i3), .val (.int i4), .val (.int i5), .val (.int ((i0 &&& (2147483647 : Int32)) % (7 : Int32))), .val (.int (f_pick i1)), .val (.int (f_pick i2)), .val (.int (f_pick i3)), .val (.int (f_pick i4)), .val (.int (f_pick i5)), .val sv, .unset, .unset, .unset, .unset] [(.int (0 : Int32))])) (fun t k => XS.iconst N1.here hx rfl (hb hby at_276) k) ?_
          exact J26 (0 : Int32) (by simp [c29, c30])
      · refine Ends.go (f' := (mkF m 276 #[.val (.int i0), .val (.int i1), .val (.int i2), .val (.int i3), .val (.int i4), .val (.int i5), .val (.int ((i0 &&& (2147483647 : Int32)) % (7 : Int32))), .val (.int (f_pick i1)), .val (.int (f_pick i2)), .val (.int (f_pick i3)), .val (.int (f_pick i4)), .val (.int (f_pick i5)), .val sv, .unset, .unset, .unset, .unset] [])) (fun t k => XS.icmpYes N1.here hx rfl (pc0 := 248) (pc' := 276) rfl (hb hby at_248) rfl (XT.ii_ne_t c29) (by decide) (by decide) k) ?_
        refine Ends.go (f' := (mkF m 277 #[.val (.int i0), .val (.int i1), .val (.int i2), .val (.int i3), .val (.int i4), .val (.int i5), .val (.int ((i0 &&& (2147483647 : Int32)) % (7 : Int32))), .val (.int (f_pick i1)), .val (.int (f_pick i2)), .val (.int (f_pick i3)), .val (.int (f_pick i4)), .val (.int (f_pick i5)), .val sv, .unset, .unset, .unset, .unset] [(.int (0 : Int32))])) (fun t k => XS.iconst N1.here hx rfl (hb hby at_276) k) ?_
        exact J26 (0 : Int32) (by simp [c29])
    intro bo27 hbo28
    refine Ends.go (f' := (mkF m 279 #[.val (.int i0), .val (.int i1), .val (.int i2), .val (.int i3), .val (.int i4), .val (.int i5), .val (.int ((i0 &&& (2147483647 : Int32)) % (7 : Int32))), .val (.int (f_pick i1)), .val (.int (f_pick i2)), .val (.int (f_pick i3)), .val (.int (f_pick i4)), .val (.int (f_pick i5)), .val sv, .val (.int bo27), .unset, .unset, .unset] [])) (fun t k => XS.istore N1.here hx rfl (hb hby at_277) rfl (l' := #[.val (.int i0), .val (.int i1), .val (.int i2), .val (.int i3), .val (.int i4), .val (.int i5), .val (.int ((i0 &&& (2147483647 : Int32)) % (7 : Int32))), .val (.int (f_pick i1)), .val (.int (f_pick i2)), .val (.int (f_pick i3)), .val (.int (f_pick i4)), .val (.int (f_pick i5)), .val sv, .val (.int bo27), .unset, .unset, .unset]) rfl k) ?_
    suffices J33 : ∀ bo34 : Int32, bo34 = (if (f_pick i1) = (84 : Int32) ∧ (f_pick i2) = (82 : Int32) ∧ (f_pick i3) = (85 : Int32) ∧ (f_pick i4) = (69 : Int32) then (1 : Int32) else (0 : Int32)) → Ends p e below (PhiW Z s consts_1 (fun v _ => v = some (.int 1)) room_1.cells room_1.slots) T1 (mkF m 312 #[.val (.int i0), .val (.int i1), .val (.int i2), .val (.int i3), .val (.int i4), .val (.int i5), .val (.int ((i0 &&& (2147483647 : Int32)) % (7 : Int32))), .val (.int (f_pick i1)), .val (.int (f_pick i2)), .val (.int (f_pick i3)), .val (.int (f_pick i4)), .val (.int (f_pick i5)), .val sv, .val (.int bo27), .unset, .unset, .unset] [(.int bo34)]) by
      refine Ends.go (f' := (mkF m 281 #[.val (.int i0), .val (.int i1), .val (.int i2), .val (.int i3), .val (.int i4), .val (.int i5), .val (.int ((i0 &&& (2147483647 : Int32)) % (7 : Int32))), .val (.int (f_pick i1)), .val (.int (f_pick i2)), .val (.int (f_pick i3)), .val (.int (f_pick i4)), .val (.int (f_pick i5)), .val sv, .val (.int bo27), .unset, .unset, .unset] [(.int (f_pick i1))])) (fun t k => XS.iload N1.here hx rfl (hb hby at_279) rfl k) ?_
      refine Ends.go (f' := (mkF m 283 #[.val (.int i0), .val (.int i1), .val (.int i2), .val (.int i3), .val (.int i4), .val (.int i5), .val (.int ((i0 &&& (2147483647 : Int32)) % (7 : Int32))), .val (.int (f_pick i1)), .val (.int (f_pick i2)), .val (.int (f_pick i3)), .val (.int (f_pick i4)), .val (.int (f_pick i5)), .val sv, .val (.int bo27), .unset, .unset, .unset] [(.int (84 : Int32)), (.int (f_pick i1))])) (fun t k => XS.bipush N1.here hx rfl (hb hby at_281) k) ?_
      by_cases c36 : (f_pick i1) = (84 : Int32)
      · refine Ends.go (f' := (mkF m 286 #[.val (.int i0), .val (.int i1), .val (.int i2), .val (.int i3), .val (.int i4), .val (.int i5), .val (.int ((i0 &&& (2147483647 : Int32)) % (7 : Int32))), .val (.int (f_pick i1)), .val (.int (f_pick i2)), .val (.int (f_pick i3)), .val (.int (f_pick i4)), .val (.int (f_pick i5)), .val sv, .val (.int bo27), .unset, .unset, .unset] [])) (fun t k => XS.icmpNo N1.here hx rfl (hb hby at_283) rfl (XT.ii_ne_f c36) k) ?_
        refine Ends.go (f' := (mkF m 288 #[.val (.int i0), .val (.int i1), .val (.int i2), .val (.int i3), .val (.int i4), .val (.int i5), .val (.int ((i0 &&& (2147483647 : Int32)) % (7 : Int32))), .val (.int (f_pick i1)), .val (.int (f_pick i2)), .val (.int (f_pick i3)), .val (.int (f_pick i4)), .val (.int (f_pick i5)), .val sv, .val (.int bo27), .unset, .unset, .unset] [(.int (f_pick i2))])) (fun t k => XS.iload N1.here hx rfl (hb hby at_286) rfl k) ?_
        refine Ends.go (f' := (mkF m 290 #[.val (.int i0), .val (.int i1), .val (.int i2), .val (.int i3), .val (.int i4), .val (.int i5), .val (.int ((i0 &&& (2147483647 : Int32)) % (7 : Int32))), .val (.int (f_pick i1)), .val (.int (f_pick i2)), .val (.int (f_pick i3)), .val (.int (f_pick i4)), .val (.int (f_pick i5)), .val sv, .val (.int bo27), .unset, .unset, .unset] [(.int (82 : Int32)), (.int (f_pick i2))])) (fun t k => XS.bipush N1.here hx rfl (hb hby at_288) k) ?_
        by_cases c37 : (f_pick i2) = (82 : Int32)
        · refine Ends.go (f' := (mkF m 293 #[.val (.int i0), .val (.int i1), .val (.int i2), .val (.int i3), .val (.int i4), .val (.int i5), .val (.int ((i0 &&& (2147483647 : Int32)) % (7 : Int32))), .val (.int (f_pick i1)), .val (.int (f_pick i2)), .val (.int (f_pick i3)), .val (.int (f_pick i4)), .val (.int (f_pick i5)), .val sv, .val (.int bo27), .unset, .unset, .unset] [])) (fun t k => XS.icmpNo N1.here hx rfl (hb hby at_290) rfl (XT.ii_ne_f c37) k) ?_
          refine Ends.go (f' := (mkF m 295 #[.val (.int i0), .val (.int i1), .val (.int i2), .val (.int i3), .val (.int i4), .val (.int i5), .val (.int ((i0 &&& (2147483647 : Int32)) % (7 : Int32))), .val (.int (f_pick i1)), .val (.int (f_pick i2)), .val (.int (f_pick i3)), .val (.int (f_pick i4)), .val (.int (f_pick i5)), .val sv, .val (.int bo27), .unset, .unset, .unset] [(.int (f_pick i3))])) (fun t k => XS.iload N1.here hx rfl (hb hby at_293) rfl k) ?_
          refine Ends.go (f' := (mkF m 297 #[.val (.int i0), .val (.int i1), .val (.int i2), .val (.int i3), .val (.int i4), .val (.int i5), .val (.int ((i0 &&& (2147483647 : Int32)) % (7 : Int32))), .val (.int (f_pick i1)), .val (.int (f_pick i2)), .val (.int (f_pick i3)), .val (.int (f_pick i4)), .val (.int (f_pick i5)), .val sv, .val (.int bo27), .unset, .unset, .unset] [(.int (85 : Int32)), (.int (f_pick i3))])) (fun t k => XS.bipush N1.here hx rfl (hb hby at_295) k) ?_
          by_cases c38 : (f_pick i3) = (85 : Int32)
          · refine Ends.go (f' := (mkF m 300 #[.val (.int i0), .val (.int i1), .val (.int i2), .val (.int i3), .val (.int i4), .val (.int i5), .val (.int ((i0 &&& (2147483647 : Int32)) % (7 : Int32))), .val (.int (f_pick i1)), .val (.int (f_pick i2)), .val (.int (f_pick i3)), .val (.int (f_pick i4)), .val (.int (f_pick i5)), .val sv, .val (.int bo27), .unset, .unset, .unset] [])) (fun t k => XS.icmpNo N1.here hx rfl (hb hby at_297) rfl (XT.ii_ne_f c38) k) ?_
            refine Ends.go (f' := (mkF m 302 #[.val (.int i0), .val (.int i1), .val (.int i2), .val (.int i3), .val (.int i4), .val (.int i5), .val (.int ((i0 &&& (2147483647 : Int32)) % (7 : Int32))), .val (.int (f_pick i1)), .val (.int (f_pick i2)), .val (.int (f_pick i3)), .val (.int (f_pick i4)), .val (.int (f_pick i5)), .val sv, .val (.int bo27), .unset, .unset, .unset] [(.int (f_pick i4))])) (fun t k => XS.iload N1.here hx rfl (hb hby at_300) rfl k) ?_
            refine Ends.go (f' := (mkF m 304 #[.val (.int i0), .val (.int i1), .val (.int i2), .val (.int i3), .val (.int i4), .val (.int i5), .val (.int ((i0 &&& (2147483647 : Int32)) % (7 : Int32))), .val (.int (f_pick i1)), .val (.int (f_pick i2)), .val (.int (f_pick i3)), .val (.int (f_pick i4)), .val (.int (f_pick i5)), .val sv, .val (.int bo27), .unset, .unset, .unset] [(.int (69 : Int32)), (.int (f_pick i4))])) (fun t k => XS.bipush N1.here hx rfl (hb hby at_302) k) ?_
            by_cases c39 : (f_pick i4) = (69 : Int32)
            · refine Ends.go (f' := (mkF m 307 #[.val (.int i0), .val (.int i1), .val (.int i2), .val (.int i3), .val (.int i4), .val (.int i5), .val (.int ((i0 &&& (2147483647 : Int32)) % (7 : Int32))), .val (.int (f_pick i1)), .val (.int (f_pick i2)), .val (.int (f_pick i3)), .val (.int (f_pick i4)), .val (.int (f_pick i5)), .val sv, .val (.int bo27), .unset, .unset, .unset] [])) (fun t k => XS.icmpNo N1.here hx rfl (hb hby at_304) rfl (XT.ii_ne_f c39) k) ?_
              refine Ends.go (f' := (mkF m 308 #[.val (.int i0), .val (.int i1), .val (.int i2), .val (.int i3), .val (.int i4), .val (.int i5), .val (.int ((i0 &&& (2147483647 : Int32)) % (7 : Int32))), .val (.int (f_pick i1)), .val (.int (f_pick i2)), .val (.int (f_pick i3)), .val (.int (f_pick i4)), .val (.int (f_pick i5)), .val sv, .val (.int bo27), .unset, .unset, .unset] [(.int (1 : Int32))])) (fun t k => XS.iconst N1.here hx rfl (hb hby at_307) k) ?_
              refine Ends.go (f' := (mkF m 312 #[.val (.int i0), .val (.int i1), .val (.int i2), .val (.int i3), .val (.int i4), .val (.int i5), .val (.int ((i0 &&& (2147483647 : Int32)) % (7 : Int32))), .val (.int (f_pick i1)), .val (.int (f_pick i2)), .val (.int (f_pick i3)), .val (.int (f_pick i4)), .val (.int (f_pick i5)), .val sv, .val (.int bo27), .unset, .unset, .unset] [(.int (1 : Int32))])) (fun t k => XS.goto N1.here hx rfl (pc0 := 308) (pc' := 312) rfl (hb hby at_308) (by decide) (by decide) k) ?_
              exact J33 (1 : Int32) (by simp [c36, c37, c38, c39])
            · refine Ends.go (f' := (mkF m 311 #[.val (.int i0), .val (.int i1), .val (.int i2), .val (.int i3), .val (.int i4), .val (.int i5), .val (.int ((i0 &&& (2147483647 : Int32)) % (7 : Int32))), .val (.int (f_pick i1)), .val (.int (f_pick i2)), .val (.int (f_pick i3)), .val (.int (f_pick i4)), .val (.int (f_pick i5)), .val sv, .val (.int bo27), .unset, .unset, .unset] [])) (fun t k => XS.icmpYes N1.here hx rfl (pc0 := 304) (pc' := 311) rfl (hb hby at_304) rfl (XT.ii_ne_t c39) (by decide) (by decide) k) ?_
              refine Ends.go (f' := (mkF m 312 #[.val (.int i0), .val (.int i1), .val (.int i2), .val (.int i3), .val (.int i4), .val (.int i5), .val (.int ((i0 &&& (2147483647 : Int32)) % (7 : Int32))), .val (.int (f_pick i1)), .val (.int (f_pick i2)), .val (.int (f_pick i3)), .val (.int (f_pick i4)), .val (.int (f_pick i5)), .val sv, .val (.int bo27), .unset, .unset, .unset] [(.int (0 : Int32))])) (fun t k => XS.iconst N1.here hx rfl (hb hby at_311) k) ?_
              exact J33 (0 : Int32) (by simp [c36, c37, c38, c39])
          · refine Ends.go (f' := (mkF m 311 #[.val (.int i0), .val (.int i1), .val (.int i2), .val (.int i3), .val (.int i4), .val (.int i5), .val (.int ((i0 &&& (2147483647 : Int32)) % (7 : Int32))), .val (.int (f_pick i1)), .val (.int (f_pick i2)), .val (.int (f_pick i3)), .val (.int (f_pick i4)), .val (.int (f_pick i5)), .val sv, .val (.int bo27), .unset, .unset, .unset] [])) (fun t k => XS.icmpYes N1.here hx rfl (pc0 := 297) (pc' := 311) rfl (hb hby at_297) rfl (XT.ii_ne_t c38) (by decide) (by decide) k) ?_
            refine Ends.go (f' := (mkF m 312 #[.val (.int i0), .val (.int i1), .val (.int i2), .val (.int i3), .val (.int i4), .val (.int i5), .val (.int ((i0 &&& (2147483647 : Int32)) % (7 : Int32))), .val (.int (f_pick i1)), .val (.int (f_pick i2)), .val (.int (f_pick i3)), .val (.int (f_pick i4)), .val (.int (f_pick i5)), .val sv, .val (.int bo27), .unset, .unset, .unset] [(.int (0 : Int32))])) (fun t k => XS.iconst N1.here hx rfl (hb hby at_311) k) ?_
            exact J33 (0 : Int32) (by simp [c36, c37, c38])
        · refine Ends.go (f' := (mkF m 311 #[.val (.int i0), .val (.int i1), .val (.int i2), .val (.int i3), .val (.int i4), .val (.int i5), .val (.int ((i0 &&& (2147483647 : Int32)) % (7 : Int32))), .val (.int (f_pick i1)), .val (.int (f_pick i2)), .val (.int (f_pick i3)), .val (.int (f_pick i4)), .val (.int (f_pick i5)), .val sv, .val (.int bo27), .unset, .unset, .unset] [])) (fun t k => XS.icmpYes N1.here hx rfl (pc0 := 290) (pc' := 311) rfl (hb hby at_290) rfl (XT.ii_ne_t c37) (by decide) (by decide) k) ?_
          refine Ends.go (f' := (mkF m 312 #[.val (.int i0), .val (.int i1), .val (.int i2), .val (.int i3), .val (.int i4), .val (.int i5), .val (.int ((i0 &&& (2147483647 : Int32)) % (7 : Int32))), .val (.int (f_pick i1)), .val (.int (f_pick i2)), .val (.int (f_pick i3)), .val (.int (f_pick i4)), .val (.int (f_pick i5)), .val sv, .val (.int bo27), .unset, .unset, .unset] [(.int (0 : Int32))])) (fun t k => XS.iconst N1.here hx rfl (hb hby at_311) k) ?_
          exact J33 (0 : Int32) (by simp [c36, c37])
      · refine Ends.go (f' := (mkF m 311 #[.val (.int i0), .val (.int i1), .val (.int i2), .val (.int i3), .val (.int i4), .val (.int i5), .val (.int ((i0 &&& (2147483647 : Int32)) % (7 : Int32))), .val (.int (f_pick i1)), .val (.int (f_pick i2)), .val (.int (f_pick i3)), .val (.int (f_pick i4)), .val (.int (f_pick i5)), .val sv, .val (.int bo27), .unset, .unset, .unset] [])) (fun t k => XS.icmpYes N1.here hx rfl (pc0 := 283) (pc' := 311) rfl (hb hby at_283) rfl (XT.ii_ne_t c36) (by decide) (by decide) k) ?_
        refine Ends.go (f' := (mkF m 312 #[.val (.int i0), .val (.int i1), .val (.int i2), .val (.int i3), .val (.int i4), .val (.int i5), .val (.int ((i0 &&& (2147483647 : Int32)) % (7 : Int32))), .val (.int (f_pick i1)), .val (.int (f_pick i2)), .val (.int (f_pick i3)), .val (.int (f_pick i4)), .val (.int (f_pick i5)), .val sv, .val (.int bo27), .unset, .unset, .unset] [(.int (0 : Int32))])) (fun t k => XS.iconst N1.here hx rfl (hb hby at_311) k) ?_
        exact J33 (0 : Int32) (by simp [c36])
    intro bo34 hbo35
    refine Ends.go (f' := (mkF m 314 #[.val (.int i0), .val (.int i1), .val (.int i2), .val (.int i3), .val (.int i4), .val (.int i5), .val (.int ((i0 &&& (2147483647 : Int32)) % (7 : Int32))), .val (.int (f_pick i1)), .val (.int (f_pick i2)), .val (.int (f_pick i3)), .val (.int (f_pick i4)), .val (.int (f_pick i5)), .val sv, .val (.int bo27), .val (.int bo34), .unset, .unset] [])) (fun t k => XS.istore N1.here hx rfl (hb hby at_312) rfl (l' := #[.val (.int i0), .val (.int i1), .val (.int i2), .val (.int i3), .val (.int i4), .val (.int i5), .val (.int ((i0 &&& (2147483647 : Int32)) % (7 : Int32))), .val (.int (f_pick i1)), .val (.int (f_pick i2)), .val (.int (f_pick i3)), .val (.int (f_pick i4)), .val (.int (f_pick i5)), .val sv, .val (.int bo27), .val (.int bo34), .unset, .unset]) rfl k) ?_
    suffices J40 : ∀ bo41 : Int32, bo41 = (if (f_pick i1) = (84 : Int32) ∧ (f_pick i2) = (114 : Int32) ∧ (f_pick i3) = (117 : Int32) ∧ (f_pick i4) = (101 : Int32) then (1 : Int32) else (0 : Int32)) → Ends p e below (PhiW Z s consts_1 (fun v _ => v = some (.int 1)) room_1.cells room_1.slots) T1 (mkF m 347 #[.val (.int i0), .val (.int i1), .val (.int i2), .val (.int i3), .val (.int i4), .val (.int i5), .val (.int ((i0 &&& (2147483647 : Int32)) % (7 : Int32))), .val (.int (f_pick i1)), .val (.int (f_pick i2)), .val (.int (f_pick i3)), .val (.int (f_pick i4)), .val (.int (f_pick i5)), .val sv, .val (.int bo27), .val (.int bo34), .unset, .unset] [(.int bo41)]) by
      refine Ends.go (f' := (mkF m 316 #[.val (.int i0), .val (.int i1), .val (.int i2), .val (.int i3), .val (.int i4), .val (.int i5), .val (.int ((i0 &&& (2147483647 : Int32)) % (7 : Int32))), .val (.int (f_pick i1)), .val (.int (f_pick i2)), .val (.int (f_pick i3)), .val (.int (f_pick i4)), .val (.int (f_pick i5)), .val sv, .val (.int bo27), .val (.int bo34), .unset, .unset] [(.int (f_pick i1))])) (fun t k => XS.iload N1.here hx rfl (hb hby at_314) rfl k) ?_
      refine Ends.go (f' := (mkF m 318 #[.val (.int i0), .val (.int i1), .val (.int i2), .val (.int i3), .val (.int i4), .val (.int i5), .val (.int ((i0 &&& (2147483647 : Int32)) % (7 : Int32))), .val (.int (f_pick i1)), .val (.int (f_pick i2)), .val (.int (f_pick i3)), .val (.int (f_pick i4)), .val (.int (f_pick i5)), .val sv, .val (.int bo27), .val (.int bo34), .unset, .unset] [(.int (84 : Int32)), (.int (f_pick i1))])) (fun t k => XS.bipush N1.here hx rfl (hb hby at_316) k) ?_
      by_cases c43 : (f_pick i1) = (84 : Int32)
      · refine Ends.go (f' := (mkF m 321 #[.val (.int i0), .val (.int i1), .val (.int i2), .val (.int i3), .val (.int i4), .val (.int i5), .val (.int ((i0 &&& (2147483647 : Int32)) % (7 : Int32))), .val (.int (f_pick i1)), .val (.int (f_pick i2)), .val (.int (f_pick i3)), .val (.int (f_pick i4)), .val (.int (f_pick i5)), .val sv, .val (.int bo27), .val (.int bo34), .unset, .unset] [])) (fun t k => XS.icmpNo N1.here hx rfl (hb hby at_318) rfl (XT.ii_ne_f c43) k) ?_
        refine Ends.go (f' := (mkF m 323 #[.val (.int i0), .val (.int i1), .val (.int i2), .val (.int i3), .val (.int i4), .val (.int i5), .val (.int ((i0 &&& (2147483647 : Int32)) % (7 : Int32))), .val (.int (f_pick i1)), .val (.int (f_pick i2)), .val (.int (f_pick i3)), .val (.int (f_pick i4)), .val (.int (f_pick i5)), .val sv, .val (.int bo27), .val (.int bo34), .unset, .unset] [(.int (f_pick i2))])) (fun t k => XS.iload N1.here hx rfl (hb hby at_321) rfl k) ?_
        refine Ends.go (f' := (mkF m 325 #[.val (.int i0), .val (.int i1), .val (.int i2), .val (.int i3), .val (.int i4), .val (.int i5), .val (.int ((i0 &&& (2147483647 : Int32)) % (7 : Int32))), .val (.int (f_pick i1)), .val (.int (f_pick i2)), .val (.int (f_pick i3)), .val (.int (f_pick i4)), .val (.int (f_pick i5)), .val sv, .val (.int bo27), .val (.int bo34), .unset, .unset] [(.int (114 : Int32)), (.int (f_pick i2))])) (fun t k => XS.bipush N1.here hx rfl (hb hby at_323) k) ?_
        by_cases c44 : (f_pick i2) = (114 : Int32)
        · refine Ends.go (f' := (mkF m 328 #[.val (.int i0), .val (.int i1), .val (.int i2), .val (.int i3), .val (.int i4), .val (.int i5), .val (.int ((i0 &&& (2147483647 : Int32)) % (7 : Int32))), .val (.int (f_pick i1)), .val (.int (f_pick i2)), .val (.int (f_pick i3)), .val (.int (f_pick i4)), .val (.int (f_pick i5)), .val sv, .val (.int bo27), .val (.int bo34), .unset, .unset] [])) (fun t k => XS.icmpNo N1.here hx rfl (hb hby at_325) rfl (XT.ii_ne_f c44) k) ?_
          refine Ends.go (f' := (mkF m 330 #[.val (.int i0), .val (.int i1), .val (.int i2), .val (.int i3), .val (.int i4), .val (.int i5), .val (.int ((i0 &&& (2147483647 : Int32)) % (7 : Int32))), .val (.int (f_pick i1)), .val (.int (f_pick i2)), .val (.int (f_pick i3)), .val (.int (f_pick i4)), .val (.int (f_pick i5)), .val sv, .val (.int bo27), .val (.int bo34), .unset, .unset] [(.int (f_pick i3))])) (fun t k => XS.iload N1.here hx rfl (hb hby at_328) rfl k) ?_
          refine Ends.go (f' := (mkF m 332 #[.val (.int i0), .val (.int i1), .val (.int i2), .val (.int i3), .val (.int i4), .val (.int i5), .val (.int ((i0 &&& (2147483647 : Int32)) % (7 : Int32))), .val (.int (f_pick i1)), .val (.int (f_pick i2)), .val (.int (f_pick i3)), .val (.int (f_pick i4)), .val (.int (f_pick i5)), .val sv, .val (.int bo27), .val (.int bo34), .unset, .unset] [(.int (117 : Int32)), (.int (f_pick i3))])) (fun t k => XS.bipush N1.here hx rfl (hb hby at_330) k) ?_
          by_cases c45 : (f_pick i3) = (117 : Int32)
          · refine Ends.go (f' := (mkF m 335 #[.val (.int i0), .val (.int i1), .val (.int i2), .val (.int i3), .val (.int i4), .val (.int i5), .val (.int ((i0 &&& (2147483647 : Int32)) % (7 : Int32))), .val (.int (f_pick i1)), .val (.int (f_pick i2)), .val (.int (f_pick i3)), .val (.int (f_pick i4)), .val (.int (f_pick i5)), .val sv, .val (.int bo27), .val (.int bo34), .unset, .unset] [])) (fun t k => XS.icmpNo N1.here hx rfl (hb hby at_332) rfl (XT.ii_ne_f c45) k) ?_
            refine Ends.go (f' := (mkF m 337 #[.val (.int i0), .val (.int i1), .val (.int i2), .val (.int i3), .val (.int i4), .val (.int i5), .val (.int ((i0 &&& (2147483647 : Int32)) % (7 : Int32))), .val (.int (f_pick i1)), .val (.int (f_pick i2)), .val (.int (f_pick i3)), .val (.int (f_pick i4)), .val (.int (f_pick i5)), .val sv, .val (.int bo27), .val (.int bo34), .unset, .unset] [(.int (f_pick i4))])) (fun t k => XS.iload N1.here hx rfl (hb hby at_335) rfl k) ?_
            refine Ends.go (f' := (mkF m 339 #[.val (.int i0), .val (.int i1), .val (.int i2), .val (.int i3), .val (.int i4), .val (.int i5), .val (.int ((i0 &&& (2147483647 : Int32)) % (7 : Int32))), .val (.int (f_pick i1)), .val (.int (f_pick i2)), .val (.int (f_pick i3)), .val (.int (f_pick i4)), .val (.int (f_pick i5)), .val sv, .val (.int bo27), .val (.int bo34), .unset, .unset] [(.int (101 : Int32)), (.int (f_pick i4))])) (fun t k => XS.bipush N1.here hx rfl (hb hby at_337) k) ?_
            by_cases c46 : (f_pick i4) = (101 : Int32)
            · refine Ends.go (f' := (mkF m 342 #[.val (.int i0), .val (.int i1), .val (.int i2), .val (.int i3), .val (.int i4), .val (.int i5), .val (.int ((i0 &&& (2147483647 : Int32)) % (7 : Int32))), .val (.int (f_pick i1)), .val (.int (f_pick i2)), .val (.int (f_pick i3)), .val (.int (f_pick i4)), .val (.int (f_pick i5)), .val sv, .val (.int bo27), .val (.int bo34), .unset, .unset] [])) (fun t k => XS.icmpNo N1.here hx rfl (hb hby at_339) rfl (XT.ii_ne_f c46) k) ?_
              refine Ends.go (f' := (mkF m 343 #[.val (.int i0), .val (.int i1), .val (.int i2), .val (.int i3), .val (.int i4), .val (.int i5), .val (.int ((i0 &&& (2147483647 : Int32)) % (7 : Int32))), .val (.int (f_pick i1)), .val (.int (f_pick i2)), .val (.int (f_pick i3)), .val (.int (f_pick i4)), .val (.int (f_pick i5)), .val sv, .val (.int bo27), .val (.int bo34), .unset, .unset] [(.int (1 : Int32))])) (fun t k => XS.iconst N1.here hx rfl (hb hby at_342) k) ?_
              refine Ends.go (f' := (mkF m 347 #[.val (.int i0), .val (.int i1), .val (.int i2), .val (.int i3), .val (.int i4), .val (.int i5), .val (.int ((i0 &&& (2147483647 : Int32)) % (7 : Int32))), .val (.int (f_pick i1)), .val (.int (f_pick i2)), .val (.int (f_pick i3)), .val (.int (f_pick i4)), .val (.int (f_pick i5)), .val sv, .val (.int bo27), .val (.int bo34), .unset, .unset] [(.int (1 : Int32))])) (fun t k => XS.goto N1.here hx rfl (pc0 := 343) (pc' := 347) rfl (hb hby at_343) (by decide) (by decide) k) ?_
              exact J40 (1 : Int32) (by simp [c43, c44, c45, c46])
            · refine Ends.go (f' := (mkF m 346 #[.val (.int i0), .val (.int i1), .val (.int i2), .val (.int i3), .val (.int i4), .val (.int i5), .val (.int ((i0 &&& (2147483647 : Int32)) % (7 : Int32))), .val (.int (f_pick i1)), .val (.int (f_pick i2)), .val (.int (f_pick i3)), .val (.int (f_pick i4)), .val (.int (f_pick i5)), .val sv, .val (.int bo27), .val (.int bo34), .unset, .unset] [])) (fun t k => XS.icmpYes N1.here hx rfl (pc0 := 339) (pc' := 346) rfl (hb hby at_339) rfl (XT.ii_ne_t c46) (by decide) (by decide) k) ?_
              refine Ends.go (f' := (mkF m 347 #[.val (.int i0), .val (.int i1), .val (.int i2), .val (.int i3), .val (.int i4), .val (.int i5), .val (.int ((i0 &&& (2147483647 : Int32)) % (7 : Int32))), .val (.int (f_pick i1)), .val (.int (f_pick i2)), .val (.int (f_pick i3)), .val (.int (f_pick i4)), .val (.int (f_pick i5)), .val sv, .val (.int bo27), .val (.int bo34), .unset, .unset] [(.int (0 : Int32))])) (fun t k => XS.iconst N1.here hx rfl (hb hby at_346) k) ?_
              exact J40 (0 : Int32) (by simp [c43, c44, c45, c46])
          · refine Ends.go (f' := (mkF m 346 #[.val (.int i0), .val (.int i1), .val (.int i2), .val (.int i3), .val (.int i4), .val (.int i5), .val (.int ((i0 &&& (2147483647 : Int32)) % (7 : Int32))), .val (.int (f_pick i1)), .val (.int (f_pick i2)), .val (.int (f_pick i3)), .val (.int (f_pick i4)), .val (.int (f_pick i5)), .val sv, .val (.int bo27), .val (.int bo34), .unset, .unset] [])) (fun t k => XS.icmpYes N1.here hx rfl (pc0 := 332) (pc' := 346) rfl (hb hby at_332) rfl (XT.ii_ne_t c45) (by decide) (by decide) k) ?_
            refine Ends.go (f' := (mkF m 347 #[.val (.int i0), .val (.int i1), .val (.int i2), .val (.int i3), .val (.int i4), .val (.int i5), .val (.int ((i0 &&& (2147483647 : Int32)) % (7 : Int32))), .val (.int (f_pick i1)), .val (.int (f_pick i2)), .val (.int (f_pick i3)), .val (.int (f_pick i4)), .val (.int (f_pick i5)), .val sv, .val (.int bo27), .val (.int bo34), .unset, .unset] [(.int (0 : Int32))])) (fun t k => XS.iconst N1.here hx rfl (hb hby at_346) k) ?_
            exact J40 (0 : Int32) (by simp [c43, c44, c45])
        · refine Ends.go (f' := (mkF m 346 #[.val (.int i0), .val (.int i1), .val (.int i2), .val (.int i3), .val (.int i4), .val (.int i5), .val (.int ((i0 &&& (2147483647 : Int32)) % (7 : Int32))), .val (.int (f_pick i1)), .val (.int (f_pick i2)), .val (.int (f_pick i3)), .val (.int (f_pick i4)), .val (.int (f_pick i5)), .val sv, .val (.int bo27), .val (.int bo34), .unset, .unset] [])) (fun t k => XS.icmpYes N1.here hx rfl (pc0 := 325) (pc' := 346) rfl (hb hby at_325) rfl (XT.ii_ne_t c44) (by decide) (by decide) k) ?_
          refine Ends.go (f' := (mkF m 347 #[.val (.int i0), .val (.int i1), .val (.int i2), .val (.int i3), .val (.int i4), .val (.int i5), .val (.int ((i0 &&& (2147483647 : Int32)) % (7 : Int32))), .val (.int (f_pick i1)), .val (.int (f_pick i2)), .val (.int (f_pick i3)), .val (.int (f_pick i4)), .val (.int (f_pick i5)), .val sv, .val (.int bo27), .val (.int bo34), .unset, .unset] [(.int (0 : Int32))])) (fun t k => XS.iconst N1.here hx rfl (hb hby at_346) k) ?_
          exact J40 (0 : Int32) (by simp [c43, c44])
      · refine Ends.go (f' := (mkF m 346 #[.val (.int i0), .val (.int i1), .val (.int i2), .val (.int i3), .val (.int i4), .val (.int i5), .val (.int ((i0 &&& (2147483647 : Int32)) % (7 : Int32))), .val (.int (f_pick i1)), .val (.int (f_pick i2)), .val (.int (f_pick i3)), .val (.int (f_pick i4)), .val (.int (f_pick i5)), .val sv, .val (.int bo27), .val (.int bo34), .unset, .unset] [])) (fun t k => XS.icmpYes N1.here hx rfl (pc0 := 318) (pc' := 346) rfl (hb hby at_318) rfl (XT.ii_ne_t c43) (by decide) (by decide) k) ?_
        refine Ends.go (f' := (mkF m 347 #[.val (.int i0), .val (.int i1), .val (.int i2), .val (.int i3), .val (.int i4), .val (.int i5), .val (.int ((i0 &&& (2147483647 : Int32)) % (7 : Int32))), .val (.int (f_pick i1)), .val (.int (f_pick i2)), .val (.int (f_pick i3)), .val (.int (f_pick i4)), .val (.int (f_pick i5)), .val sv, .val (.int bo27), .val (.int bo34), .unset, .unset] [(.int (0 : Int32))])) (fun t k => XS.iconst N1.here hx rfl (hb hby at_346) k) ?_
        exact J40 (0 : Int32) (by simp [c43])
    intro bo41 hbo42
    refine Ends.go (f' := (mkF m 349 #[.val (.int i0), .val (.int i1), .val (.int i2), .val (.int i3), .val (.int i4), .val (.int i5), .val (.int ((i0 &&& (2147483647 : Int32)) % (7 : Int32))), .val (.int (f_pick i1)), .val (.int (f_pick i2)), .val (.int (f_pick i3)), .val (.int (f_pick i4)), .val (.int (f_pick i5)), .val sv, .val (.int bo27), .val (.int bo34), .val (.int bo41), .unset] [])) (fun t k => XS.istore N1.here hx rfl (hb hby at_347) rfl (l' := #[.val (.int i0), .val (.int i1), .val (.int i2), .val (.int i3), .val (.int i4), .val (.int i5), .val (.int ((i0 &&& (2147483647 : Int32)) % (7 : Int32))), .val (.int (f_pick i1)), .val (.int (f_pick i2)), .val (.int (f_pick i3)), .val (.int (f_pick i4)), .val (.int (f_pick i5)), .val sv, .val (.int bo27), .val (.int bo34), .val (.int bo41), .unset]) rfl k) ?_
    suffices J47 : ∀ bo48 : Int32, bo48 = (if ((i0 &&& (2147483647 : Int32)) % (7 : Int32)) = (4 : Int32) ∧ (¬ bo27 = 0 ∨ ¬ bo34 = 0 ∨ ¬ bo41 = 0) then (1 : Int32) else (0 : Int32)) → Ends p e below (PhiW Z s consts_1 (fun v _ => v = some (.int 1)) room_1.cells room_1.slots) T1 (mkF m 375 #[.val (.int i0), .val (.int i1), .val (.int i2), .val (.int i3), .val (.int i4), .val (.int i5), .val (.int ((i0 &&& (2147483647 : Int32)) % (7 : Int32))), .val (.int (f_pick i1)), .val (.int (f_pick i2)), .val (.int (f_pick i3)), .val (.int (f_pick i4)), .val (.int (f_pick i5)), .val sv, .val (.int bo27), .val (.int bo34), .val (.int bo41), .unset] [(.int bo48)]) by
      refine Ends.go (f' := (mkF m 351 #[.val (.int i0), .val (.int i1), .val (.int i2), .val (.int i3), .val (.int i4), .val (.int i5), .val (.int ((i0 &&& (2147483647 : Int32)) % (7 : Int32))), .val (.int (f_pick i1)), .val (.int (f_pick i2)), .val (.int (f_pick i3)), .val (.int (f_pick i4)), .val (.int (f_pick i5)), .val sv, .val (.int bo27), .val (.int bo34), .val (.int bo41), .unset] [(.int ((i0 &&& (2147483647 : Int32)) % (7 : Int32)))])) (fun t k => XS.iload N1.here hx rfl (hb hby at_349) rfl k) ?_
      refine Ends.go (f' := (mkF m 352 #[.val (.int i0), .val (.int i1), .val (.int i2), .val (.int i3), .val (.int i4), .val (.int i5), .val (.int ((i0 &&& (2147483647 : Int32)) % (7 : Int32))), .val (.int (f_pick i1)), .val (.int (f_pick i2)), .val (.int (f_pick i3)), .val (.int (f_pick i4)), .val (.int (f_pick i5)), .val sv, .val (.int bo27), .val (.int bo34), .val (.int bo41), .unset] [(.int (4 : Int32)), (.int ((i0 &&& (2147483647 : Int32)) % (7 : Int32)))])) (fun t k => XS.iconst N1.here hx rfl (hb hby at_351) k) ?_
      by_cases c50 : ((i0 &&& (2147483647 : Int32)) % (7 : Int32)) = (4 : Int32)
      · refine Ends.go (f' := (mkF m 355 #[.val (.int i0), .val (.int i1), .val (.int i2), .val (.int i3), .val (.int i4), .val (.int i5), .val (.int ((i0 &&& (2147483647 : Int32)) % (7 : Int32))), .val (.int (f_pick i1)), .val (.int (f_pick i2)), .val (.int (f_pick i3)), .val (.int (f_pick i4)), .val (.int (f_pick i5)), .val sv, .val (.int bo27), .val (.int bo34), .val (.int bo41), .unset] [])) (fun t k => XS.icmpNo N1.here hx rfl (hb hby at_352) rfl (XT.ii_ne_f c50) k) ?_
        refine Ends.go (f' := (mkF m 357 #[.val (.int i0), .val (.int i1), .val (.int i2), .val (.int i3), .val (.int i4), .val (.int i5), .val (.int ((i0 &&& (2147483647 : Int32)) % (7 : Int32))), .val (.int (f_pick i1)), .val (.int (f_pick i2)), .val (.int (f_pick i3)), .val (.int (f_pick i4)), .val (.int (f_pick i5)), .val sv, .val (.int bo27), .val (.int bo34), .val (.int bo41), .unset] [(.int bo27)])) (fun t k => XS.iload N1.here hx rfl (hb hby at_355) rfl k) ?_
        by_cases c51 : bo27 = 0
        · refine Ends.go (f' := (mkF m 360 #[.val (.int i0), .val (.int i1), .val (.int i2), .val (.int i3), .val (.int i4), .val (.int i5), .val (.int ((i0 &&& (2147483647 : Int32)) % (7 : Int32))), .val (.int (f_pick i1)), .val (.int (f_pick i2)), .val (.int (f_pick i3)), .val (.int (f_pick i4)), .val (.int (f_pick i5)), .val sv, .val (.int bo27), .val (.int bo34), .val (.int bo41), .unset] [])) (fun t k => XS.ifNo N1.here hx rfl (hb hby at_357) rfl (XT.i0_ne_f c51) k) ?_
          refine Ends.go (f' := (mkF m 362 #[.val (.int i0), .val (.int i1), .val (.int i2), .val (.int i3), .val (.int i4), .val (.int i5), .val (.int ((i0 &&& (2147483647 : Int32)) % (7 : Int32))), .val (.int (f_pick i1)), .val (.int (f_pick i2)), .val (.int (f_pick i3)), .val (.int (f_pick i4)), .val (.int (f_pick i5)), .val sv, .val (.int bo27), .val (.int bo34), .val (.int bo41), .unset] [(.int bo34)])) (fun t k => XS.iload N1.here hx rfl (hb hby at_360) rfl k) ?_
          by_cases c52 : bo34 = 0
          · refine Ends.go (f' := (mkF m 365 #[.val (.int i0), .val (.int i1), .val (.int i2), .val (.int i3), .val (.int i4), .val (.int i5), .val (.int ((i0 &&& (2147483647 : Int32)) % (7 : Int32))), .val (.int (f_pick i1)), .val (.int (f_pick i2)), .val (.int (f_pick i3)), .val (.int (f_pick i4)), .val (.int (f_pick i5)), .val sv, .val (.int bo27), .val (.int bo34), .val (.int bo41), .unset] [])) (fun t k => XS.ifNo N1.here hx rfl (hb hby at_362) rfl (XT.i0_ne_f c52) k) ?_
            refine Ends.go (f' := (mkF m 367 #[.val (.int i0), .val (.int i1), .val (.int i2), .val (.int i3), .val (.int i4), .val (.int i5), .val (.int ((i0 &&& (2147483647 : Int32)) % (7 : Int32))), .val (.int (f_pick i1)), .val (.int (f_pick i2)), .val (.int (f_pick i3)), .val (.int (f_pick i4)), .val (.int (f_pick i5)), .val sv, .val (.int bo27), .val (.int bo34), .val (.int bo41), .unset] [(.int bo41)])) (fun t k => XS.iload N1.here hx rfl (hb hby at_365) rfl k) ?_
            by_cases c53 : bo41 = 0
            · refine Ends.go (f' := (mkF m 374 #[.val (.int i0), .val (.int i1), .val (.int i2), .val (.int i3), .val (.int i4), .val (.int i5), .val (.int ((i0 &&& (2147483647 : Int32)) % (7 : Int32))), .val (.int (f_pick i1)), .val (.int (f_pick i2)), .val (.int (f_pick i3)), .val (.int (f_pick i4)), .val (.int (f_pick i5)), .val sv, .val (.int bo27), .val (.int bo34), .val (.int bo41), .unset] [])) (fun t k => XS.ifYes N1.here hx rfl (pc0 := 367) (pc' := 374) rfl (hb hby at_367) rfl (XT.i0_eq_t c53) (by decide) (by decide) k) ?_
              refine Ends.go (f' := (mkF m 375 #[.val (.int i0), .val (.int i1), .val (.int i2), .val (.int i3), .val (.int i4), .val (.int i5), .val (.int ((i0 &&& (2147483647 : Int32)) % (7 : Int32))), .val (.int (f_pick i1)), .val (.int (f_pick i2)), .val (.int (f_pick i3)), .val (.int (f_pick i4)), .val (.int (f_pick i5)), .val sv, .val (.int bo27), .val (.int bo34), .val (.int bo41), .unset] [(.int (0 : Int32))])) (fun t k => XS.iconst N1.here hx rfl (hb hby at_374) k) ?_
              exact J47 (0 : Int32) (by simp [c50, c51, c52, c53])
            · refine Ends.go (f' := (mkF m 370 #[.val (.int i0), .val (.int i1), .val (.int i2), .val (.int i3), .val (.int i4), .val (.int i5), .val (.int ((i0 &&& (2147483647 : Int32)) % (7 : Int32))), .val (.int (f_pick i1)), .val (.int (f_pick i2)), .val (.int (f_pick i3)), .val (.int (f_pick i4)), .val (.int (f_pick i5)), .val sv, .val (.int bo27), .val (.int bo34), .val (.int bo41), .unset] [])) (fun t k => XS.ifNo N1.here hx rfl (hb hby at_367) rfl (XT.i0_eq_f c53) k) ?_
              refine Ends.go (f' := (mkF m 371 #[.val (.int i0), .val (.int i1), .val (.int i2), .val (.int i3), .val (.int i4), .val (.int i5), .val (.int ((i0 &&& (2147483647 : Int32)) % (7 : Int32))), .val (.int (f_pick i1)), .val (.int (f_pick i2)), .val (.int (f_pick i3)), .val (.int (f_pick i4)), .val (.int (f_pick i5)), .val sv, .val (.int bo27), .val (.int bo34), .val (.int bo41), .unset] [(.int (1 : Int32))])) (fun t k => XS.iconst N1.here hx rfl (hb hby at_370) k) ?_
              refine Ends.go (f' := (mkF m 375 #[.val (.int i0), .val (.int i1), .val (.int i2), .val (.int i3), .val (.int i4), .val (.int i5), .val (.int ((i0 &&& (2147483647 : Int32)) % (7 : Int32))), .val (.int (f_pick i1)), .val (.int (f_pick i2)), .val (.int (f_pick i3)), .val (.int (f_pick i4)), .val (.int (f_pick i5)), .val sv, .val (.int bo27), .val (.int bo34), .val (.int bo41), .unset] [(.int (1 : Int32))])) (fun t k => XS.goto N1.here hx rfl (pc0 := 371) (pc' := 375) rfl (hb hby at_371) (by decide) (by decide) k) ?_
              exact J47 (1 : Int32) (by simp [c50, c51, c52, c53])
          · refine Ends.go (f' := (mkF m 370 #[.val (.int i0), .val (.int i1), .val (.int i2), .val (.int i3), .val (.int i4), .val (.int i5), .val (.int ((i0 &&& (2147483647 : Int32)) % (7 : Int32))), .val (.int (f_pick i1)), .val (.int (f_pick i2)), .val (.int (f_pick i3)), .val (.int (f_pick i4)), .val (.int (f_pick i5)), .val sv, .val (.int bo27), .val (.int bo34), .val (.int bo41), .unset] [])) (fun t k => XS.ifYes N1.here hx rfl (pc0 := 362) (pc' := 370) rfl (hb hby at_362) rfl (XT.i0_ne_t c52) (by decide) (by decide) k) ?_
            refine Ends.go (f' := (mkF m 371 #[.val (.int i0), .val (.int i1), .val (.int i2), .val (.int i3), .val (.int i4), .val (.int i5), .val (.int ((i0 &&& (2147483647 : Int32)) % (7 : Int32))), .val (.int (f_pick i1)), .val (.int (f_pick i2)), .val (.int (f_pick i3)), .val (.int (f_pick i4)), .val (.int (f_pick i5)), .val sv, .val (.int bo27), .val (.int bo34), .val (.int bo41), .unset] [(.int (1 : Int32))])) (fun t k => XS.iconst N1.here hx rfl (hb hby at_370) k) ?_
            refine Ends.go (f' := (mkF m 375 #[.val (.int i0), .val (.int i1), .val (.int i2), .val (.int i3), .val (.int i4), .val (.int i5), .val (.int ((i0 &&& (2147483647 : Int32)) % (7 : Int32))), .val (.int (f_pick i1)), .val (.int (f_pick i2)), .val (.int (f_pick i3)), .val (.int (f_pick i4)), .val (.int (f_pick i5)), .val sv, .val (.int bo27), .val (.int bo34), .val (.int bo41), .unset] [(.int (1 : Int32))])) (fun t k => XS.goto N1.here hx rfl (pc0 := 371) (pc' := 375) rfl (hb hby at_371) (by decide) (by decide) k) ?_
            exact J47 (1 : Int32) (by simp [c50, c51, c52])
        · refine Ends.go (f' := (mkF m 370 #[.val (.int i0), .val (.int i1), .val (.int i2), .val (.int i3), .val (.int i4), .val (.int i5), .val (.int ((i0 &&& (2147483647 : Int32)) % (7 : Int32))), .val (.int (f_pick i1)), .val (.int (f_pick i2)), .val (.int (f_pick i3)), .val (.int (f_pick i4)), .val (.int (f_pick i5)), .val sv, .val (.int bo27), .val (.int bo34), .val (.int bo41), .unset] [])) (fun t k => XS.ifYes N1.here hx rfl (pc0 := 357) (pc' := 370) rfl (hb hby at_357) rfl (XT.i0_ne_t c51) (by decide) (by decide) k) ?_
          refine Ends.go (f' := (mkF m 371 #[.val (.int i0), .val (.int i1), .val (.int i2), .val (.int i3), .val (.int i4), .val (.int i5), .val (.int ((i0 &&& (2147483647 : Int32)) % (7 : Int32))), .val (.int (f_pick i1)), .val (.int (f_pick i2)), .val (.int (f_pick i3)), .val (.int (f_pick i4)), .val (.int (f_pick i5)), .val sv, .val (.int bo27), .val (.int bo34), .val (.int bo41), .unset] [(.int (1 : Int32))])) (fun t k => XS.iconst N1.here hx rfl (hb hby at_370) k) ?_
          refine Ends.go (f' := (mkF m 375 #[.val (.int i0), .val (.int i1), .val (.int i2), .val (.int i3), .val (.int i4), .val (.int i5), .val (.int ((i0 &&& (2147483647 : Int32)) % (7 : Int32))), .val (.int (f_pick i1)), .val (.int (f_pick i2)), .val (.int (f_pick i3)), .val (.int (f_pick i4)), .val (.int (f_pick i5)), .val sv, .val (.int bo27), .val (.int bo34), .val (.int bo41), .unset] [(.int (1 : Int32))])) (fun t k => XS.goto N1.here hx rfl (pc0 := 371) (pc' := 375) rfl (hb hby at_371) (by decide) (by decide) k) ?_
          exact J47 (1 : Int32) (by simp [c50, c51])
      · refine Ends.go (f' := (mkF m 374 #[.val (.int i0), .val (.int i1), .val (.int i2), .val (.int i3), .val (.int i4), .val (.int i5), .val (.int ((i0 &&& (2147483647 : Int32)) % (7 : Int32))), .val (.int (f_pick i1)), .val (.int (f_pick i2)), .val (.int (f_pick i3)), .val (.int (f_pick i4)), .val (.int (f_pick i5)), .val sv, .val (.int bo27), .val (.int bo34), .val (.int bo41), .unset] [])) (fun t k => XS.icmpYes N1.here hx rfl (pc0 := 352) (pc' := 374) rfl (hb hby at_352) rfl (XT.ii_ne_t c50) (by decide) (by decide) k) ?_
        refine Ends.go (f' := (mkF m 375 #[.val (.int i0), .val (.int i1), .val (.int i2), .val (.int i3), .val (.int i4), .val (.int i5), .val (.int ((i0 &&& (2147483647 : Int32)) % (7 : Int32))), .val (.int (f_pick i1)), .val (.int (f_pick i2)), .val (.int (f_pick i3)), .val (.int (f_pick i4)), .val (.int (f_pick i5)), .val sv, .val (.int bo27), .val (.int bo34), .val (.int bo41), .unset] [(.int (0 : Int32))])) (fun t k => XS.iconst N1.here hx rfl (hb hby at_374) k) ?_
        exact J47 (0 : Int32) (by simp [c50])
    intro bo48 hbo49
    refine Ends.go (f' := (mkF m 377 #[.val (.int i0), .val (.int i1), .val (.int i2), .val (.int i3), .val (.int i4), .val (.int i5), .val (.int ((i0 &&& (2147483647 : Int32)) % (7 : Int32))), .val (.int (f_pick i1)), .val (.int (f_pick i2)), .val (.int (f_pick i3)), .val (.int (f_pick i4)), .val (.int (f_pick i5)), .val sv, .val (.int bo27), .val (.int bo34), .val (.int bo41), .val (.int bo48)] [])) (fun t k => XS.istore N1.here hx rfl (hb hby at_375) rfl (l' := #[.val (.int i0), .val (.int i1), .val (.int i2), .val (.int i3), .val (.int i4), .val (.int i5), .val (.int ((i0 &&& (2147483647 : Int32)) % (7 : Int32))), .val (.int (f_pick i1)), .val (.int (f_pick i2)), .val (.int (f_pick i3)), .val (.int (f_pick i4)), .val (.int (f_pick i5)), .val sv, .val (.int bo27), .val (.int bo34), .val (.int bo41), .val (.int bo48)]) rfl k) ?_
    refine Ends.go (f' := (mkF m 379 #[.val (.int i0), .val (.int i1), .val (.int i2), .val (.int i3), .val (.int i4), .val (.int i5), .val (.int ((i0 &&& (2147483647 : Int32)) % (7 : Int32))), .val (.int (f_pick i1)), .val (.int (f_pick i2)), .val (.int (f_pick i3)), .val (.int (f_pick i4)), .val (.int (f_pick i5)), .val sv, .val (.int bo27), .val (.int bo34), .val (.int bo41), .val (.int bo48)] [sv])) (fun t k => XS.aload N1.here hx rfl (hb hby at_377) rfl Sv.isRef k) ?_
    refine gStaticW (W := 0) (argsL := [sv]) (rest := []) N1 hx hZ hown wd1 (hw _ (List.mem_of_getElem? (i := 27) rfl)) (hw _ (List.mem_of_getElem? (i := 28) rfl)) (hw _ (List.mem_of_getElem? (i := 29) rfl)) (hw _ (List.mem_of_getElem? (i := 30) rfl)) (by decide) ((rmIsT l Z a0 hw sv o h1 N1.ext G Sv).back (W := 0) hZ (hw _ (List.mem_of_getElem? (i := 30) rfl)) (hw _ (List.mem_of_getElem? (i := 29) rfl)) (nle rfl) (nle rfl) (elw hw) wd1) (hb hby at_379) rfl (by rw [hml]; rfl) (lenOf (by decide +kernel : parseMethodDescriptor "(Ljava/lang/String;)Z" = some ⟨[(.object "java/lang/String")], (some .boolean)⟩) rfl) (nle rfl) (nle rfl) (nle rfl) (fun _ _ _ q => q.2) ?_
    rintro _ vm54 T55 h56 L59 N57 ⟨⟨rfl, eE⟩, -⟩ hZ hown wd58
    show Ends p e below _ T55 (mkF m 382 #[.val (.int i0), .val (.int i1), .val (.int i2), .val (.int i3), .val (.int i4), .val (.int i5), .val (.int ((i0 &&& (2147483647 : Int32)) % (7 : Int32))), .val (.int (f_pick i1)), .val (.int (f_pick i2)), .val (.int (f_pick i3)), .val (.int (f_pick i4)), .val (.int (f_pick i5)), .val sv, .val (.int bo27), .val (.int bo34), .val (.int bo41), .val (.int bo48)] [(.int (isT o))])
    refine Ends.go (f' := (mkF m 384 #[.val (.int i0), .val (.int i1), .val (.int i2), .val (.int i3), .val (.int i4), .val (.int i5), .val (.int ((i0 &&& (2147483647 : Int32)) % (7 : Int32))), .val (.int (f_pick i1)), .val (.int (f_pick i2)), .val (.int (f_pick i3)), .val (.int (f_pick i4)), .val (.int (f_pick i5)), .val sv, .val (.int bo27), .val (.int bo34), .val (.int bo41), .val (.int bo48)] [(.int bo48), (.int (isT o))])) (fun t k => XS.iload N57.here hx rfl (hb hby at_382) rfl k) ?_
    refine Ends.go (f' := (mkF m 387 #[.val (.int i0), .val (.int i1), .val (.int i2), .val (.int i3), .val (.int i4), .val (.int i5), .val (.int ((i0 &&& (2147483647 : Int32)) % (7 : Int32))), .val (.int (f_pick i1)), .val (.int (f_pick i2)), .val (.int (f_pick i3)), .val (.int (f_pick i4)), .val (.int (f_pick i5)), .val sv, .val (.int bo27), .val (.int bo34), .val (.int bo41), .val (.int bo48)] [])) (fun t k => XS.icmpNo N57.here hx rfl (hb hby at_384) rfl (XT.ii_ne_f (by rw [ho]; exact plain _ _ _ _ _ _ _ _ _ _ hbo28 hbo35 hbo42 hbo49)) k) ?_
    refine Ends.go (f' := (mkF m 388 #[.val (.int i0), .val (.int i1), .val (.int i2), .val (.int i3), .val (.int i4), .val (.int i5), .val (.int ((i0 &&& (2147483647 : Int32)) % (7 : Int32))), .val (.int (f_pick i1)), .val (.int (f_pick i2)), .val (.int (f_pick i3)), .val (.int (f_pick i4)), .val (.int (f_pick i5)), .val sv, .val (.int bo27), .val (.int bo34), .val (.int bo41), .val (.int bo48)] [(.int (1 : Int32))])) (fun t k => XS.iconst N57.here hx rfl (hb hby at_387) k) ?_
    refine Ends.go (f' := (mkF m 392 #[.val (.int i0), .val (.int i1), .val (.int i2), .val (.int i3), .val (.int i4), .val (.int i5), .val (.int ((i0 &&& (2147483647 : Int32)) % (7 : Int32))), .val (.int (f_pick i1)), .val (.int (f_pick i2)), .val (.int (f_pick i3)), .val (.int (f_pick i4)), .val (.int (f_pick i5)), .val sv, .val (.int bo27), .val (.int bo34), .val (.int bo41), .val (.int bo48)] [(.int (1 : Int32))])) (fun t k => XS.goto N57.here hx rfl (pc0 := 388) (pc' := 392) rfl (hb hby at_388) (by decide) (by decide) k) ?_
    exact retZW N57 hZ (elw hw) wd58 hx hlk hret (by simp) (hb hby at_392) rfl (nle rfl) (nle rfl)
  refine Ends.go (f' := (mkF m 1 #[.val (.int i0), .val (.int i1), .val (.int i2), .val (.int i3), .val (.int i4), .val (.int i5), .unset, .unset, .unset, .unset, .unset, .unset, .unset, .unset, .unset, .unset, .unset] [(.int i0)])) (fun t k => XS.iloadN N0.here hx rfl (hb hby at_0) rfl k) ?_
  refine gLdcI N0 hx hZ hown (hw _ (List.mem_of_getElem? (i := 0) rfl)) (hb hby at_1) ?_
  show Ends p e below _ T0 (mkF m 3 #[.val (.int i0), .val (.int i1), .val (.int i2), .val (.int i3), .val (.int i4), .val (.int i5), .unset, .unset, .unset, .unset, .unset, .unset, .unset, .unset, .unset, .unset, .unset] [(.int (2147483647 : Int32)), (.int i0)])
  refine Ends.go (f' := (mkF m 4 #[.val (.int i0), .val (.int i1), .val (.int i2), .val (.int i3), .val (.int i4), .val (.int i5), .unset, .unset, .unset, .unset, .unset, .unset, .unset, .unset, .unset, .unset, .unset] [(.int (i0 &&& (2147483647 : Int32)))])) (fun t k => XS.iand N0.here hx rfl (hb hby at_3) rfl k) ?_
  refine Ends.go (f' := (mkF m 6 #[.val (.int i0), .val (.int i1), .val (.int i2), .val (.int i3), .val (.int i4), .val (.int i5), .unset, .unset, .unset, .unset, .unset, .unset, .unset, .unset, .unset, .unset, .unset] [(.int (7 : Int32)), (.int (i0 &&& (2147483647 : Int32)))])) (fun t k => XS.bipush N0.here hx rfl (hb hby at_4) k) ?_
  refine Ends.go (f' := (mkF m 7 #[.val (.int i0), .val (.int i1), .val (.int i2), .val (.int i3), .val (.int i4), .val (.int i5), .unset, .unset, .unset, .unset, .unset, .unset, .unset, .unset, .unset, .unset, .unset] [(.int ((i0 &&& (2147483647 : Int32)) % (7 : Int32)))])) (fun t k => gIrem N0 hx (hb hby at_6) (by decide) k) ?_
  refine Ends.go (f' := (mkF m 9 #[.val (.int i0), .val (.int i1), .val (.int i2), .val (.int i3), .val (.int i4), .val (.int i5), .val (.int ((i0 &&& (2147483647 : Int32)) % (7 : Int32))), .unset, .unset, .unset, .unset, .unset, .unset, .unset, .unset, .unset, .unset] [])) (fun t k => XS.istore N0.here hx rfl (hb hby at_7) rfl (l' := #[.val (.int i0), .val (.int i1), .val (.int i2), .val (.int i3), .val (.int i4), .val (.int i5), .val (.int ((i0 &&& (2147483647 : Int32)) % (7 : Int32))), .unset, .unset, .unset, .unset, .unset, .unset, .unset, .unset, .unset, .unset]) rfl k) ?_
  refine Ends.go (f' := (mkF m 10 #[.val (.int i0), .val (.int i1), .val (.int i2), .val (.int i3), .val (.int i4), .val (.int i5), .val (.int ((i0 &&& (2147483647 : Int32)) % (7 : Int32))), .unset, .unset, .unset, .unset, .unset, .unset, .unset, .unset, .unset, .unset] [(.int i1)])) (fun t k => XS.iloadN N0.here hx rfl (hb hby at_9) rfl k) ?_
  refine gStatic (W := 0) (argsL := [(.int i1)]) (rest := []) N0 hx hZ hown (hw _ (List.mem_of_getElem? (i := 1) rfl)) (hw _ (List.mem_of_getElem? (i := 2) rfl)) (hw _ (List.mem_of_getElem? (i := 3) rfl)) (hw _ (List.mem_of_getElem? (i := 4) rfl)) (by decide) ((rmPick l Z a0 hw i1 h0 N0.ext).back (W := 0) hZ (hw _ (List.mem_of_getElem? (i := 4) rfl)) (hw _ (List.mem_of_getElem? (i := 3) rfl)) (nle rfl) (nle rfl)) (hb hby at_10) rfl (by rw [hml]; rfl) (lenOf (by decide +kernel : parseMethodDescriptor "(I)C" = some ⟨[.int], (some .char)⟩) rfl) (nle rfl) (nle rfl) (nle rfl) (fun _ _ _ q => q.2) ?_
  rintro _ T1 h3 _ N2 ⟨⟨rfl, E4⟩, -⟩
  have X5 : Ext h0 h3 := ext_trans (ext_refl h0) E4
  show Ends p e below _ T1 (mkF m 13 #[.val (.int i0), .val (.int i1), .val (.int i2), .val (.int i3), .val (.int i4), .val (.int i5), .val (.int ((i0 &&& (2147483647 : Int32)) % (7 : Int32))), .unset, .unset, .unset, .unset, .unset, .unset, .unset, .unset, .unset, .unset] [(.int (f_pick i1))])
  refine Ends.go (f' := (mkF m 15 #[.val (.int i0), .val (.int i1), .val (.int i2), .val (.int i3), .val (.int i4), .val (.int i5), .val (.int ((i0 &&& (2147483647 : Int32)) % (7 : Int32))), .val (.int (f_pick i1)), .unset, .unset, .unset, .unset, .unset, .unset, .unset, .unset, .unset] [])) (fun t k => XS.istore N2.here hx rfl (hb hby at_13) rfl (l' := #[.val (.int i0), .val (.int i1), .val (.int i2), .val (.int i3), .val (.int i4), .val (.int i5), .val (.int ((i0 &&& (2147483647 : Int32)) % (7 : Int32))), .val (.int (f_pick i1)), .unset, .unset, .unset, .unset, .unset, .unset, .unset, .unset, .unset]) rfl k) ?_
  refine Ends.go (f' := (mkF m 16 #[.val (.int i0), .val (.int i1), .val (.int i2), .val (.int i3), .val (.int i4), .val (.int i5), .val (.int ((i0 &&& (2147483647 : Int32)) % (7 : Int32))), .val (.int (f_pick i1)), .unset, .unset, .unset, .unset, .unset, .unset, .unset, .unset, .unset] [(.int i2)])) (fun t k => XS.iloadN N2.here hx rfl (hb hby at_15) rfl k) ?_
  refine gStatic (W := 0) (argsL := [(.int i2)]) (rest := []) N2 hx hZ hown (hw _ (List.mem_of_getElem? (i := 1) rfl)) (hw _ (List.mem_of_getElem? (i := 2) rfl)) (hw _ (List.mem_of_getElem? (i := 3) rfl)) (hw _ (List.mem_of_getElem? (i := 4) rfl)) (by decide) ((rmPick l Z a0 hw i2 h3 N2.ext).back (W := 0) hZ (hw _ (List.mem_of_getElem? (i := 4) rfl)) (hw _ (List.mem_of_getElem? (i := 3) rfl)) (nle rfl) (nle rfl)) (hb hby at_16) rfl (by rw [hml]; rfl) (lenOf (by decide +kernel : parseMethodDescriptor "(I)C" = some ⟨[.int], (some .char)⟩) rfl) (nle rfl) (nle rfl) (nle rfl) (fun _ _ _ q => q.2) ?_
  rintro _ T6 h8 _ N7 ⟨⟨rfl, E9⟩, -⟩
  have X10 : Ext h0 h8 := ext_trans X5 E9
  show Ends p e below _ T6 (mkF m 19 #[.val (.int i0), .val (.int i1), .val (.int i2), .val (.int i3), .val (.int i4), .val (.int i5), .val (.int ((i0 &&& (2147483647 : Int32)) % (7 : Int32))), .val (.int (f_pick i1)), .unset, .unset, .unset, .unset, .unset, .unset, .unset, .unset, .unset] [(.int (f_pick i2))])
  refine Ends.go (f' := (mkF m 21 #[.val (.int i0), .val (.int i1), .val (.int i2), .val (.int i3), .val (.int i4), .val (.int i5), .val (.int ((i0 &&& (2147483647 : Int32)) % (7 : Int32))), .val (.int (f_pick i1)), .val (.int (f_pick i2)), .unset, .unset, .unset, .unset, .unset, .unset, .unset, .unset] [])) (fun t k => XS.istore N7.here hx rfl (hb hby at_19) rfl (l' := #[.val (.int i0), .val (.int i1), .val (.int i2), .val (.int i3), .val (.int i4), .val (.int i5), .val (.int ((i0 &&& (2147483647 : Int32)) % (7 : Int32))), .val (.int (f_pick i1)), .val (.int (f_pick i2)), .unset, .unset, .unset, .unset, .unset, .unset, .unset, .unset]) rfl k) ?_
  refine Ends.go (f' := (mkF m 22 #[.val (.int i0), .val (.int i1), .val (.int i2), .val (.int i3), .val (.int i4), .val (.int i5), .val (.int ((i0 &&& (2147483647 : Int32)) % (7 : Int32))), .val (.int (f_pick i1)), .val (.int (f_pick i2)), .unset, .unset, .unset, .unset, .unset, .unset, .unset, .unset] [(.int i3)])) (fun t k => XS.iloadN N7.here hx rfl (hb hby at_21) rfl k) ?_
  refine gStatic (W := 0) (argsL := [(.int i3)]) (rest := []) N7 hx hZ hown (hw _ (List.mem_of_getElem? (i := 1) rfl)) (hw _ (List.mem_of_getElem? (i := 2) rfl)) (hw _ (List.mem_of_getElem? (i := 3) rfl)) (hw _ (List.mem_of_getElem? (i := 4) rfl)) (by decide) ((rmPick l Z a0 hw i3 h8 N7.ext).back (W := 0) hZ (hw _ (List.mem_of_getElem? (i := 4) rfl)) (hw _ (List.mem_of_getElem? (i := 3) rfl)) (nle rfl) (nle rfl)) (hb hby at_22) rfl (by rw [hml]; rfl) (lenOf (by decide +kernel : parseMethodDescriptor "(I)C" = some ⟨[.int], (some .char)⟩) rfl) (nle rfl) (nle rfl) (nle rfl) (fun _ _ _ q => q.2) ?_
  rintro _ T11 h13 _ N12 ⟨⟨rfl, E14⟩, -⟩
  have X15 : Ext h0 h13 := ext_trans X10 E14
  show Ends p e below _ T11 (mkF m 25 #[.val (.int i0), .val (.int i1), .val (.int i2), .val (.int i3), .val (.int i4), .val (.int i5), .val (.int ((i0 &&& (2147483647 : Int32)) % (7 : Int32))), .val (.int (f_pick i1)), .val (.int (f_pick i2)), .unset, .unset, .unset, .unset, .unset, .unset, .unset, .unset] [(.int (f_pick i3))])
  refine Ends.go (f' := (mkF m 27 #[.val (.int i0), .val (.int i1), .val (.int i2), .val (.int i3), .val (.int i4), .val (.int i5), .val (.int ((i0 &&& (2147483647 : Int32)) % (7 : Int32))), .val (.int (f_pick i1)), .val (.int (f_pick i2)), .val (.int (f_pick i3)), .unset, .unset, .unset, .unset, .unset, .unset, .unset] [])) (fun t k => XS.istore N12.here hx rfl (hb hby at_25) rfl (l' := #[.val (.int i0), .val (.int i1), .val (.int i2), .val (.int i3), .val (.int i4), .val (.int i5), .val (.int ((i0 &&& (2147483647 : Int32)) % (7 : Int32))), .val (.int (f_pick i1)), .val (.int (f_pick i2)), .val (.int (f_pick i3)), .unset, .unset, .unset, .unset, .unset, .unset, .unset]) rfl k) ?_
  refine Ends.go (f' := (mkF m 29 #[.val (.int i0), .val (.int i1), .val (.int i2), .val (.int i3), .val (.int i4), .val (.int i5), .val (.int ((i0 &&& (2147483647 : Int32)) % (7 : Int32))), .val (.int (f_pick i1)), .val (.int (f_pick i2)), .val (.int (f_pick i3)), .unset, .unset, .unset, .unset, .unset, .unset, .unset] [(.int i4)])) (fun t k => XS.iload N12.here hx rfl (hb hby at_27) rfl k) ?_
  refine gStatic (W := 0) (argsL := [(.int i4)]) (rest := []) N12 hx hZ hown (hw _ (List.mem_of_getElem? (i := 1) rfl)) (hw _ (List.mem_of_getElem? (i := 2) rfl)) (hw _ (List.mem_of_getElem? (i := 3) rfl)) (hw _ (List.mem_of_getElem? (i := 4) rfl)) (by decide) ((rmPick l Z a0 hw i4 h13 N12.ext).back (W := 0) hZ (hw _ (List.mem_of_getElem? (i := 4) rfl)) (hw _ (List.mem_of_getElem? (i := 3) rfl)) (nle rfl) (nle rfl)) (hb hby at_29) rfl (by rw [hml]; rfl) (lenOf (by decide +kernel : parseMethodDescriptor "(I)C" = some ⟨[.int], (some .char)⟩) rfl) (nle rfl) (nle rfl) (nle rfl) (fun _ _ _ q => q.2) ?_
  rintro _ T16 h18 _ N17 ⟨⟨rfl, E19⟩, -⟩
  have X20 : Ext h0 h18 := ext_trans X15 E19
  show Ends p e below _ T16 (mkF m 32 #[.val (.int i0), .val (.int i1), .val (.int i2), .val (.int i3), .val (.int i4), .val (.int i5), .val (.int ((i0 &&& (2147483647 : Int32)) % (7 : Int32))), .val (.int (f_pick i1)), .val (.int (f_pick i2)), .val (.int (f_pick i3)), .unset, .unset, .unset, .unset, .unset, .unset, .unset] [(.int (f_pick i4))])
  refine Ends.go (f' := (mkF m 34 #[.val (.int i0), .val (.int i1), .val (.int i2), .val (.int i3), .val (.int i4), .val (.int i5), .val (.int ((i0 &&& (2147483647 : Int32)) % (7 : Int32))), .val (.int (f_pick i1)), .val (.int (f_pick i2)), .val (.int (f_pick i3)), .val (.int (f_pick i4)), .unset, .unset, .unset, .unset, .unset, .unset] [])) (fun t k => XS.istore N17.here hx rfl (hb hby at_32) rfl (l' := #[.val (.int i0), .val (.int i1), .val (.int i2), .val (.int i3), .val (.int i4), .val (.int i5), .val (.int ((i0 &&& (2147483647 : Int32)) % (7 : Int32))), .val (.int (f_pick i1)), .val (.int (f_pick i2)), .val (.int (f_pick i3)), .val (.int (f_pick i4)), .unset, .unset, .unset, .unset, .unset, .unset]) rfl k) ?_
  refine Ends.go (f' := (mkF m 36 #[.val (.int i0), .val (.int i1), .val (.int i2), .val (.int i3), .val (.int i4), .val (.int i5), .val (.int ((i0 &&& (2147483647 : Int32)) % (7 : Int32))), .val (.int (f_pick i1)), .val (.int (f_pick i2)), .val (.int (f_pick i3)), .val (.int (f_pick i4)), .unset, .unset, .unset, .unset, .unset, .unset] [(.int i5)])) (fun t k => XS.iload N17.here hx rfl (hb hby at_34) rfl k) ?_
  refine gStatic (W := 0) (argsL := [(.int i5)]) (rest := []) N17 hx hZ hown (hw _ (List.mem_of_getElem? (i := 1) rfl)) (hw _ (List.mem_of_getElem? (i := 2) rfl)) (hw _ (List.mem_of_getElem? (i := 3) rfl)) (hw _ (List.mem_of_getElem? (i := 4) rfl)) (by decide) ((rmPick l Z a0 hw i5 h18 N17.ext).back (W := 0) hZ (hw _ (List.mem_of_getElem? (i := 4) rfl)) (hw _ (List.mem_of_getElem? (i := 3) rfl)) (nle rfl) (nle rfl)) (hb hby at_36) rfl (by rw [hml]; rfl) (lenOf (by decide +kernel : parseMethodDescriptor "(I)C" = some ⟨[.int], (some .char)⟩) rfl) (nle rfl) (nle rfl) (nle rfl) (fun _ _ _ q => q.2) ?_
  rintro _ T21 h23 _ N22 ⟨⟨rfl, E24⟩, -⟩
  have X25 : Ext h0 h23 := ext_trans X20 E24
  show Ends p e below _ T21 (mkF m 39 #[.val (.int i0), .val (.int i1), .val (.int i2), .val (.int i3), .val (.int i4), .val (.int i5), .val (.int ((i0 &&& (2147483647 : Int32)) % (7 : Int32))), .val (.int (f_pick i1)), .val (.int (f_pick i2)), .val (.int (f_pick i3)), .val (.int (f_pick i4)), .unset, .unset, .unset, .unset, .unset, .unset] [(.int (f_pick i5))])
  refine Ends.go (f' := (mkF m 41 #[.val (.int i0), .val (.int i1), .val (.int i2), .val (.int i3), .val (.int i4), .val (.int i5), .val (.int ((i0 &&& (2147483647 : Int32)) % (7 : Int32))), .val (.int (f_pick i1)), .val (.int (f_pick i2)), .val (.int (f_pick i3)), .val (.int (f_pick i4)), .val (.int (f_pick i5)), .unset, .unset, .unset, .unset, .unset] [])) (fun t k => XS.istore N22.here hx rfl (hb hby at_39) rfl (l' := #[.val (.int i0), .val (.int i1), .val (.int i2), .val (.int i3), .val (.int i4), .val (.int i5), .val (.int ((i0 &&& (2147483647 : Int32)) % (7 : Int32))), .val (.int (f_pick i1)), .val (.int (f_pick i2)), .val (.int (f_pick i3)), .val (.int (f_pick i4)), .val (.int (f_pick i5)), .unset, .unset, .unset, .unset, .unset]) rfl k) ?_
  refine Ends.go (f' := (mkF m 43 #[.val (.int i0), .val (.int i1), .val (.int i2), .val (.int i3), .val (.int i4), .val (.int i5), .val (.int ((i0 &&& (2147483647 : Int32)) % (7 : Int32))), .val (.int (f_pick i1)), .val (.int (f_pick i2)), .val (.int (f_pick i3)), .val (.int (f_pick i4)), .val (.int (f_pick i5)), .unset, .unset, .unset, .unset, .unset] [(.int ((i0 &&& (2147483647 : Int32)) % (7 : Int32)))])) (fun t k => XS.iload N22.here hx rfl (hb hby at_41) rfl k) ?_
  by_cases l0 : ((i0 &&& (2147483647 : Int32)) % (7 : Int32)) = 0
  · refine Ends.go (f' := (mkF m 46 #[.val (.int i0), .val (.int i1), .val (.int i2), .val (.int i3), .val (.int i4), .val (.int i5), .val (.int ((i0 &&& (2147483647 : Int32)) % (7 : Int32))), .val (.int (f_pick i1)), .val (.int (f_pick i2)), .val (.int (f_pick i3)), .val (.int (f_pick i4)), .val (.int (f_pick i5)), .unset, .unset, .unset, .unset, .unset] [])) (fun t k => XS.ifNo N22.here hx rfl (hb hby at_43) rfl (XT.i0_ne_f l0) k) ?_
    refine gNew (a0 := a0) N22 hx hZ hown (hw _ (List.mem_of_getElem? (i := 5) rfl)) (hw _ (List.mem_of_getElem? (i := 6) rfl)) (hw _ (List.mem_of_getElem? (i := 7) rfl)) (hb hby at_46) (nle rfl) (nle rfl) ?_
    intro T60 h61 a62 ea63 N64 E65 A66 D67
    have g68 : h0.size ≤ a62 := by rw [ea63]; exact X25.1
    have g69 : Z.heap.size ≤ a62 := by rw [ea63]; exact N22.le
    have X70 : Ext h0 h61 := ext_trans X25 E65
    show Ends p e below _ T60 (mkF m 49 #[.val (.int i0), .val (.int i1), .val (.int i2), .val (.int i3), .val (.int i4), .val (.int i5), .val (.int ((i0 &&& (2147483647 : Int32)) % (7 : Int32))), .val (.int (f_pick i1)), .val (.int (f_pick i2)), .val (.int (f_pick i3)), .val (.int (f_pick i4)), .val (.int (f_pick i5)), .unset, .unset, .unset, .unset, .unset] [(.ref a62)])
    refine Ends.go (f' := (mkF m 50 #[.val (.int i0), .val (.int i1), .val (.int i2), .val (.int i3), .val (.int i4), .val (.int i5), .val (.int ((i0 &&& (2147483647 : Int32)) % (7 : Int32))), .val (.int (f_pick i1)), .val (.int (f_pick i2)), .val (.int (f_pick i3)), .val (.int (f_pick i4)), .val (.int (f_pick i5)), .unset, .unset, .unset, .unset, .unset] [(.ref a62), (.ref a62)])) (fun t k => XS.dup N64.here hx rfl (hb hby at_49) rfl rfl k) ?_
    refine Ends.go (f' := (mkF m 51 #[.val (.int i0), .val (.int i1), .val (.int i2), .val (.int i3), .val (.int i4), .val (.int i5), .val (.int ((i0 &&& (2147483647 : Int32)) % (7 : Int32))), .val (.int (f_pick i1)), .val (.int (f_pick i2)), .val (.int (f_pick i3)), .val (.int (f_pick i4)), .val (.int (f_pick i5)), .unset, .unset, .unset, .unset, .unset] [(.int (0 : Int32)), (.ref a62), (.ref a62)])) (fun t k => XS.iconst N64.here hx rfl (hb hby at_50) k) ?_
    refine gArr 0 N64 hx hZ (hw _ (List.mem_of_getElem? (i := 8) rfl)) (hb hby at_51) (by decide) (nle rfl) (nle rfl) (nle rfl) (nle rfl) ?_
    intro T71 h72 b73 kA74 eb75 N76 E77 V78
    have g79 : h0.size ≤ b73 := by rw [eb75]; exact X70.1
    have g80 : h61.size ≤ b73 := by rw [eb75]; exact (ext_refl h61).1
    have g81 : Z.heap.size ≤ b73 := by rw [eb75]; exact N64.le
    have X82 : Ext h0 h72 := ext_trans X70 E77
    have X83 : Ext h61 h72 := ext_trans (ext_refl h61) E77
    have V84 : Arv Z h72 b73 kA74 .char (0 : Int32) [] (.int (0 : Int32)) := V78.pad (pad_rep [] (.int (0 : Int32)) 0)
    show Ends p e below _ T71 (mkF m 53 #[.val (.int i0), .val (.int i1), .val (.int i2), .val (.int i3), .val (.int i4), .val (.int i5), .val (.int ((i0 &&& (2147483647 : Int32)) % (7 : Int32))), .val (.int (f_pick i1)), .val (.int (f_pick i2)), .val (.int (f_pick i3)), .val (.int (f_pick i4)), .val (.int (f_pick i5)), .unset, .unset, .unset, .unset, .unset] [(.ref b73), (.ref a62), (.ref a62)])
    refine gSpecialW (W := 1) (y := (⟨"java/lang/String", "<init>", "([C)V"⟩ : MethodName)) (a := a62) (argsL := [(.ref b73)]) (rest := [(.ref a62)]) rfl N76 hx hZ hown (wd0.ext X82) (hw _ (List.mem_of_getElem? (i := 9) rfl)) (hw _ (List.mem_of_getElem? (i := 10) rfl)) (hw _ (List.mem_of_getElem? (i := 11) rfl)) (by decide) ((rmE1 l Z a0 hw a62 b73 kA74 _ _ h72 N76.ext (A66.ext X83) ((D67 (Or.inr (hw _ (List.mem_of_getElem? (i := 21) rfl))) (ty := .array .byte) (by decide)).ext X83) ((D67 (Or.inr (hw _ (List.mem_of_getElem? (i := 22) rfl))) (ty := .byte) (by decide)).ext X83) g69 V84).back (W := 1) hZ (hw _ (List.mem_of_getElem? (i := 11) rfl)) (hw _ (List.mem_of_getElem? (i := 7) rfl)) (nle rfl) (nle rfl) (elw hw) (wd0.ext X82)) (hb hby at_53) rfl (by rw [hml]; rfl) (lenOf (by decide +kernel : parseMethodDescriptor "([C)V" = some ⟨[(.array .char)], none⟩) rfl) (nle rfl) (nle rfl) (nle rfl) (fun _ _ _ q => q.2) ?_
    rintro _ vm85 T86 h87 L90 N88 ⟨⟨rfl, K91, S92⟩, -⟩ hZ hown wd89
    have X93 : Ext h0 h87 := ext_keep X82 K91 g68
    show Ends p e below _ T86 (mkF m 56 #[.val (.int i0), .val (.int i1), .val (.int i2), .val (.int i3), .val (.int i4), .val (.int i5), .val (.int ((i0 &&& (2147483647 : Int32)) % (7 : Int32))), .val (.int (f_pick i1)), .val (.int (f_pick i2)), .val (.int (f_pick i3)), .val (.int (f_pick i4)), .val (.int (f_pick i5)), .unset, .unset, .unset, .unset, .unset] [(.ref a62)])
    refine Ends.go (f' := (mkF m 58 #[.val (.int i0), .val (.int i1), .val (.int i2), .val (.int i3), .val (.int i4), .val (.int i5), .val (.int ((i0 &&& (2147483647 : Int32)) % (7 : Int32))), .val (.int (f_pick i1)), .val (.int (f_pick i2)), .val (.int (f_pick i3)), .val (.int (f_pick i4)), .val (.int (f_pick i5)), .val (.ref a62), .unset, .unset, .unset, .unset] [])) (fun t k => XS.astore N88.here hx rfl (hb hby at_56) rfl rfl (l' := #[.val (.int i0), .val (.int i1), .val (.int i2), .val (.int i3), .val (.int i4), .val (.int i5), .val (.int ((i0 &&& (2147483647 : Int32)) % (7 : Int32))), .val (.int (f_pick i1)), .val (.int (f_pick i2)), .val (.int (f_pick i3)), .val (.int (f_pick i4)), .val (.int (f_pick i5)), .val (.ref a62), .unset, .unset, .unset, .unset]) rfl k) ?_
    refine Ends.go (f' := (mkF m 244 #[.val (.int i0), .val (.int i1), .val (.int i2), .val (.int i3), .val (.int i4), .val (.int i5), .val (.int ((i0 &&& (2147483647 : Int32)) % (7 : Int32))), .val (.int (f_pick i1)), .val (.int (f_pick i2)), .val (.int (f_pick i3)), .val (.int (f_pick i4)), .val (.int (f_pick i5)), .val (.ref a62), .unset, .unset, .unset, .unset] [])) (fun t k => XS.goto N88.here hx rfl (pc0 := 58) (pc' := 244) rfl (hb hby at_58) (by decide) (by decide) k) ?_
    exact join vm85 T86 h87 _ _ (N88.mono (nle rfl) (nle rfl)) hZ hown wd89 (Or.inr ⟨_, [], rfl, rfl, S92⟩) (by simp only [strOf, if_pos l0])
  · refine Ends.go (f' := (mkF m 61 #[.val (.int i0), .val (.int i1), .val (.int i2), .val (.int i3), .val (.int i4), .val (.int i5), .val (.int ((i0 &&& (2147483647 : Int32)) % (7 : Int32))), .val (.int (f_pick i1)), .val (.int (f_pick i2)), .val (.int (f_pick i3)), .val (.int (f_pick i4)), .val (.int (f_pick i5)), .unset, .unset, .unset, .unset, .unset] [])) (fun t k => XS.ifYes N22.here hx rfl (pc0 := 43) (pc' := 61) rfl (hb hby at_43) rfl (XT.i0_ne_t l0) (by decide) (by decide) k) ?_
    refine Ends.go (f' := (mkF m 63 #[.val (.int i0), .val (.int i1), .val (.int i2), .val (.int i3), .val (.int i4), .val (.int i5), .val (.int ((i0 &&& (2147483647 : Int32)) % (7 : Int32))), .val (.int (f_pick i1)), .val (.int (f_pick i2)), .val (.int (f_pick i3)), .val (.int (f_pick i4)), .val (.int (f_pick i5)), .unset, .unset, .unset, .unset, .unset] [(.int ((i0 &&& (2147483647 : Int32)) % (7 : Int32)))])) (fun t k => XS.iload N22.here hx rfl (hb hby at_61) rfl k) ?_
    refine Ends.go (f' := (mkF m 64 #[.val (.int i0), .val (.int i1), .val (.int i2), .val (.int i3), .val (.int i4), .val (.int i5), .val (.int ((i0 &&& (2147483647 : Int32)) % (7 : Int32))), .val (.int (f_pick i1)), .val (.int (f_pick i2)), .val (.int (f_pick i3)), .val (.int (f_pick i4)), .val (.int (f_pick i5)), .unset, .unset, .unset, .unset, .unset] [(.int (1 : Int32)), (.int ((i0 &&& (2147483647 : Int32)) % (7 : Int32)))])) (fun t k => XS.iconst N22.here hx rfl (hb hby at_63) k) ?_
    by_cases l1 : ((i0 &&& (2147483647 : Int32)) % (7 : Int32)) = (1 : Int32)
    · refine Ends.go (f' := (mkF m 67 #[.val (.int i0), .val (.int i1), .val (.int i2), .val (.int i3), .val (.int i4), .val (.int i5), .val (.int ((i0 &&& (2147483647 : Int32)) % (7 : Int32))), .val (.int (f_pick i1)), .val (.int (f_pick i2)), .val (.int (f_pick i3)), .val (.int (f_pick i4)), .val (.int (f_pick i5)), .unset, .unset, .unset, .unset, .unset] [])) (fun t k => XS.icmpNo N22.here hx rfl (hb hby at_64) rfl (XT.ii_ne_f l1) k) ?_
      refine gNew (a0 := a0) N22 hx hZ hown (hw _ (List.mem_of_getElem? (i := 5) rfl)) (hw _ (List.mem_of_getElem? (i := 6) rfl)) (hw _ (List.mem_of_getElem? (i := 7) rfl)) (hb hby at_67) (nle rfl) (nle rfl) ?_
      intro T94 h95 a96 ea97 N98 E99 A100 D101
      have g102 : h0.size ≤ a96 := by rw [ea97]; exact X25.1
      have g103 : Z.heap.size ≤ a96 := by rw [ea97]; exact N22.le
      have X104 : Ext h0 h95 := ext_trans X25 E99
      show Ends p e below _ T94 (mkF m 70 #[.val (.int i0), .val (.int i1), .val (.int i2), .val (.int i3), .val (.int i4), .val (.int i5), .val (.int ((i0 &&& (2147483647 : Int32)) % (7 : Int32))), .val (.int (f_pick i1)), .val (.int (f_pick i2)), .val (.int (f_pick i3)), .val (.int (f_pick i4)), .val (.int (f_pick i5)), .unset, .unset, .unset, .unset, .unset] [(.ref a96)])
      refine Ends.go (f' := (mkF m 71 #[.val (.int i0), .val (.int i1), .val (.int i2), .val (.int i3), .val (.int i4), .val (.int i5), .val (.int ((i0 &&& (2147483647 : Int32)) % (7 : Int32))), .val (.int (f_pick i1)), .val (.int (f_pick i2)), .val (.int (f_pick i3)), .val (.int (f_pick i4)), .val (.int (f_pick i5)), .unset, .unset, .unset, .unset, .unset] [(.ref a96), (.ref a96)])) (fun t k => XS.dup N98.here hx rfl (hb hby at_70) rfl rfl k) ?_
      refine Ends.go (f' := (mkF m 72 #[.val (.int i0), .val (.int i1), .val (.int i2), .val (.int i3), .val (.int i4), .val (.int i5), .val (.int ((i0 &&& (2147483647 : Int32)) % (7 : Int32))), .val (.int (f_pick i1)), .val (.int (f_pick i2)), .val (.int (f_pick i3)), .val (.int (f_pick i4)), .val (.int (f_pick i5)), .unset, .unset, .unset, .unset, .unset] [(.int (1 : Int32)), (.ref a96), (.ref a96)])) (fun t k => XS.iconst N98.here hx rfl (hb hby at_71) k) ?_
      refine gArr 1 N98 hx hZ (hw _ (List.mem_of_getElem? (i := 8) rfl)) (hb hby at_72) (by decide) (nle rfl) (nle rfl) (nle rfl) (nle rfl) ?_
      intro T105 h106 b107 kA108 eb109 N110 E111 V112
      have g113 : h0.size ≤ b107 := by rw [eb109]; exact X104.1
      have g114 : h95.size ≤ b107 := by rw [eb109]; exact (ext_refl h95).1
      have g115 : Z.heap.size ≤ b107 := by rw [eb109]; exact N98.le
      have X116 : Ext h0 h106 := ext_trans X104 E111
      have X117 : Ext h95 h106 := ext_trans (ext_refl h95) E111
      have V118 : Arv Z h106 b107 kA108 .char (1 : Int32) [(.int (0 : Int32))] (.int (0 : Int32)) := V112.pad (pad_rep [] (.int (0 : Int32)) 1)
      show Ends p e below _ T105 (mkF m 74 #[.val (.int i0), .val (.int i1), .val (.int i2), .val (.int i3), .val (.int i4), .val (.int i5), .val (.int ((i0 &&& (2147483647 : Int32)) % (7 : Int32))), .val (.int (f_pick i1)), .val (.int (f_pick i2)), .val (.int (f_pick i3)), .val (.int (f_pick i4)), .val (.int (f_pick i5)), .unset, .unset, .unset, .unset, .unset] [(.ref b107), (.ref a96), (.ref a96)])
      refine Ends.go (f' := (mkF m 75 #[.val (.int i0), .val (.int i1), .val (.int i2), .val (.int i3), .val (.int i4), .val (.int i5), .val (.int ((i0 &&& (2147483647 : Int32)) % (7 : Int32))), .val (.int (f_pick i1)), .val (.int (f_pick i2)), .val (.int (f_pick i3)), .val (.int (f_pick i4)), .val (.int (f_pick i5)), .unset, .unset, .unset, .unset, .unset] [(.ref b107), (.ref b107), (.ref a96), (.ref a96)])) (fun t k => XS.dup N110.here hx rfl (hb hby at_74) rfl rfl k) ?_
      refine Ends.go (f' := (mkF m 76 #[.val (.int i0), .val (.int i1), .val (.int i2), .val (.int i3), .val (.int i4), .val (.int i5), .val (.int ((i0 &&& (2147483647 : Int32)) % (7 : Int32))), .val (.int (f_pick i1)), .val (.int (f_pick i2)), .val (.int (f_pick i3)), .val (.int (f_pick i4)), .val (.int (f_pick i5)), .unset, .unset, .unset, .unset, .unset] [(.int (0 : Int32)), (.ref b107), (.ref b107), (.ref a96), (.ref a96)])) (fun t k => XS.iconst N110.here hx rfl (hb hby at_75) k) ?_
      refine Ends.go (f' := (mkF m 78 #[.val (.int i0), .val (.int i1), .val (.int i2), .val (.int i3), .val (.int i4), .val (.int i5), .val (.int ((i0 &&& (2147483647 : Int32)) % (7 : Int32))), .val (.int (f_pick i1)), .val (.int (f_pick i2)), .val (.int (f_pick i3)), .val (.int (f_pick i4)), .val (.int (f_pick i5)), .unset, .unset, .unset, .unset, .unset] [(.int (f_pick i1)), (.int (0 : Int32)), (.ref b107), (.ref b107), (.ref a96), (.ref a96)])) (fun t k => XS.iload N110.here hx rfl (hb hby at_76) rfl k) ?_
      refine gStC 0 N110 hx hZ V118 g115 (by decide) rfl (nle rfl) (hb hby at_78) ?_
      intro T119 h120 N121 W122 V123
      rw [nar_pick] at V123
      have V124 : Arv Z h120 b107 kA108 .char (1 : Int32) [(.int (f_pick i1))] (.int (0 : Int32)) := V123
      have X125 : Ext h0 h120 := ext_wr X116 W122 g113
      have X126 : Ext h95 h120 := ext_wr X117 W122 g114
      show Ends p e below _ T119 (mkF m 79 #[.val (.int i0), .val (.int i1), .val (.int i2), .val (.int i3), .val (.int i4), .val (.int i5), .val (.int ((i0 &&& (2147483647 : Int32)) % (7 : Int32))), .val (.int (f_pick i1)), .val (.int (f_pick i2)), .val (.int (f_pick i3)), .val (.int (f_pick i4)), .val (.int (f_pick i5)), .unset, .unset, .unset, .unset, .unset] [(.ref b107), (.ref a96), (.ref a96)])
      refine gSpecial (W := 1) (y := (⟨"java/lang/String", "<init>", "([C)V"⟩ : MethodName)) (a := a96) (argsL := [(.ref b107)]) (rest := [(.ref a96)]) rfl N121 hx hZ hown (hw _ (List.mem_of_getElem? (i := 9) rfl)) (hw _ (List.mem_of_getElem? (i := 10) rfl)) (hw _ (List.mem_of_getElem? (i := 11) rfl)) (by decide) (strNew (W := 1) (cs := [(f_pick i1)]) hZ hw G N121.ext g103 (A100.ext X126) ((D101 (Or.inr (hw _ (List.mem_of_getElem? (i := 21) rfl))) (ty := .array .byte) (by decide)).ext X126) ((D101 (Or.inr (hw _ (List.mem_of_getElem? (i := 22) rfl))) (ty := .byte) (by decide)).ext X126) V124 (nle rfl) (nle rfl) (hp_cons (pick_ok _) hp_nil) (nle rfl) (nle rfl)) (hb hby at_79) rfl (by rw [hml]; rfl) (lenOf (by decide +kernel : parseMethodDescriptor "([C)V" = some ⟨[(.array .char)], none⟩) rfl) (nle rfl) (nle rfl) (nle rfl) (fun _ _ _ q => q.2.2.2) ?_
      rintro _ T127 h128 L129 N130 ⟨rfl, K131, S132, -⟩
      have X133 : Ext h0 h128 := ext_keep X125 K131 g102
      show Ends p e below _ T127 (mkF m 82 #[.val (.int i0), .val (.int i1), .val (.int i2), .val (.int i3), .val (.int i4), .val (.int i5), .val (.int ((i0 &&& (2147483647 : Int32)) % (7 : Int32))), .val (.int (f_pick i1)), .val (.int (f_pick i2)), .val (.int (f_pick i3)), .val (.int (f_pick i4)), .val (.int (f_pick i5)), .unset, .unset, .unset, .unset, .unset] [(.ref a96)])
      refine Ends.go (f' := (mkF m 84 #[.val (.int i0), .val (.int i1), .val (.int i2), .val (.int i3), .val (.int i4), .val (.int i5), .val (.int ((i0 &&& (2147483647 : Int32)) % (7 : Int32))), .val (.int (f_pick i1)), .val (.int (f_pick i2)), .val (.int (f_pick i3)), .val (.int (f_pick i4)), .val (.int (f_pick i5)), .val (.ref a96), .unset, .unset, .unset, .unset] [])) (fun t k => XS.astore N130.here hx rfl (hb hby at_82) rfl rfl (l' := #[.val (.int i0), .val (.int i1), .val (.int i2), .val (.int i3), .val (.int i4), .val (.int i5), .val (.int ((i0 &&& (2147483647 : Int32)) % (7 : Int32))), .val (.int (f_pick i1)), .val (.int (f_pick i2)), .val (.int (f_pick i3)), .val (.int (f_pick i4)), .val (.int (f_pick i5)), .val (.ref a96), .unset, .unset, .unset, .unset]) rfl k) ?_
      refine Ends.go (f' := (mkF m 244 #[.val (.int i0), .val (.int i1), .val (.int i2), .val (.int i3), .val (.int i4), .val (.int i5), .val (.int ((i0 &&& (2147483647 : Int32)) % (7 : Int32))), .val (.int (f_pick i1)), .val (.int (f_pick i2)), .val (.int (f_pick i3)), .val (.int (f_pick i4)), .val (.int (f_pick i5)), .val (.ref a96), .unset, .unset, .unset, .unset] [])) (fun t k => XS.goto N130.here hx rfl (pc0 := 84) (pc' := 244) rfl (hb hby at_84) (by decide) (by decide) k) ?_
      exact join vm0 T127 h128 _ _ (N130.mono (nle rfl) (nle rfl)) hZ hown (wd0.ext X133) (Or.inr ⟨_, [(f_pick i1)], rfl, rfl, S132⟩) (by simp only [strOf, if_neg l0, if_pos l1])
    · refine Ends.go (f' := (mkF m 87 #[.val (.int i0), .val (.int i1), .val (.int i2), .val (.int i3), .val (.int i4), .val (.int i5), .val (.int ((i0 &&& (2147483647 : Int32)) % (7 : Int32))), .val (.int (f_pick i1)), .val (.int (f_pick i2)), .val (.int (f_pick i3)), .val (.int (f_pick i4)), .val (.int (f_pick i5)), .unset, .unset, .unset, .unset, .unset] [])) (fun t k => XS.icmpYes N22.here hx rfl (pc0 := 64) (pc' := 87) rfl (hb hby at_64) rfl (XT.ii_ne_t l1) (by decide) (by decide) k) ?_
      refine Ends.go (f' := (mkF m 89 #[.val (.int i0), .val (.int i1), .val (.int i2), .val (.int i3), .val (.int i4), .val (.int i5), .val (.int ((i0 &&& (2147483647 : Int32)) % (7 : Int32))), .val (.int (f_pick i1)), .val (.int (f_pick i2)), .val (.int (f_pick i3)), .val (.int (f_pick i4)), .val (.int (f_pick i5)), .unset, .unset, .unset, .unset, .unset] [(.int ((i0 &&& (2147483647 : Int32)) % (7 : Int32)))])) (fun t k => XS.iload N22.here hx rfl (hb hby at_87) rfl k) ?_
      refine Ends.go (f' := (mkF m 90 #[.val (.int i0), .val (.int i1), .val (.int i2), .val (.int i3), .val (.int i4), .val (.int i5), .val (.int ((i0 &&& (2147483647 : Int32)) % (7 : Int32))), .val (.int (f_pick i1)), .val (.int (f_pick i2)), .val (.int (f_pick i3)), .val (.int (f_pick i4)), .val (.int (f_pick i5)), .unset, .unset, .unset, .unset, .unset] [(.int (2 : Int32)), (.int ((i0 &&& (2147483647 : Int32)) % (7 : Int32)))])) (fun t k => XS.iconst N22.here hx rfl (hb hby at_89) k) ?_
      by_cases l2 : ((i0 &&& (2147483647 : Int32)) % (7 : Int32)) = (2 : Int32)
      · refine Ends.go (f' := (mkF m 93 #[.val (.int i0), .val (.int i1), .val (.int i2), .val (.int i3), .val (.int i4), .val (.int i5), .val (.int ((i0 &&& (2147483647 : Int32)) % (7 : Int32))), .val (.int (f_pick i1)), .val (.int (f_pick i2)), .val (.int (f_pick i3)), .val (.int (f_pick i4)), .val (.int (f_pick i5)), .unset, .unset, .unset, .unset, .unset] [])) (fun t k => XS.icmpNo N22.here hx rfl (hb hby at_90) rfl (XT.ii_ne_f l2) k) ?_
        refine gNew (a0 := a0) N22 hx hZ hown (hw _ (List.mem_of_getElem? (i := 5) rfl)) (hw _ (List.mem_of_getElem? (i := 6) rfl)) (hw _ (List.mem_of_getElem? (i := 7) rfl)) (hb hby at_93) (nle rfl) (nle rfl) ?_
        intro T134 h135 a136 ea137 N138 E139 A140 D141
        have g142 : h0.size ≤ a136 := by rw [ea137]; exact X25.1
        have g143 : Z.heap.size ≤ a136 := by rw [ea137]; exact N22.le
        have X144 : Ext h0 h135 := ext_trans X25 E139
        show Ends p e below _ T134 (mkF m 96 #[.val (.int i0), .val (.int i1), .val (.int i2), .val (.int i3), .val (.int i4), .val (.int i5), .val (.int ((i0 &&& (2147483647 : Int32)) % (7 : Int32))), .val (.int (f_pick i1)), .val (.int (f_pick i2)), .val (.int (f_pick i3)), .val (.int (f_pick i4)), .val (.int (f_pick i5)), .unset, .unset, .unset, .unset, .unset] [(.ref a136)])
        refine Ends.go (f' := (mkF m 97 #[.val (.int i0), .val (.int i1), .val (.int i2), .val (.int i3), .val (.int i4), .val (.int i5), .val (.int ((i0 &&& (2147483647 : Int32)) % (7 : Int32))), .val (.int (f_pick i1)), .val (.int (f_pick i2)), .val (.int (f_pick i3)), .val (.int (f_pick i4)), .val (.int (f_pick i5)), .unset, .unset, .unset, .unset, .unset] [(.ref a136), (.ref a136)])) (fun t k => XS.dup N138.here hx rfl (hb hby at_96) rfl rfl k) ?_
        refine Ends.go (f' := (mkF m 98 #[.val (.int i0), .val (.int i1), .val (.int i2), .val (.int i3), .val (.int i4), .val (.int i5), .val (.int ((i0 &&& (2147483647 : Int32)) % (7 : Int32))), .val (.int (f_pick i1)), .val (.int (f_pick i2)), .val (.int (f_pick i3)), .val (.int (f_pick i4)), .val (.int (f_pick i5)), .unset, .unset, .unset, .unset, .unset] [(.int (2 : Int32)), (.ref a136), (.ref a136)])) (fun t k => XS.iconst N138.here hx rfl (hb hby at_97) k) ?_
        refine gArr 2 N138 hx hZ (hw _ (List.mem_of_getElem? (i := 8) rfl)) (hb hby at_98) (by decide) (nle rfl) (nle rfl) (nle rfl) (nle rfl) ?_
        intro T145 h146 b147 kA148 eb149 N150 E151 V152
        have g153 : h0.size ≤ b147 := by rw [eb149]; exact X144.1
        have g154 : h135.size ≤ b147 := by rw [eb149]; exact (ext_refl h135).1
        have g155 : Z.heap.size ≤ b147 := by rw [eb149]; exact N138.le
        have X156 : Ext h0 h146 := ext_trans X144 E151
        have X157 : Ext h135 h146 := ext_trans (ext_refl h135) E151
        have V158 : Arv Z h146 b147 kA148 .char (2 : Int32) [(.int (0 : Int32)), (.int (0 : Int32))] (.int (0 : Int32)) := V152.pad (pad_rep [] (.int (0 : Int32)) 2)
        show Ends p e below _ T145 (mkF m 100 #[.val (.int i0), .val (.int i1), .val (.int i2), .val (.int i3), .val (.int i4), .val (.int i5), .val (.int ((i0 &&& (2147483647 : Int32)) % (7 : Int32))), .val (.int (f_pick i1)), .val (.int (f_pick i2)), .val (.int (f_pick i3)), .val (.int (f_pick i4)), .val (.int (f_pick i5)), .unset, .unset, .unset, .unset, .unset] [(.ref b147), (.ref a136), (.ref a136)])
        refine Ends.go (f' := (mkF m 101 #[.val (.int i0), .val (.int i1), .val (.int i2), .val (.int i3), .val (.int i4), .val (.int i5), .val (.int ((i0 &&& (2147483647 : Int32)) % (7 : Int32))), .val (.int (f_pick i1)), .val (.int (f_pick i2)), .val (.int (f_pick i3)), .val (.int (f_pick i4)), .val (.int (f_pick i5)), .unset, .unset, .unset, .unset, .unset] [(.ref b147), (.ref b147), (.ref a136), (.ref a136)])) (fun t k => XS.dup N150.here hx rfl (hb hby at_100) rfl rfl k) ?_
        refine Ends.go (f' := (mkF m 102 #[.val (.int i0), .val (.int i1), .val (.int i2), .val (.int i3), .val (.int i4), .val (.int i5), .val (.int ((i0 &&& (2147483647 : Int32)) % (7 : Int32))), .val (.int (f_pick i1)), .val (.int (f_pick i2)), .val (.int (f_pick i3)), .val (.int (f_pick i4)), .val (.int (f_pick i5)), .unset, .unset, .unset, .unset, .unset] [(.int (0 : Int32)), (.ref b147), (.ref b147), (.ref a136), (.ref a136)])) (fun t k => XS.iconst N150.here hx rfl (hb hby at_101) k) ?_
        refine Ends.go (f' := (mkF m 104 #[.val (.int i0), .val (.int i1), .val (.int i2), .val (.int i3), .val (.int i4), .val (.int i5), .val (.int ((i0 &&& (2147483647 : Int32)) % (7 : Int32))), .val (.int (f_pick i1)), .val (.int (f_pick i2)), .val (.int (f_pick i3)), .val (.int (f_pick i4)), .val (.int (f_pick i5)), .unset, .unset, .unset, .unset, .unset] [(.int (f_pick i1)), (.int (0 : Int32)), (.ref b147), (.ref b147), (.ref a136), (.ref a136)])) (fun t k => XS.iload N150.here hx rfl (hb hby at_102) rfl k) ?_
        refine gStC 0 N150 hx hZ V158 g155 (by decide) rfl (nle rfl) (hb hby at_104) ?_
        intro T159 h160 N161 W162 V163
        rw [nar_pick] at V163
        have V164 : Arv Z h160 b147 kA148 .char (2 : Int32) [(.int (f_pick i1)), (.int (0 : Int32))] (.int (0 : Int32)) := V163
        have X165 : Ext h0 h160 := ext_wr X156 W162 g153
        have X166 : Ext h135 h160 := ext_wr X157 W162 g154
        show Ends p e below _ T159 (mkF m 105 #[.val (.int i0), .val (.int i1), .val (.int i2), .val (.int i3), .val (.int i4), .val (.int i5), .val (.int ((i0 &&& (2147483647 : Int32)) % (7 : Int32))), .val (.int (f_pick i1)), .val (.int (f_pick i2)), .val (.int (f_pick i3)), .val (.int (f_pick i4)), .val (.int (f_pick i5)), .unset, .unset, .unset, .unset, .unset] [(.ref b147), (.ref a136), (.ref a136)])
        refine Ends.go (f' := (mkF m 106 #[.val (.int i0), .val (.int i1), .val (.int i2), .val (.int i3), .val (.int i4), .val (.int i5), .val (.int ((i0 &&& (2147483647 : Int32)) % (7 : Int32))), .val (.int (f_pick i1)), .val (.int (f_pick i2)), .val (.int (f_pick i3)), .val (.int (f_pick i4)), .val (.int (f_pick i5)), .unset, .unset, .unset, .unset, .unset] [(.ref b147), (.ref b147), (.ref a136), (.ref a136)])) (fun t k => XS.dup N161.here hx rfl (hb hby at_105) rfl rfl k) ?_
        refine Ends.go (f' := (mkF m 107 #[.val (.int i0), .val (.int i1), .val (.int i2), .val (.int i3), .val (.int i4), .val (.int i5), .val (.int ((i0 &&& (2147483647 : Int32)) % (7 : Int32))), .val (.int (f_pick i1)), .val (.int (f_pick i2)), .val (.int (f_pick i3)), .val (.int (f_pick i4)), .val (.int (f_pick i5)), .unset, .unset, .unset, .unset, .unset] [(.int (1 : Int32)), (.ref b147), (.ref b147), (.ref a136), (.ref a136)])) (fun t k => XS.iconst N161.here hx rfl (hb hby at_106) k) ?_
        refine Ends.go (f' := (mkF m 109 #[.val (.int i0), .val (.int i1), .val (.int i2), .val (.int i3), .val (.int i4), .val (.int i5), .val (.int ((i0 &&& (2147483647 : Int32)) % (7 : Int32))), .val (.int (f_pick i1)), .val (.int (f_pick i2)), .val (.int (f_pick i3)), .val (.int (f_pick i4)), .val (.int (f_pick i5)), .unset, .unset, .unset, .unset, .unset] [(.int (f_pick i2)), (.int (1 : Int32)), (.ref b147), (.ref b147), (.ref a136), (.ref a136)])) (fun t k => XS.iload N161.here hx rfl (hb hby at_107) rfl k) ?_
        refine gStC 1 N161 hx hZ V164 g155 (by decide) rfl (nle rfl) (hb hby at_109) ?_
        intro T167 h168 N169 W170 V171
        rw [nar_pick] at V171
        have V172 : Arv Z h168 b147 kA148 .char (2 : Int32) [(.int (f_pick i1)), (.int (f_pick i2))] (.int (0 : Int32)) := V171
        have X173 : Ext h0 h168 := ext_wr X165 W170 g153
        have X174 : Ext h135 h168 := ext_wr X166 W170 g154
        show Ends p e below _ T167 (mkF m 110 #[.val (.int i0), .val (.int i1), .val (.int i2), .val (.int i3), .val (.int i4), .val (.int i5), .val (.int ((i0 &&& (2147483647 : Int32)) % (7 : Int32))), .val (.int (f_pick i1)), .val (.int (f_pick i2)), .val (.int (f_pick i3)), .val (.int (f_pick i4)), .val (.int (f_pick i5)), .unset, .unset, .unset, .unset, .unset] [(.ref b147), (.ref a136), (.ref a136)])
        refine gSpecial (W := 1) (y := (⟨"java/lang/String", "<init>", "([C)V"⟩ : MethodName)) (a := a136) (argsL := [(.ref b147)]) (rest := [(.ref a136)]) rfl N169 hx hZ hown (hw _ (List.mem_of_getElem? (i := 9) rfl)) (hw _ (List.mem_of_getElem? (i := 10) rfl)) (hw _ (List.mem_of_getElem? (i := 11) rfl)) (by decide) (strNew (W := 1) (cs := [(f_pick i1), (f_pick i2)]) hZ hw G N169.ext g143 (A140.ext X174) ((D141 (Or.inr (hw _ (List.mem_of_getElem? (i := 21) rfl))) (ty := .array .byte) (by decide)).ext X174) ((D141 (Or.inr (hw _ (List.mem_of_getElem? (i := 22) rfl))) (ty := .byte) (by decide)).ext X174) V172 (nle rfl) (nle rfl) (hp_cons (pick_ok _) (hp_cons (pick_ok _) hp_nil)) (nle rfl) (nle rfl)) (hb hby at_110) rfl (by rw [hml]; rfl) (lenOf (by decide +kernel : parseMethodDescriptor "([C)V" = some ⟨[(.array .char)], none⟩) rfl) (nle rfl) (nle rfl) (nle rfl) (fun _ _ _ q => q.2.2.2) ?_
        rintro _ T175 h176 L177 N178 ⟨rfl, K179, S180, -⟩
        have X181 : Ext h0 h176 := ext_keep X173 K179 g142
        show Ends p e below _ T175 (mkF m 113 #[.val (.int i0), .val (.int i1), .val (.int i2), .val (.int i3), .val (.int i4), .val (.int i5), .val (.int ((i0 &&& (2147483647 : Int32)) % (7 : Int32))), .val (.int (f_pick i1)), .val (.int (f_pick i2)), .val (.int (f_pick i3)), .val (.int (f_pick i4)), .val (.int (f_pick i5)), .unset, .unset, .unset, .unset, .unset] [(.ref a136)])
        refine Ends.go (f' := (mkF m 115 #[.val (.int i0), .val (.int i1), .val (.int i2), .val (.int i3), .val (.int i4), .val (.int i5), .val (.int ((i0 &&& (2147483647 : Int32)) % (7 : Int32))), .val (.int (f_pick i1)), .val (.int (f_pick i2)), .val (.int (f_pick i3)), .val (.int (f_pick i4)), .val (.int (f_pick i5)), .val (.ref a136), .unset, .unset, .unset, .unset] [])) (fun t k => XS.astore N178.here hx rfl (hb hby at_113) rfl rfl (l' := #[.val (.int i0), .val (.int i1), .val (.int i2), .val (.int i3), .val (.int i4), .val (.int i5), .val (.int ((i0 &&& (2147483647 : Int32)) % (7 : Int32))), .val (.int (f_pick i1)), .val (.int (f_pick i2)), .val (.int (f_pick i3)), .val (.int (f_pick i4)), .val (.int (f_pick i5)), .val (.ref a136), .unset, .unset, .unset, .unset]) rfl k) ?_
        refine Ends.go (f' := (mkF m 244 #[.val (.int i0), .val (.int i1), .val (.int i2), .val (.int i3), .val (.int i4), .val (.int i5), .val (.int ((i0 &&& (2147483647 : Int32)) % (7 : Int32))), .val (.int (f_pick i1)), .val (.int (f_pick i2)), .val (.int (f_pick i3)), .val (.int (f_pick i4)), .val (.int (f_pick i5)), .val (.ref a136), .unset, .unset, .unset, .unset] [])) (fun t k => XS.goto N178.here hx rfl (pc0 := 115) (pc' := 244) rfl (hb hby at_115) (by decide) (by decide) k) ?_
        exact join vm0 T175 h176 _ _ (N178.mono (nle rfl) (nle rfl)) hZ hown (wd0.ext X181) (Or.inr ⟨_, [(f_pick i1), (f_pick i2)], rfl, rfl, S180⟩) (by simp only [strOf, if_neg l0, if_neg l1, if_pos l2])
      · refine Ends.go (f' := (mkF m 118 #[.val (.int i0), .val (.int i1), .val (.int i2), .val (.int i3), .val (.int i4), .val (.int i5), .val (.int ((i0 &&& (2147483647 : Int32)) % (7 : Int32))), .val (.int (f_pick i1)), .val (.int (f_pick i2)), .val (.int (f_pick i3)), .val (.int (f_pick i4)), .val (.int (f_pick i5)), .unset, .unset, .unset, .unset, .unset] [])) (fun t k => XS.icmpYes N22.here hx rfl (pc0 := 90) (pc' := 118) rfl (hb hby at_90) rfl (XT.ii_ne_t l2) (by decide) (by decide) k) ?_
        refine Ends.go (f' := (mkF m 120 #[.val (.int i0), .val (.int i1), .val (.int i2), .val (.int i3), .val (.int i4), .val (.int i5), .val (.int ((i0 &&& (2147483647 : Int32)) % (7 : Int32))), .val (.int (f_pick i1)), .val (.int (f_pick i2)), .val (.int (f_pick i3)), .val (.int (f_pick i4)), .val (.int (f_pick i5)), .unset, .unset, .unset, .unset, .unset] [(.int ((i0 &&& (2147483647 : Int32)) % (7 : Int32)))])) (fun t k => XS.iload N22.here hx rfl (hb hby at_118) rfl k) ?_
        refine Ends.go (f' := (mkF m 121 #[.val (.int i0), .val (.int i1), .val (.int i2), .val (.int i3), .val (.int i4), .val (.int i5), .val (.int ((i0 &&& (2147483647 : Int32)) % (7 : Int32))), .val (.int (f_pick i1)), .val (.int (f_pick i2)), .val (.int (f_pick i3)), .val (.int (f_pick i4)), .val (.int (f_pick i5)), .unset, .unset, .unset, .unset, .unset] [(.int (3 : Int32)), (.int ((i0 &&& (2147483647 : Int32)) % (7 : Int32)))])) (fun t k => XS.iconst N22.here hx rfl (hb hby at_120) k) ?_
        by_cases l3 : ((i0 &&& (2147483647 : Int32)) % (7 : Int32)) = (3 : Int32)
        · refine Ends.go (f' := (mkF m 124 #[.val (.int i0), .val (.int i1), .val (.int i2), .val (.int i3), .val (.int i4), .val (.int i5), .val (.int ((i0 &&& (2147483647 : Int32)) % (7 : Int32))), .val (.int (f_pick i1)), .val (.int (f_pick i2)), .val (.int (f_pick i3)), .val (.int (f_pick i4)), .val (.int (f_pick i5)), .unset, .unset, .unset, .unset, .unset] [])) (fun t k => XS.icmpNo N22.here hx rfl (hb hby at_121) rfl (XT.ii_ne_f l3) k) ?_
          refine gNew (a0 := a0) N22 hx hZ hown (hw _ (List.mem_of_getElem? (i := 5) rfl)) (hw _ (List.mem_of_getElem? (i := 6) rfl)) (hw _ (List.mem_of_getElem? (i := 7) rfl)) (hb hby at_124) (nle rfl) (nle rfl) ?_
          intro T182 h183 a184 ea185 N186 E187 A188 D189
          have g190 : h0.size ≤ a184 := by rw [ea185]; exact X25.1
          have g191 : Z.heap.size ≤ a184 := by rw [ea185]; exact N22.le
          have X192 : Ext h0 h183 := ext_trans X25 E187
          show Ends p e below _ T182 (mkF m 127 #[.val (.int i0), .val (.int i1), .val (.int i2), .val (.int i3), .val (.int i4), .val (.int i5), .val (.int ((i0 &&& (2147483647 : Int32)) % (7 : Int32))), .val (.int (f_pick i1)), .val (.int (f_pick i2)), .val (.int (f_pick i3)), .val (.int (f_pick i4)), .val (.int (f_pick i5)), .unset, .unset, .unset, .unset, .unset] [(.ref a184)])
          refine Ends.go (f' := (mkF m 128 #[.val (.int i0), .val (.int i1), .val (.int i2), .val (.int i3), .val (.int i4), .val (.int i5), .val (.int ((i0 &&& (2147483647 : Int32)) % (7 : Int32))), .val (.int (f_pick i1)), .val (.int (f_pick i2)), .val (.int (f_pick i3)), .val (.int (f_pick i4)), .val (.int (f_pick i5)), .unset, .unset, .unset, .unset, .unset] [(.ref a184), (.ref a184)])) (fun t k => XS.dup N186.here hx rfl (hb hby at_127) rfl rfl k) ?_
          refine Ends.go (f' := (mkF m 129 #[.val (.int i0), .val (.int i1), .val (.int i2), .val (.int i3), .val (.int i4), .val (.int i5), .val (.int ((i0 &&& (2147483647 : Int32)) % (7 : Int32))), .val (.int (f_pick i1)), .val (.int (f_pick i2)), .val (.int (f_pick i3)), .val (.int (f_pick i4)), .val (.int (f_pick i5)), .unset, .unset, .unset, .unset, .unset] [(.int (3 : Int32)), (.ref a184), (.ref a184)])) (fun t k => XS.iconst N186.here hx rfl (hb hby at_128) k) ?_
          refine gArr 3 N186 hx hZ (hw _ (List.mem_of_getElem? (i := 8) rfl)) (hb hby at_129) (by decide) (nle rfl) (nle rfl) (nle rfl) (nle rfl) ?_
          intro T193 h194 b195 kA196 eb197 N198 E199 V200
          have g201 : h0.size ≤ b195 := by rw [eb197]; exact X192.1
          have g202 : h183.size ≤ b195 := by rw [eb197]; exact (ext_refl h183).1
          have g203 : Z.heap.size ≤ b195 := by rw [eb197]; exact N186.le
          have X204 : Ext h0 h194 := ext_trans X192 E199
          have X205 : Ext h183 h194 := ext_trans (ext_refl h183) E199
          have V206 : Arv Z h194 b195 kA196 .char (3 : Int32) [(.int (0 : Int32)), (.int (0 : Int32)), (.int (0 : Int32))] (.int (0 : Int32)) := V200.pad (pad_rep [] (.int (0 : Int32)) 3)
          show Ends p e below _ T193 (mkF m 131 #[.val (.int i0), .val (.int i1), .val (.int i2), .val (.int i3), .val (.int i4), .val (.int i5), .val (.int ((i0 &&& (2147483647 : Int32)) % (7 : Int32))), .val (.int (f_pick i1)), .val (.int (f_pick i2)), .val (.int (f_pick i3)), .val (.int (f_pick i4)), .val (.int (f_pick i5)), .unset, .unset, .unset, .unset, .unset] [(.ref b195), (.ref a184), (.ref a184)])
          refine Ends.go (f' := (mkF m 132 #[.val (.int i0), .val (.int i1), .val (.int i2), .val (.int i3), .val (.int i4), .val (.int i5), .val (.int ((i0 &&& (2147483647 : Int32)) % (7 : Int32))), .val (.int (f_pick i1)), .val (.int (f_pick i2)), .val (.int (f_pick i3)), .val (.int (f_pick i4)), .val (.int (f_pick i5)), .unset, .unset, .unset, .unset, .unset] [(.ref b195), (.ref b195), (.ref a184), (.ref a184)])) (fun t k => XS.dup N198.here hx rfl (hb hby at_131) rfl rfl k) ?_
          refine Ends.go (f' := (mkF m 133 #[.val (.int i0), .val (.int i1), .val (.int i2), .val (.int i3), .val (.int i4), .val (.int i5), .val (.int ((i0 &&& (2147483647 : Int32)) % (7 : Int32))), .val (.int (f_pick i1)), .val (.int (f_pick i2)), .val (.int (f_pick i3)), .val (.int (f_pick i4)), .val (.int (f_pick i5)), .unset, .unset, .unset, .unset, .unset] [(.int (0 : Int32)), (.ref b195), (.ref b195), (.ref a184), (.ref a184)])) (fun t k => XS.iconst N198.here hx rfl (hb hby at_132) k) ?_
          refine Ends.go (f' := (mkF m 135 #[.val (.int i0), .val (.int i1), .val (.int i2), .val (.int i3), .val (.int i4), .val (.int i5), .val (.int ((i0 &&& (2147483647 : Int32)) % (7 : Int32))), .val (.int (f_pick i1)), .val (.int (f_pick i2)), .val (.int (f_pick i3)), .val (.int (f_pick i4)), .val (.int (f_pick i5)), .unset, .unset, .unset, .unset, .unset] [(.int (f_pick i1)), (.int (0 : Int32)), (.ref b195), (.ref b195), (.ref a184), (.ref a184)])) (fun t k => XS.iload N198.here hx rfl (hb hby at_133) rfl k) ?_
          refine gStC 0 N198 hx hZ V206 g203 (by decide) rfl (nle rfl) (hb hby at_135) ?_
          intro T207 h208 N209 W210 V211
          rw [nar_pick] at V211
          have V212 : Arv Z h208 b195 kA196 .char (3 : Int32) [(.int (f_pick i1)), (.int (0 : Int32)), (.int (0 : Int32))] (.int (0 : Int32)) := V211
          have X213 : Ext h0 h208 := ext_wr X204 W210 g201
          have X214 : Ext h183 h208 := ext_wr X205 W210 g202
          show Ends p e below _ T207 (mkF m 136 #[.val (.int i0), .val (.int i1), .val (.int i2), .val (.int i3), .val (.int i4), .val (.int i5), .val (.int ((i0 &&& (2147483647 : Int32)) % (7 : Int32))), .val (.int (f_pick i1)), .val (.int (f_pick i2)), .val (.int (f_pick i3)), .val (.int (f_pick i4)), .val (.int (f_pick i5)), .unset, .unset, .unset, .unset, .unset] [(.ref b195), (.ref a184), (.ref a184)])
          refine Ends.go (f' := (mkF m 137 #[.val (.int i0), .val (.int i1), .val (.int i2), .val (.int i3), .val (.int i4), .val (.int i5), .val (.int ((i0 &&& (2147483647 : Int32)) % (7 : Int32))), .val (.int (f_pick i1)), .val (.int (f_pick i2)), .val (.int (f_pick i3)), .val (.int (f_pick i4)), .val (.int (f_pick i5)), .unset, .unset, .unset, .unset, .unset] [(.ref b195), (.ref b195), (.ref a184), (.ref a184)])) (fun t k => XS.dup N209.here hx rfl (hb hby at_136) rfl rfl k) ?_
          refine Ends.go (f' := (mkF m 138 #[.val (.int i0), .val (.int i1), .val (.int i2), .val (.int i3), .val (.int i4), .val (.int i5), .val (.int ((i0 &&& (2147483647 : Int32)) % (7 : Int32))), .val (.int (f_pick i1)), .val (.int (f_pick i2)), .val (.int (f_pick i3)), .val (.int (f_pick i4)), .val (.int (f_pick i5)), .unset, .unset, .unset, .unset, .unset] [(.int (1 : Int32)), (.ref b195), (.ref b195), (.ref a184), (.ref a184)])) (fun t k => XS.iconst N209.here hx rfl (hb hby at_137) k) ?_
          refine Ends.go (f' := (mkF m 140 #[.val (.int i0), .val (.int i1), .val (.int i2), .val (.int i3), .val (.int i4), .val (.int i5), .val (.int ((i0 &&& (2147483647 : Int32)) % (7 : Int32))), .val (.int (f_pick i1)), .val (.int (f_pick i2)), .val (.int (f_pick i3)), .val (.int (f_pick i4)), .val (.int (f_pick i5)), .unset, .unset, .unset, .unset, .unset] [(.int (f_pick i2)), (.int (1 : Int32)), (.ref b195), (.ref b195), (.ref a184), (.ref a184)])) (fun t k => XS.iload N209.here hx rfl (hb hby at_138) rfl k) ?_
          refine gStC 1 N209 hx hZ V212 g203 (by decide) rfl (nle rfl) (hb hby at_140) ?_
          intro T215 h216 N217 W218 V219
          rw [nar_pick] at V219
          have V220 : Arv Z h216 b195 kA196 .char (3 : Int32) [(.int (f_pick i1)), (.int (f_pick i2)), (.int (0 : Int32))] (.int (0 : Int32)) := V219
          have X221 : Ext h0 h216 := ext_wr X213 W218 g201
          have X222 : Ext h183 h216 := ext_wr X214 W218 g202
          show Ends p e below _ T215 (mkF m 141 #[.val (.int i0), .val (.int i1), .val (.int i2), .val (.int i3), .val (.int i4), .val (.int i5), .val (.int ((i0 &&& (2147483647 : Int32)) % (7 : Int32))), .val (.int (f_pick i1)), .val (.int (f_pick i2)), .val (.int (f_pick i3)), .val (.int (f_pick i4)), .val (.int (f_pick i5)), .unset, .unset, .unset, .unset, .unset] [(.ref b195), (.ref a184), (.ref a184)])
          refine Ends.go (f' := (mkF m 142 #[.val (.int i0), .val (.int i1), .val (.int i2), .val (.int i3), .val (.int i4), .val (.int i5), .val (.int ((i0 &&& (2147483647 : Int32)) % (7 : Int32))), .val (.int (f_pick i1)), .val (.int (f_pick i2)), .val (.int (f_pick i3)), .val (.int (f_pick i4)), .val (.int (f_pick i5)), .unset, .unset, .unset, .unset, .unset] [(.ref b195), (.ref b195), (.ref a184), (.ref a184)])) (fun t k => XS.dup N217.here hx rfl (hb hby at_141) rfl rfl k) ?_
          refine Ends.go (f' := (mkF m 143 #[.val (.int i0), .val (.int i1), .val (.int i2), .val (.int i3), .val (.int i4), .val (.int i5), .val (.int ((i0 &&& (2147483647 : Int32)) % (7 : Int32))), .val (.int (f_pick i1)), .val (.int (f_pick i2)), .val (.int (f_pick i3)), .val (.int (f_pick i4)), .val (.int (f_pick i5)), .unset, .unset, .unset, .unset, .unset] [(.int (2 : Int32)), (.ref b195), (.ref b195), (.ref a184), (.ref a184)])) (fun t k => XS.iconst N217.here hx rfl (hb hby at_142) k) ?_
          refine Ends.go (f' := (mkF m 145 #[.val (.int i0), .val (.int i1), .val (.int i2), .val (.int i3), .val (.int i4), .val (.int i5), .val (.int ((i0 &&& (2147483647 : Int32)) % (7 : Int32))), .val (.int (f_pick i1)), .val (.int (f_pick i2)), .val (.int (f_pick i3)), .val (.int (f_pick i4)), .val (.int (f_pick i5)), .unset, .unset, .unset, .unset, .unset] [(.int (f_pick i3)), (.int (2 : Int32)), (.ref b195), (.ref b195), (.ref a184), (.ref a184)])) (fun t k => XS.iload N217.here hx rfl (hb hby at_143) rfl k) ?_
          refine gStC 2 N217 hx hZ V220 g203 (by decide) rfl (nle rfl) (hb hby at_145) ?_
          intro T223 h224 N225 W226 V227
          rw [nar_pick] at V227
          have V228 : Arv Z h224 b195 kA196 .char (3 : Int32) [(.int (f_pick i1)), (.int (f_pick i2)), (.int (f_pick i3))] (.int (0 : Int32)) := V227
          have X229 : Ext h0 h224 := ext_wr X221 W226 g201
          have X230 : Ext h183 h224 := ext_wr X222 W226 g202
          show Ends p e below _ T223 (mkF m 146 #[.val (.int i0), .val (.int i1), .val (.int i2), .val (.int i3), .val (.int i4), .val (.int i5), .val (.int ((i0 &&& (2147483647 : Int32)) % (7 : Int32))), .val (.int (f_pick i1)), .val (.int (f_pick i2)), .val (.int (f_pick i3)), .val (.int (f_pick i4)), .val (.int (f_pick i5)), .unset, .unset, .unset, .unset, .unset] [(.ref b195), (.ref a184), (.ref a184)])
          refine gSpecial (W := 1) (y := (⟨"java/lang/String", "<init>", "([C)V"⟩ : MethodName)) (a := a184) (argsL := [(.ref b195)]) (rest := [(.ref a184)]) rfl N225 hx hZ hown (hw _ (List.mem_of_getElem? (i := 9) rfl)) (hw _ (List.mem_of_getElem? (i := 10) rfl)) (hw _ (List.mem_of_getElem? (i := 11) rfl)) (by decide) (strNew (W := 1) (cs := [(f_pick i1), (f_pick i2), (f_pick i3)]) hZ hw G N225.ext g191 (A188.ext X230) ((D189 (Or.inr (hw _ (List.mem_of_getElem? (i := 21) rfl))) (ty := .array .byte) (by decide)).ext X230) ((D189 (Or.inr (hw _ (List.mem_of_getElem? (i := 22) rfl))) (ty := .byte) (by decide)).ext X230) V228 (nle rfl) (nle rfl) (hp_cons (pick_ok _) (hp_cons (pick_ok _) (hp_cons (pick_ok _) hp_nil))) (nle rfl) (nle rfl)) (hb hby at_146) rfl (by rw [hml]; rfl) (lenOf (by decide +kernel : parseMethodDescriptor "([C)V" = some ⟨[(.array .char)], none⟩) rfl) (nle rfl) (nle rfl) (nle rfl) (fun _ _ _ q => q.2.2.2) ?_
          rintro _ T231 h232 L233 N234 ⟨rfl, K235, S236, -⟩
          have X237 : Ext h0 h232 := ext_keep X229 K235 g190
          show Ends p e below _ T231 (mkF m 149 #[.val (.int i0), .val (.int i1), .val (.int i2), .val (.int i3), .val (.int i4), .val (.int i5), .val (.int ((i0 &&& (2147483647 : Int32)) % (7 : Int32))), .val (.int (f_pick i1)), .val (.int (f_pick i2)), .val (.int (f_pick i3)), .val (.int (f_pick i4)), .val (.int (f_pick i5)), .unset, .unset, .unset, .unset, .unset] [(.ref a184)])
          refine Ends.go (f' := (mkF m 151 #[.val (.int i0), .val (.int i1), .val (.int i2), .val (.int i3), .val (.int i4), .val (.int i5), .val (.int ((i0 &&& (2147483647 : Int32)) % (7 : Int32))), .val (.int (f_pick i1)), .val (.int (f_pick i2)), .val (.int (f_pick i3)), .val (.int (f_pick i4)), .val (.int (f_pick i5)), .val (.ref a184), .unset, .unset, .unset, .unset] [])) (fun t k => XS.astore N234.here hx rfl (hb hby at_149) rfl rfl (l' := #[.val (.int i0), .val (.int i1), .val (.int i2), .val (.int i3), .val (.int i4), .val (.int i5), .val (.int ((i0 &&& (2147483647 : Int32)) % (7 : Int32))), .val (.int (f_pick i1)), .val (.int (f_pick i2)), .val (.int (f_pick i3)), .val (.int (f_pick i4)), .val (.int (f_pick i5)), .val (.ref a184), .unset, .unset, .unset, .unset]) rfl k) ?_
          refine Ends.go (f' := (mkF m 244 #[.val (.int i0), .val (.int i1), .val (.int i2), .val (.int i3), .val (.int i4), .val (.int i5), .val (.int ((i0 &&& (2147483647 : Int32)) % (7 : Int32))), .val (.int (f_pick i1)), .val (.int (f_pick i2)), .val (.int (f_pick i3)), .val (.int (f_pick i4)), .val (.int (f_pick i5)), .val (.ref a184), .unset, .unset, .unset, .unset] [])) (fun t k => XS.goto N234.here hx rfl (pc0 := 151) (pc' := 244) rfl (hb hby at_151) (by decide) (by decide) k) ?_
          exact join vm0 T231 h232 _ _ (N234.mono (nle rfl) (nle rfl)) hZ hown (wd0.ext X237) (Or.inr ⟨_, [(f_pick i1), (f_pick i2), (f_pick i3)], rfl, rfl, S236⟩) (by simp only [strOf, if_neg l0, if_neg l1, if_neg l2, if_pos l3])
        · refine Ends.go (f' := (mkF m 154 #[.val (.int i0), .val (.int i1), .val (.int i2), .val (.int i3), .val (.int i4), .val (.int i5), .val (.int ((i0 &&& (2147483647 : Int32)) % (7 : Int32))), .val (.int (f_pick i1)), .val (.int (f_pick i2)), .val (.int (f_pick i3)), .val (.int (f_pick i4)), .val (.int (f_pick i5)), .unset, .unset, .unset, .unset, .unset] [])) (fun t k => XS.icmpYes N22.here hx rfl (pc0 := 121) (pc' := 154) rfl (hb hby at_121) rfl (XT.ii_ne_t l3) (by decide) (by decide) k) ?_
          refine Ends.go (f' := (mkF m 156 #[.val (.int i0), .val (.int i1), .val (.int i2), .val (.int i3), .val (.int i4), .val (.int i5), .val (.int ((i0 &&& (2147483647 : Int32)) % (7 : Int32))), .val (.int (f_pick i1)), .val (.int (f_pick i2)), .val (.int (f_pick i3)), .val (.int (f_pick i4)), .val (.int (f_pick i5)), .unset, .unset, .unset, .unset, .unset] [(.int ((i0 &&& (2147483647 : Int32)) % (7 : Int32)))])) (fun t k => XS.iload N22.here hx rfl (hb hby at_154) rfl k) ?_
          refine Ends.go (f' := (mkF m 157 #[.val (.int i0), .val (.int i1), .val (.int i2), .val (.int i3), .val (.int i4), .val (.int i5), .val (.int ((i0 &&& (2147483647 : Int32)) % (7 : Int32))), .val (.int (f_pick i1)), .val (.int (f_pick i2)), .val (.int (f_pick i3)), .val (.int (f_pick i4)), .val (.int (f_pick i5)), .unset, .unset, .unset, .unset, .unset] [(.int (4 : Int32)), (.int ((i0 &&& (2147483647 : Int32)) % (7 : Int32)))])) (fun t k => XS.iconst N22.here hx rfl (hb hby at_156) k) ?_
          by_cases l4 : ((i0 &&& (2147483647 : Int32)) % (7 : Int32)) = (4 : Int32)
          · refine Ends.go (f' := (mkF m 160 #[.val (.int i0), .val (.int i1), .val (.int i2), .val (.int i3), .val (.int i4), .val (.int i5), .val (.int ((i0 &&& (2147483647 : Int32)) % (7 : Int32))), .val (.int (f_pick i1)), .val (.int (f_pick i2)), .val (.int (f_pick i3)), .val (.int (f_pick i4)), .val (.int (f_pick i5)), .unset, .unset, .unset, .unset, .unset] [])) (fun t k => XS.icmpNo N22.here hx rfl (hb hby at_157) rfl (XT.ii_ne_f l4) k) ?_
            refine gNew (a0 := a0) N22 hx hZ hown (hw _ (List.mem_of_getElem? (i := 5) rfl)) (hw _ (List.mem_of_getElem? (i := 6) rfl)) (hw _ (List.mem_of_getElem? (i := 7) rfl)) (hb hby at_160) (nle rfl) (nle rfl) ?_
            intro T238 h239 a240 ea241 N242 E243 A244 D245
            have g246 : h0.size ≤ a240 := by rw [ea241]; exact X25.1
            have g247 : Z.heap.size ≤ a240 := by rw [ea241]; exact N22.le
            have X248 : Ext h0 h239 := ext_trans X25 E243
            show Ends p e below _ T238 (mkF m 163 #[.val (.int i0), .val (.int i1), .val (.int i2), .val (.int i3), .val (.int i4), .val (.int i5), .val (.int ((i0 &&& (2147483647 : Int32)) % (7 : Int32))), .val (.int (f_pick i1)), .val (.int (f_pick i2)), .val (.int (f_pick i3)), .val (.int (f_pick i4)), .val (.int (f_pick i5)), .unset, .unset, .unset, .unset, .unset] [(.ref a240)])
            refine Ends.go (f' := (mkF m 164 #[.val (.int i0), .val (.int i1), .val (.int i2), .val (.int i3), .val (.int i4), .val (.int i5), .val (.int ((i0 &&& (2147483647 : Int32)) % (7 : Int32))), .val (.int (f_pick i1)), .val (.int (f_pick i2)), .val (.int (f_pick i3)), .val (.int (f_pick i4)), .val (.int (f_pick i5)), .unset, .unset, .unset, .unset, .unset] [(.ref a240), (.ref a240)])) (fun t k => XS.dup N242.here hx rfl (hb hby at_163) rfl rfl k) ?_
            refine Ends.go (f' := (mkF m 165 #[.val (.int i0), .val (.int i1), .val (.int i2), .val (.int i3), .val (.int i4), .val (.int i5), .val (.int ((i0 &&& (2147483647 : Int32)) % (7 : Int32))), .val (.int (f_pick i1)), .val (.int (f_pick i2)), .val (.int (f_pick i3)), .val (.int (f_pick i4)), .val (.int (f_pick i5)), .unset, .unset, .unset, .unset, .unset] [(.int (4 : Int32)), (.ref a240), (.ref a240)])) (fun t k => XS.iconst N242.here hx rfl (hb hby at_164) k) ?_
            refine gArr 4 N242 hx hZ (hw _ (List.mem_of_getElem? (i := 8) rfl)) (hb hby at_165) (by decide) (nle rfl) (nle rfl) (nle rfl) (nle rfl) ?_
            intro T249 h250 b251 kA252 eb253 N254 E255 V256
            have g257 : h0.size ≤ b251 := by rw [eb253]; exact X248.1
            have g258 : h239.size ≤ b251 := by rw [eb253]; exact (ext_refl h239).1
            have g259 : Z.heap.size ≤ b251 := by rw [eb253]; exact N242.le
            have X260 : Ext h0 h250 := ext_trans X248 E255
            have X261 : Ext h239 h250 := ext_trans (ext_refl h239) E255
            have V262 : Arv Z h250 b251 kA252 .char (4 : Int32) [(.int (0 : Int32)), (.int (0 : Int32)), (.int (0 : Int32)), (.int (0 : Int32))] (.int (0 : Int32)) := V256.pad (pad_rep [] (.int (0 : Int32)) 4)
            show Ends p e below _ T249 (mkF m 167 #[.val (.int i0), .val (.int i1), .val (.int i2), .val (.int i3), .val (.int i4), .val (.int i5), .val (.int ((i0 &&& (2147483647 : Int32)) % (7 : Int32))), .val (.int (f_pick i1)), .val (.int (f_pick i2)), .val (.int (f_pick i3)), .val (.int (f_pick i4)), .val (.int (f_pick i5)), .unset, .unset, .unset, .unset, .unset] [(.ref b251), (.ref a240), (.ref a240)])
            refine Ends.go (f' := (mkF m 168 #[.val (.int i0), .val (.int i1), .val (.int i2), .val (.int i3), .val (.int i4), .val (.int i5), .val (.int ((i0 &&& (2147483647 : Int32)) % (7 : Int32))), .val (.int (f_pick i1)), .val (.int (f_pick i2)), .val (.int (f_pick i3)), .val (.int (f_pick i4)), .val (.int (f_pick i5)), .unset, .unset, .unset, .unset, .unset] [(.ref b251), (.ref b251), (.ref a240), (.ref a240)])) (fun t k => XS.dup N254.here hx rfl (hb hby at_167) rfl rfl k) ?_
            refine Ends.go (f' := (mkF m 169 #[.val (.int i0), .val (.int i1), .val (.int i2), .val (.int i3), .val (.int i4), .val (.int i5), .val (.int ((i0 &&& (2147483647 : Int32)) % (7 : Int32))), .val (.int (f_pick i1)), .val (.int (f_pick i2)), .val (.int (f_pick i3)), .val (.int (f_pick i4)), .val (.int (f_pick i5)), .unset, .unset, .unset, .unset, .unset] [(.int (0 : Int32)), (.ref b251), (.ref b251), (.ref a240), (.ref a240)])) (fun t k => XS.iconst N254.here hx rfl (hb hby at_168) k) ?_
            refine Ends.go (f' := (mkF m 171 #[.val (.int i0), .val (.int i1), .val (.int i2), .val (.int i3), .val (.int i4), .val (.int i5), .val (.int ((i0 &&& (2147483647 : Int32)) % (7 : Int32))), .val (.int (f_pick i1)), .val (.int (f_pick i2)), .val (.int (f_pick i3)), .val (.int (f_pick i4)), .val (.int (f_pick i5)), .unset, .unset, .unset, .unset, .unset] [(.int (f_pick i1)), (.int (0 : Int32)), (.ref b251), (.ref b251), (.ref a240), (.ref a240)])) (fun t k => XS.iload N254.here hx rfl (hb hby at_169) rfl k) ?_
            refine gStC 0 N254 hx hZ V262 g259 (by decide) rfl (nle rfl) (hb hby at_171) ?_
            intro T263 h264 N265 W266 V267
            rw [nar_pick] at V267
            have V268 : Arv Z h264 b251 kA252 .char (4 : Int32) [(.int (f_pick i1)), (.int (0 : Int32)), (.int (0 : Int32)), (.int (0 : Int32))] (.int (0 : Int32)) := V267
            have X269 : Ext h0 h264 := ext_wr X260 W266 g257
            have X270 : Ext h239 h264 := ext_wr X261 W266 g258
            show Ends p e below _ T263 (mkF m 172 #[.val (.int i0), .val (.int i1), .val (.int i2), .val (.int i3), .val (.int i4), .val (.int i5), .val (.int ((i0 &&& (2147483647 : Int32)) % (7 : Int32))), .val (.int (f_pick i1)), .val (.int (f_pick i2)), .val (.int (f_pick i3)), .val (.int (f_pick i4)), .val (.int (f_pick i5)), .unset, .unset, .unset, .unset, .unset] [(.ref b251), (.ref a240), (.ref a240)])
            refine Ends.go (f' := (mkF m 173 #[.val (.int i0), .val (.int i1), .val (.int i2), .val (.int i3), .val (.int i4), .val (.int i5), .val (.int ((i0 &&& (2147483647 : Int32)) % (7 : Int32))), .val (.int (f_pick i1)), .val (.int (f_pick i2)), .val (.int (f_pick i3)), .val (.int (f_pick i4)), .val (.int (f_pick i5)), .unset, .unset, .unset, .unset, .unset] [(.ref b251), (.ref b251), (.ref a240), (.ref a240)])) (fun t k => XS.dup N265.here hx rfl (hb hby at_172) rfl rfl k) ?_
            refine Ends.go (f' := (mkF m 174 #[.val (.int i0), .val (.int i1), .val (.int i2), .val (.int i3), .val (.int i4), .val (.int i5), .val (.int ((i0 &&& (2147483647 : Int32)) % (7 : Int32))), .val (.int (f_pick i1)), .val (.int (f_pick i2)), .val (.int (f_pick i3)), .val (.int (f_pick i4)), .val (.int (f_pick i5)), .unset, .unset, .unset, .unset, .unset] [(.int (1 : Int32)), (.ref b251), (.ref b251), (.ref a240), (.ref a240)])) (fun t k => XS.iconst N265.here hx rfl (hb hby at_173) k) ?_
            refine Ends.go (f' := (mkF m 176 #[.val (.int i0), .val (.int i1), .val (.int i2), .val (.int i3), .val (.int i4), .val (.int i5), .val (.int ((i0 &&& (2147483647 : Int32)) % (7 : Int32))), .val (.int (f_pick i1)), .val (.int (f_pick i2)), .val (.int (f_pick i3)), .val (.int (f_pick i4)), .val (.int (f_pick i5)), .unset, .unset, .unset, .unset, .unset] [(.int (f_pick i2)), (.int (1 : Int32)), (.ref b251), (.ref b251), (.ref a240), (.ref a240)])) (fun t k => XS.iload N265.here hx rfl (hb hby at_174) rfl k) ?_
            refine gStC 1 N265 hx hZ V268 g259 (by decide) rfl (nle rfl) (hb hby at_176) ?_
            intro T271 h272 N273 W274 V275
            rw [nar_pick] at V275
            have V276 : Arv Z h272 b251 kA252 .char (4 : Int32) [(.int (f_pick i1)), (.int (f_pick i2)), (.int (0 : Int32)), (.int (0 : Int32))] (.int (0 : Int32)) := V275
            have X277 : Ext h0 h272 := ext_wr X269 W274 g257
            have X278 : Ext h239 h272 := ext_wr X270 W274 g258
            show Ends p e below _ T271 (mkF m 177 #[.val (.int i0), .val (.int i1), .val (.int i2), .val (.int i3), .val (.int i4), .val (.int i5), .val (.int ((i0 &&& (2147483647 : Int32)) % (7 : Int32))), .val (.int (f_pick i1)), .val (.int (f_pick i2)), .val (.int (f_pick i3)), .val (.int (f_pick i4)), .val (.int (f_pick i5)), .unset, .unset, .unset, .unset, .unset] [(.ref b251), (.ref a240), (.ref a240)])
            refine Ends.go (f' := (mkF m 178 #[.val (.int i0), .val (.int i1), .val (.int i2), .val (.int i3), .val (.int i4), .val (.int i5), .val (.int ((i0 &&& (2147483647 : Int32)) % (7 : Int32))), .val (.int (f_pick i1)), .val (.int (f_pick i2)), .val (.int (f_pick i3)), .val (.int (f_pick i4)), .val (.int (f_pick i5)), .unset, .unset, .unset, .unset, .unset] [(.ref b251), (.ref b251), (.ref a240), (.ref a240)])) (fun t k => XS.dup N273.here hx rfl (hb hby at_177) rfl rfl k) ?_
            refine Ends.go (f' := (mkF m 179 #[.val (.int i0), .val (.int i1), .val (.int i2), .val (.int i3), .val (.int i4), .val (.int i5), .val (.int ((i0 &&& (2147483647 : Int32)) % (7 : Int32))), .val (.int (f_pick i1)), .val (.int (f_pick i2)), .val (.int (f_pick i3)), .val (.int (f_pick i4)), .val (.int (f_pick i5)), .unset, .unset, .unset, .unset, .unset] [(.int (2 : Int32)), (.ref b251), (.ref b251), (.ref a240), (.ref a240)])) (fun t k => XS.iconst N273.here hx rfl (hb hby at_178) k) ?_
            refine Ends.go (f' := (mkF m 181 #[.val (.int i0), .val (.int i1), .val (.int i2), .val (.int i3), .val (.int i4), .val (.int i5), .val (.int ((i0 &&& (2147483647 : Int32)) % (7 : Int32))), .val (.int (f_pick i1)), .val (.int (f_pick i2)), .val (.int (f_pick i3)), .val (.int (f_pick i4)), .val (.int (f_pick i5)), .unset, .unset, .unset, .unset, .unset] [(.int (f_pick i3)), (.int (2 : Int32)), (.ref b251), (.ref b251), (.ref a240), (.ref a240)])) (fun t k => XS.iload N273.here hx rfl (hb hby at_179) rfl k) ?_
            refine gStC 2 N273 hx hZ V276 g259 (by decide) rfl (nle rfl) (hb hby at_181) ?_
            intro T279 h280 N281 W282 V283
            rw [nar_pick] at V283
            have V284 : Arv Z h280 b251 kA252 .char (4 : Int32) [(.int (f_pick i1)), (.int (f_pick i2)), (.int (f_pick i3)), (.int (0 : Int32))] (.int (0 : Int32)) := V283
            have X285 : Ext h0 h280 := ext_wr X277 W282 g257
            have X286 : Ext h239 h280 := ext_wr X278 W282 g258
            show Ends p e below _ T279 (mkF m 182 #[.val (.int i0), .val (.int i1), .val (.int i2), .val (.int i3), .val (.int i4), .val (.int i5), .val (.int ((i0 &&& (2147483647 : Int32)) % (7 : Int32))), .val (.int (f_pick i1)), .val (.int (f_pick i2)), .val (.int (f_pick i3)), .val (.int (f_pick i4)), .val (.int (f_pick i5)), .unset, .unset, .unset, .unset, .unset] [(.ref b251), (.ref a240), (.ref a240)])
            refine Ends.go (f' := (mkF m 183 #[.val (.int i0), .val (.int i1), .val (.int i2), .val (.int i3), .val (.int i4), .val (.int i5), .val (.int ((i0 &&& (2147483647 : Int32)) % (7 : Int32))), .val (.int (f_pick i1)), .val (.int (f_pick i2)), .val (.int (f_pick i3)), .val (.int (f_pick i4)), .val (.int (f_pick i5)), .unset, .unset, .unset, .unset, .unset] [(.ref b251), (.ref b251), (.ref a240), (.ref a240)])) (fun t k => XS.dup N281.here hx rfl (hb hby at_182) rfl rfl k) ?_
            refine Ends.go (f' := (mkF m 184 #[.val (.int i0), .val (.int i1), .val (.int i2), .val (.int i3), .val (.int i4), .val (.int i5), .val (.int ((i0 &&& (2147483647 : Int32)) % (7 : Int32))), .val (.int (f_pick i1)), .val (.int (f_pick i2)), .val (.int (f_pick i3)), .val (.int (f_pick i4)), .val (.int (f_pick i5)), .unset, .unset, .unset, .unset, .unset] [(.int (3 : Int32)), (.ref b251), (.ref b251), (.ref a240), (.ref a240)])) (fun t k => XS.iconst N281.here hx rfl (hb hby at_183) k) ?_
            refine Ends.go (f' := (mkF m 186 #[.val (.int i0), .val (.int i1), .val (.int i2), .val (.int i3), .val (.int i4), .val (.int i5), .val (.int ((i0 &&& (2147483647 : Int32)) % (7 : Int32))), .val (.int (f_pick i1)), .val (.int (f_pick i2)), .val (.int (f_pick i3)), .val (.int (f_pick i4)), .val (.int (f_pick i5)), .unset, .unset, .unset, .unset, .unset] [(.int (f_pick i4)), (.int (3 : Int32)), (.ref b251), (.ref b251), (.ref a240), (.ref a240)])) (fun t k => XS.iload N281.here hx rfl (hb hby at_184) rfl k) ?_
            refine gStC 3 N281 hx hZ V284 g259 (by decide) rfl (nle rfl) (hb hby at_186) ?_
            intro T287 h288 N289 W290 V291
            rw [nar_pick] at V291
            have V292 : Arv Z h288 b251 kA252 .char (4 : Int32) [(.int (f_pick i1)), (.int (f_pick i2)), (.int (f_pick i3)), (.int (f_pick i4))] (.int (0 : Int32)) := V291
            have X293 : Ext h0 h288 := ext_wr X285 W290 g257
            have X294 : Ext h239 h288 := ext_wr X286 W290 g258
            show Ends p e below _ T287 (mkF m 187 #[.val (.int i0), .val (.int i1), .val (.int i2), .val (.int i3), .val (.int i4), .val (.int i5), .val (.int ((i0 &&& (2147483647 : Int32)) % (7 : Int32))), .val (.int (f_pick i1)), .val (.int (f_pick i2)), .val (.int (f_pick i3)), .val (.int (f_pick i4)), .val (.int (f_pick i5)), .unset, .unset, .unset, .unset, .unset] [(.ref b251), (.ref a240), (.ref a240)])
            refine gSpecial (W := 1) (y := (⟨"java/lang/String", "<init>", "([C)V"⟩ : MethodName)) (a := a240) (argsL := [(.ref b251)]) (rest := [(.ref a240)]) rfl N289 hx hZ hown (hw _ (List.mem_of_getElem? (i := 9) rfl)) (hw _ (List.mem_of_getElem? (i := 10) rfl)) (hw _ (List.mem_of_getElem? (i := 11) rfl)) (by decide) (strNew (W := 1) (cs := [(f_pick i1), (f_pick i2), (f_pick i3), (f_pick i4)]) hZ hw G N289.ext g247 (A244.ext X294) ((D245 (Or.inr (hw _ (List.mem_of_getElem? (i := 21) rfl))) (ty := .array .byte) (by decide)).ext X294) ((D245 (Or.inr (hw _ (List.mem_of_getElem? (i := 22) rfl))) (ty := .byte) (by decide)).ext X294) V292 (nle rfl) (nle rfl) (hp_cons (pick_ok _) (hp_cons (pick_ok _) (hp_cons (pick_ok _) (hp_cons (pick_ok _) hp_nil)))) (nle rfl) (nle rfl)) (hb hby at_187) rfl (by rw [hml]; rfl) (lenOf (by decide +kernel : parseMethodDescriptor "([C)V" = some ⟨[(.array .char)], none⟩) rfl) (nle rfl) (nle rfl) (nle rfl) (fun _ _ _ q => q.2.2.2) ?_
            rintro _ T295 h296 L297 N298 ⟨rfl, K299, S300, -⟩
            have X301 : Ext h0 h296 := ext_keep X293 K299 g246
            show Ends p e below _ T295 (mkF m 190 #[.val (.int i0), .val (.int i1), .val (.int i2), .val (.int i3), .val (.int i4), .val (.int i5), .val (.int ((i0 &&& (2147483647 : Int32)) % (7 : Int32))), .val (.int (f_pick i1)), .val (.int (f_pick i2)), .val (.int (f_pick i3)), .val (.int (f_pick i4)), .val (.int (f_pick i5)), .unset, .unset, .unset, .unset, .unset] [(.ref a240)])
            refine Ends.go (f' := (mkF m 192 #[.val (.int i0), .val (.int i1), .val (.int i2), .val (.int i3), .val (.int i4), .val (.int i5), .val (.int ((i0 &&& (2147483647 : Int32)) % (7 : Int32))), .val (.int (f_pick i1)), .val (.int (f_pick i2)), .val (.int (f_pick i3)), .val (.int (f_pick i4)), .val (.int (f_pick i5)), .val (.ref a240), .unset, .unset, .unset, .unset] [])) (fun t k => XS.astore N298.here hx rfl (hb hby at_190) rfl rfl (l' := #[.val (.int i0), .val (.int i1), .val (.int i2), .val (.int i3), .val (.int i4), .val (.int i5), .val (.int ((i0 &&& (2147483647 : Int32)) % (7 : Int32))), .val (.int (f_pick i1)), .val (.int (f_pick i2)), .val (.int (f_pick i3)), .val (.int (f_pick i4)), .val (.int (f_pick i5)), .val (.ref a240), .unset, .unset, .unset, .unset]) rfl k) ?_
            refine Ends.go (f' := (mkF m 244 #[.val (.int i0), .val (.int i1), .val (.int i2), .val (.int i3), .val (.int i4), .val (.int i5), .val (.int ((i0 &&& (2147483647 : Int32)) % (7 : Int32))), .val (.int (f_pick i1)), .val (.int (f_pick i2)), .val (.int (f_pick i3)), .val (.int (f_pick i4)), .val (.int (f_pick i5)), .val (.ref a240), .unset, .unset, .unset, .unset] [])) (fun t k => XS.goto N298.here hx rfl (pc0 := 192) (pc' := 244) rfl (hb hby at_192) (by decide) (by decide) k) ?_
            exact join vm0 T295 h296 _ _ (N298.mono (nle rfl) (nle rfl)) hZ hown (wd0.ext X301) (Or.inr ⟨_, [(f_pick i1), (f_pick i2), (f_pick i3), (f_pick i4)], rfl, rfl, S300⟩) (by simp only [strOf, if_neg l0, if_neg l1, if_neg l2, if_neg l3, if_pos l4])
          · refine Ends.go (f' := (mkF m 195 #[.val (.int i0), .val (.int i1), .val (.int i2), .val (.int i3), .val (.int i4), .val (.int i5), .val (.int ((i0 &&& (2147483647 : Int32)) % (7 : Int32))), .val (.int (f_pick i1)), .val (.int (f_pick i2)), .val (.int (f_pick i3)), .val (.int (f_pick i4)), .val (.int (f_pick i5)), .unset, .unset, .unset, .unset, .unset] [])) (fun t k => XS.icmpYes N22.here hx rfl (pc0 := 157) (pc' := 195) rfl (hb hby at_157) rfl (XT.ii_ne_t l4) (by decide) (by decide) k) ?_
            refine Ends.go (f' := (mkF m 197 #[.val (.int i0), .val (.int i1), .val (.int i2), .val (.int i3), .val (.int i4), .val (.int i5), .val (.int ((i0 &&& (2147483647 : Int32)) % (7 : Int32))), .val (.int (f_pick i1)), .val (.int (f_pick i2)), .val (.int (f_pick i3)), .val (.int (f_pick i4)), .val (.int (f_pick i5)), .unset, .unset, .unset, .unset, .unset] [(.int ((i0 &&& (2147483647 : Int32)) % (7 : Int32)))])) (fun t k => XS.iload N22.here hx rfl (hb hby at_195) rfl k) ?_
            refine Ends.go (f' := (mkF m 198 #[.val (.int i0), .val (.int i1), .val (.int i2), .val (.int i3), .val (.int i4), .val (.int i5), .val (.int ((i0 &&& (2147483647 : Int32)) % (7 : Int32))), .val (.int (f_pick i1)), .val (.int (f_pick i2)), .val (.int (f_pick i3)), .val (.int (f_pick i4)), .val (.int (f_pick i5)), .unset, .unset, .unset, .unset, .unset] [(.int (5 : Int32)), (.int ((i0 &&& (2147483647 : Int32)) % (7 : Int32)))])) (fun t k => XS.iconst N22.here hx rfl (hb hby at_197) k) ?_
            by_cases l5 : ((i0 &&& (2147483647 : Int32)) % (7 : Int32)) = (5 : Int32)
            · refine Ends.go (f' := (mkF m 201 #[.val (.int i0), .val (.int i1), .val (.int i2), .val (.int i3), .val (.int i4), .val (.int i5), .val (.int ((i0 &&& (2147483647 : Int32)) % (7 : Int32))), .val (.int (f_pick i1)), .val (.int (f_pick i2)), .val (.int (f_pick i3)), .val (.int (f_pick i4)), .val (.int (f_pick i5)), .unset, .unset, .unset, .unset, .unset] [])) (fun t k => XS.icmpNo N22.here hx rfl (hb hby at_198) rfl (XT.ii_ne_f l5) k) ?_
              refine gNew (a0 := a0) N22 hx hZ hown (hw _ (List.mem_of_getElem? (i := 5) rfl)) (hw _ (List.mem_of_getElem? (i := 6) rfl)) (hw _ (List.mem_of_getElem? (i := 7) rfl)) (hb hby at_201) (nle rfl) (nle rfl) ?_
              intro T302 h303 a304 ea305 N306 E307 A308 D309
              have g310 : h0.size ≤ a304 := by rw [ea305]; exact X25.1
              have g311 : Z.heap.size ≤ a304 := by rw [ea305]; exact N22.le
              have X312 : Ext h0 h303 := ext_trans X25 E307
              show Ends p e below _ T302 (mkF m 204 #[.val (.int i0), .val (.int i1), .val (.int i2), .val (.int i3), .val (.int i4), .val (.int i5), .val (.int ((i0 &&& (2147483647 : Int32)) % (7 : Int32))), .val (.int (f_pick i1)), .val (.int (f_pick i2)), .val (.int (f_pick i3)), .val (.int (f_pick i4)), .val (.int (f_pick i5)), .unset, .unset, .unset, .unset, .unset] [(.ref a304)])
              refine Ends.go (f' := (mkF m 205 #[.val (.int i0), .val (.int i1), .val (.int i2), .val (.int i3), .val (.int i4), .val (.int i5), .val (.int ((i0 &&& (2147483647 : Int32)) % (7 : Int32))), .val (.int (f_pick i1)), .val (.int (f_pick i2)), .val (.int (f_pick i3)), .val (.int (f_pick i4)), .val (.int (f_pick i5)), .unset, .unset, .unset, .unset, .unset] [(.ref a304), (.ref a304)])) (fun t k => XS.dup N306.here hx rfl (hb hby at_204) rfl rfl k) ?_
              refine Ends.go (f' := (mkF m 206 #[.val (.int i0), .val (.int i1), .val (.int i2), .val (.int i3), .val (.int i4), .val (.int i5), .val (.int ((i0 &&& (2147483647 : Int32)) % (7 : Int32))), .val (.int (f_pick i1)), .val (.int (f_pick i2)), .val (.int (f_pick i3)), .val (.int (f_pick i4)), .val (.int (f_pick i5)), .unset, .unset, .unset, .unset, .unset] [(.int (5 : Int32)), (.ref a304), (.ref a304)])) (fun t k => XS.iconst N306.here hx rfl (hb hby at_205) k) ?_
              refine gArr 5 N306 hx hZ (hw _ (List.mem_of_getElem? (i := 8) rfl)) (hb hby at_206) (by decide) (nle rfl) (nle rfl) (nle rfl) (nle rfl) ?_
              intro T313 h314 b315 kA316 eb317 N318 E319 V320
              have g321 : h0.size ≤ b315 := by rw [eb317]; exact X312.1
              have g322 : h303.size ≤ b315 := by rw [eb317]; exact (ext_refl h303).1
              have g323 : Z.heap.size ≤ b315 := by rw [eb317]; exact N306.le
              have X324 : Ext h0 h314 := ext_trans X312 E319
              have X325 : Ext h303 h314 := ext_trans (ext_refl h303) E319
              have V326 : Arv Z h314 b315 kA316 .char (5 : Int32) [(.int (0 : Int32)), (.int (0 : Int32)), (.int (0 : Int32)), (.int (0 : Int32)), (.int (0 : Int32))] (.int (0 : Int32)) := V320.pad (pad_rep [] (.int (0 : Int32)) 5)
              show Ends p e below _ T313 (mkF m 208 #[.val (.int i0), .val (.int i1), .val (.int i2), .val (.int i3), .val (.int i4), .val (.int i5), .val (.int ((i0 &&& (2147483647 : Int32)) % (7 : Int32))), .val (.int (f_pick i1)), .val (.int (f_pick i2)), .val (.int (f_pick i3)), .val (.int (f_pick i4)), .val (.int (f_pick i5)), .unset, .unset, .unset, .unset, .unset] [(.ref b315), (.ref a304), (.ref a304)])
              refine Ends.go (f' := (mkF m 209 #[.val (.int i0), .val (.int i1), .val (.int i2), .val (.int i3), .val (.int i4), .val (.int i5), .val (.int ((i0 &&& (2147483647 : Int32)) % (7 : Int32))), .val (.int (f_pick i1)), .val (.int (f_pick i2)), .val (.int (f_pick i3)), .val (.int (f_pick i4)), .val (.int (f_pick i5)), .unset, .unset, .unset, .unset, .unset] [(.ref b315), (.ref b315), (.ref a304), (.ref a304)])) (fun t k => XS.dup N318.here hx rfl (hb hby at_208) rfl rfl k) ?_
              refine Ends.go (f' := (mkF m 210 #[.val (.int i0), .val (.int i1), .val (.int i2), .val (.int i3), .val (.int i4), .val (.int i5), .val (.int ((i0 &&& (2147483647 : Int32)) % (7 : Int32))), .val (.int (f_pick i1)), .val (.int (f_pick i2)), .val (.int (f_pick i3)), .val (.int (f_pick i4)), .val (.int (f_pick i5)), .unset, .unset, .unset, .unset, .unset] [(.int (0 : Int32)), (.ref b315), (.ref b315), (.ref a304), (.ref a304)])) (fun t k => XS.iconst N318.here hx rfl (hb hby at_209) k) ?_
              refine Ends.go (f' := (mkF m 212 #[.val (.int i0), .val (.int i1), .val (.int i2), .val (.int i3), .val (.int i4), .val (.int i5), .val (.int ((i0 &&& (2147483647 : Int32)) % (7 : Int32))), .val (.int (f_pick i1)), .val (.int (f_pick i2)), .val (.int (f_pick i3)), .val (.int (f_pick i4)), .val (.int (f_pick i5)), .unset, .unset, .unset, .unset, .unset] [(.int (f_pick i1)), (.int (0 : Int32)), (.ref b315), (.ref b315), (.ref a304), (.ref a304)])) (fun t k => XS.iload N318.here hx rfl (hb hby at_210) rfl k) ?_
              refine gStC 0 N318 hx hZ V326 g323 (by decide) rfl (nle rfl) (hb hby at_212) ?_
              intro T327 h328 N329 W330 V331
              rw [nar_pick] at V331
              have V332 : Arv Z h328 b315 kA316 .char (5 : Int32) [(.int (f_pick i1)), (.int (0 : Int32)), (.int (0 : Int32)), (.int (0 : Int32)), (.int (0 : Int32))] (.int (0 : Int32)) := V331
              have X333 : Ext h0 h328 := ext_wr X324 W330 g321
              have X334 : Ext h303 h328 := ext_wr X325 W330 g322
              show Ends p e below _ T327 (mkF m 213 #[.val (.int i0), .val (.int i1), .val (.int i2), .val (.int i3), .val (.int i4), .val (.int i5), .val (.int ((i0 &&& (2147483647 : Int32)) % (7 : Int32))), .val (.int (f_pick i1)), .val (.int (f_pick i2)), .val (.int (f_pick i3)), .val (.int (f_pick i4)), .val (.int (f_pick i5)), .unset, .unset, .unset, .unset, .unset] [(.ref b315), (.ref a304), (.ref a304)])
              refine Ends.go (f' := (mkF m 214 #[.val (.int i0), .val (.int i1), .val (.int i2), .val (.int i3), .val (.int i4), .val (.int i5), .val (.int ((i0 &&& (2147483647 : Int32)) % (7 : Int32))), .val (.int (f_pick i1)), .val (.int (f_pick i2)), .val (.int (f_pick i3)), .val (.int (f_pick i4)), .val (.int (f_pick i5)), .unset, .unset, .unset, .unset, .unset] [(.ref b315), (.ref b315), (.ref a304), (.ref a304)])) (fun t k => XS.dup N329.here hx rfl (hb hby at_213) rfl rfl k) ?_
              refine Ends.go (f' := (mkF m 215 #[.val (.int i0), .val (.int i1), .val (.int i2), .val (.int i3), .val (.int i4), .val (.int i5), .val (.int ((i0 &&& (2147483647 : Int32)) % (7 : Int32))), .val (.int (f_pick i1)), .val (.int (f_pick i2)), .val (.int (f_pick i3)), .val (.int (f_pick i4)), .val (.int (f_pick i5)), .unset, .unset, .unset, .unset, .unset] [(.int (1 : Int32)), (.ref b315), (.ref b315), (.ref a304), (.ref a304)])) (fun t k => XS.iconst N329.here hx rfl (hb hby at_214) k) ?_
              refine Ends.go (f' := (mkF m 217 #[.val (.int i0), .val (.int i1), .val (.int i2), .val (.int i3), .val (.int i4), .val (.int i5), .val (.int ((i0 &&& (2147483647 : Int32)) % (7 : Int32))), .val (.int (f_pick i1)), .val (.int (f_pick i2)), .val (.int (f_pick i3)), .val (.int (f_pick i4)), .val (.int (f_pick i5)), .unset, .unset, .unset, .unset, .unset] [(.int (f_pick i2)), (.int (1 : Int32)), (.ref b315), (.ref b315), (.ref a304), (.ref a304)])) (fun t k => XS.iload N329.here hx rfl (hb hby at_215) rfl k) ?_
              refine gStC 1 N329 hx hZ V332 g323 (by decide) rfl (nle rfl) (hb hby at_217) ?_
              intro T335 h336 N337 W338 V339
              rw [nar_pick] at V339
              have V340 : Arv Z h336 b315 kA316 .char (5 : Int32) [(.int (f_pick i1)), (.int (f_pick i2)), (.int (0 : Int32)), (.int (0 : Int32)), (.int (0 : Int32))] (.int (0 : Int32)) := V339
              have X341 : Ext h0 h336 := ext_wr X333 W338 g321
              have X342 : Ext h303 h336 := ext_wr X334 W338 g322
              show Ends p e below _ T335 (mkF m 218 #[.val (.int i0), .val (.int i1), .val (.int i2), .val (.int i3), .val (.int i4), .val (.int i5), .val (.int ((i0 &&& (2147483647 : Int32)) % (7 : Int32))), .val (.int (f_pick i1)), .val (.int (f_pick i2)), .val (.int (f_pick i3)), .val (.int (f_pick i4)), .val (.int (f_pick i5)), .unset, .unset, .unset, .unset, .unset] [(.ref b315), (.ref a304), (.ref a304)])
              refine Ends.go (f' := (mkF m 219 #[.val (.int i0), .val (.int i1), .val (.int i2), .val (.int i3), .val (.int i4), .val (.int i5), .val (.int ((i0 &&& (2147483647 : Int32)) % (7 : Int32))), .val (.int (f_pick i1)), .val (.int (f_pick i2)), .val (.int (f_pick i3)), .val (.int (f_pick i4)), .val (.int (f_pick i5)), .unset, .unset, .unset, .unset, .unset] [(.ref b315), (.ref b315), (.ref a304), (.ref a304)])) (fun t k => XS.dup N337.here hx rfl (hb hby at_218) rfl rfl k) ?_
              refine Ends.go (f' := (mkF m 220 #[.val (.int i0), .val (.int i1), .val (.int i2), .val (.int i3), .val (.int i4), .val (.int i5), .val (.int ((i0 &&& (2147483647 : Int32)) % (7 : Int32))), .val (.int (f_pick i1)), .val (.int (f_pick i2)), .val (.int (f_pick i3)), .val (.int (f_pick i4)), .val (.int (f_pick i5)), .unset, .unset, .unset, .unset, .unset] [(.int (2 : Int32)), (.ref b315), (.ref b315), (.ref a304), (.ref a304)])) (fun t k => XS.iconst N337.here hx rfl (hb hby at_219) k) ?_
              refine Ends.go (f' := (mkF m 222 #[.val (.int i0), .val (.int i1), .val (.int i2), .val (.int i3), .val (.int i4), .val (.int i5), .val (.int ((i0 &&& (2147483647 : Int32)) % (7 : Int32))), .val (.int (f_pick i1)), .val (.int (f_pick i2)), .val (.int (f_pick i3)), .val (.int (f_pick i4)), .val (.int (f_pick i5)), .unset, .unset, .unset, .unset, .unset] [(.int (f_pick i3)), (.int (2 : Int32)), (.ref b315), (.ref b315), (.ref a304), (.ref a304)])) (fun t k => XS.iload N337.here hx rfl (hb hby at_220) rfl k) ?_
              refine gStC 2 N337 hx hZ V340 g323 (by decide) rfl (nle rfl) (hb hby at_222) ?_
              intro T343 h344 N345 W346 V347
              rw [nar_pick] at V347
              have V348 : Arv Z h344 b315 kA316 .char (5 : Int32) [(.int (f_pick i1)), (.int (f_pick i2)), (.int (f_pick i3)), (.int (0 : Int32)), (.int (0 : Int32))] (.int (0 : Int32)) := V347
              have X349 : Ext h0 h344 := ext_wr X341 W346 g321
              have X350 : Ext h303 h344 := ext_wr X342 W346 g322
              show Ends p e below _ T343 (mkF m 223 #[.val (.int i0), .val (.int i1), .val (.int i2), .val (.int i3), .val (.int i4), .val (.int i5), .val (.int ((i0 &&& (2147483647 : Int32)) % (7 : Int32))), .val (.int (f_pick i1)), .val (.int (f_pick i2)), .val (.int (f_pick i3)), .val (.int (f_pick i4)), .val (.int (f_pick i5)), .unset, .unset, .unset, .unset, .unset] [(.ref b315), (.ref a304), (.ref a304)])
              refine Ends.go (f' := (mkF m 224 #[.val (.int i0), .val (.int i1), .val (.int i2), .val (.int i3), .val (.int i4), .val (.int i5), .val (.int ((i0 &&& (2147483647 : Int32)) % (7 : Int32))), .val (.int (f_pick i1)), .val (.int (f_pick i2)), .val (.int (f_pick i3)), .val (.int (f_pick i4)), .val (.int (f_pick i5)), .unset, .unset, .unset, .unset, .unset] [(.ref b315), (.ref b315), (.ref a304), (.ref a304)])) (fun t k => XS.dup N345.here hx rfl (hb hby at_223) rfl rfl k) ?_
              refine Ends.go (f' := (mkF m 225 #[.val (.int i0), .val (.int i1), .val (.int i2), .val (.int i3), .val (.int i4), .val (.int i5), .val (.int ((i0 &&& (2147483647 : Int32)) % (7 : Int32))), .val (.int (f_pick i1)), .val (.int (f_pick i2)), .val (.int (f_pick i3)), .val (.int (f_pick i4)), .val (.int (f_pick i5)), .unset, .unset, .unset, .unset, .unset] [(.int (3 : Int32)), (.ref b315), (.ref b315), (.ref a304), (.ref a304)])) (fun t k => XS.iconst N345.here hx rfl (hb hby at_224) k) ?_
              refine Ends.go (f' := (mkF m 227 #[.val (.int i0), .val (.int i1), .val (.int i2), .val (.int i3), .val (.int i4), .val (.int i5), .val (.int ((i0 &&& (2147483647 : Int32)) % (7 : Int32))), .val (.int (f_pick i1)), .val (.int (f_pick i2)), .val (.int (f_pick i3)), .val (.int (f_pick i4)), .val (.int (f_pick i5)), .unset, .unset, .unset, .unset, .unset] [(.int (f_pick i4)), (.int (3 : Int32)), (.ref b315), (.ref b315), (.ref a304), (.ref a304)])) (fun t k => XS.iload N345.here hx rfl (hb hby at_225) rfl k) ?_
              refine gStC 3 N345 hx hZ V348 g323 (by decide) rfl (nle rfl) (hb hby at_227) ?_
              intro T351 h352 N353 W354 V355
              rw [nar_pick] at V355
              have V356 : Arv Z h352 b315 kA316 .char (5 : Int32) [(.int (f_pick i1)), (.int (f_pick i2)), (.int (f_pick i3)), (.int (f_pick i4)), (.int (0 : Int32))] (.int (0 : Int32)) := V355
              have X357 : Ext h0 h352 := ext_wr X349 W354 g321
              have X358 : Ext h303 h352 := ext_wr X350 W354 g322
              show Ends p e below _ T351 (mkF m 228 #[.val (.int i0), .val (.int i1), .val (.int i2), .val (.int i3), .val (.int i4), .val (.int i5), .val (.int ((i0 &&& (2147483647 : Int32)) % (7 : Int32))), .val (.int (f_pick i1)), .val (.int (f_pick i2)), .val (.int (f_pick i3)), .val (.int (f_pick i4)), .val (.int (f_pick i5)), .unset, .unset, .unset, .unset, .unset] [(.ref b315), (.ref a304), (.ref a304)])
              refine Ends.go (f' := (mkF m 229 #[.val (.int i0), .val (.int i1), .val (.int i2), .val (.int i3), .val (.int i4), .val (.int i5), .val (.int ((i0 &&& (2147483647 : Int32)) % (7 : Int32))), .val (.int (f_pick i1)), .val (.int (f_pick i2)), .val (.int (f_pick i3)), .val (.int (f_pick i4)), .val (.int (f_pick i5)), .unset, .unset, .unset, .unset, .unset] [(.ref b315), (.ref b315), (.ref a304), (.ref a304)])) (fun t k => XS.dup N353.here hx rfl (hb hby at_228) rfl rfl k) ?_
              refine Ends.go (f' := (mkF m 230 #[.val (.int i0), .val (.int i1), .val (.int i2), .val (.int i3), .val (.int i4), .val (.int i5), .val (.int ((i0 &&& (2147483647 : Int32)) % (7 : Int32))), .val (.int (f_pick i1)), .val (.int (f_pick i2)), .val (.int (f_pick i3)), .val (.int (f_pick i4)), .val (.int (f_pick i5)), .unset, .unset, .unset, .unset, .unset] [(.int (4 : Int32)), (.ref b315), (.ref b315), (.ref a304), (.ref a304)])) (fun t k => XS.iconst N353.here hx rfl (hb hby at_229) k) ?_
              refine Ends.go (f' := (mkF m 232 #[.val (.int i0), .val (.int i1), .val (.int i2), .val (.int i3), .val (.int i4), .val (.int i5), .val (.int ((i0 &&& (2147483647 : Int32)) % (7 : Int32))), .val (.int (f_pick i1)), .val (.int (f_pick i2)), .val (.int (f_pick i3)), .val (.int (f_pick i4)), .val (.int (f_pick i5)), .unset, .unset, .unset, .unset, .unset] [(.int (f_pick i5)), (.int (4 : Int32)), (.ref b315), (.ref b315), (.ref a304), (.ref a304)])) (fun t k => XS.iload N353.here hx rfl (hb hby at_230) rfl k) ?_
              refine gStC 4 N353 hx hZ V356 g323 (by decide) rfl (nle rfl) (hb hby at_232) ?_
              intro T359 h360 N361 W362 V363
              rw [nar_pick] at V363
              have V364 : Arv Z h360 b315 kA316 .char (5 : Int32) [(.int (f_pick i1)), (.int (f_pick i2)), (.int (f_pick i3)), (.int (f_pick i4)), (.int (f_pick i5))] (.int (0 : Int32)) := V363
              have X365 : Ext h0 h360 := ext_wr X357 W362 g321
              have X366 : Ext h303 h360 := ext_wr X358 W362 g322
              show Ends p e below _ T359 (mkF m 233 #[.val (.int i0), .val (.int i1), .val (.int i2), .val (.int i3), .val (.int i4), .val (.int i5), .val (.int ((i0 &&& (2147483647 : Int32)) % (7 : Int32))), .val (.int (f_pick i1)), .val (.int (f_pick i2)), .val (.int (f_pick i3)), .val (.int (f_pick i4)), .val (.int (f_pick i5)), .unset, .unset, .unset, .unset, .unset] [(.ref b315), (.ref a304), (.ref a304)])
              refine gSpecial (W := 1) (y := (⟨"java/lang/String", "<init>", "([C)V"⟩ : MethodName)) (a := a304) (argsL := [(.ref b315)]) (rest := [(.ref a304)]) rfl N361 hx hZ hown (hw _ (List.mem_of_getElem? (i := 9) rfl)) (hw _ (List.mem_of_getElem? (i := 10) rfl)) (hw _ (List.mem_of_getElem? (i := 11) rfl)) (by decide) (strNew (W := 1) (cs := [(f_pick i1), (f_pick i2), (f_pick i3), (f_pick i4), (f_pick i5)]) hZ hw G N361.ext g311 (A308.ext X366) ((D309 (Or.inr (hw _ (List.mem_of_getElem? (i := 21) rfl))) (ty := .array .byte) (by decide)).ext X366) ((D309 (Or.inr (hw _ (List.mem_of_getElem? (i := 22) rfl))) (ty := .byte) (by decide)).ext X366) V364 (nle rfl) (nle rfl) (hp_cons (pick_ok _) (hp_cons (pick_ok _) (hp_cons (pick_ok _) (hp_cons (pick_ok _) (hp_cons (pick_ok _) hp_nil))))) (nle rfl) (nle rfl)) (hb hby at_233) rfl (by rw [hml]; rfl) (lenOf (by decide +kernel : parseMethodDescriptor "([C)V" = some ⟨[(.array .char)], none⟩) rfl) (nle rfl) (nle rfl) (nle rfl) (fun _ _ _ q => q.2.2.2) ?_
              rintro _ T367 h368 L369 N370 ⟨rfl, K371, S372, -⟩
              have X373 : Ext h0 h368 := ext_keep X365 K371 g310
              show Ends p e below _ T367 (mkF m 236 #[.val (.int i0), .val (.int i1), .val (.int i2), .val (.int i3), .val (.int i4), .val (.int i5), .val (.int ((i0 &&& (2147483647 : Int32)) % (7 : Int32))), .val (.int (f_pick i1)), .val (.int (f_pick i2)), .val (.int (f_pick i3)), .val (.int (f_pick i4)), .val (.int (f_pick i5)), .unset, .unset, .unset, .unset, .unset] [(.ref a304)])
              refine Ends.go (f' := (mkF m 238 #[.val (.int i0), .val (.int i1), .val (.int i2), .val (.int i3), .val (.int i4), .val (.int i5), .val (.int ((i0 &&& (2147483647 : Int32)) % (7 : Int32))), .val (.int (f_pick i1)), .val (.int (f_pick i2)), .val (.int (f_pick i3)), .val (.int (f_pick i4)), .val (.int (f_pick i5)), .val (.ref a304), .unset, .unset, .unset, .unset] [])) (fun t k => XS.astore N370.here hx rfl (hb hby at_236) rfl rfl (l' := #[.val (.int i0), .val (.int i1), .val (.int i2), .val (.int i3), .val (.int i4), .val (.int i5), .val (.int ((i0 &&& (2147483647 : Int32)) % (7 : Int32))), .val (.int (f_pick i1)), .val (.int (f_pick i2)), .val (.int (f_pick i3)), .val (.int (f_pick i4)), .val (.int (f_pick i5)), .val (.ref a304), .unset, .unset, .unset, .unset]) rfl k) ?_
              refine Ends.go (f' := (mkF m 244 #[.val (.int i0), .val (.int i1), .val (.int i2), .val (.int i3), .val (.int i4), .val (.int i5), .val (.int ((i0 &&& (2147483647 : Int32)) % (7 : Int32))), .val (.int (f_pick i1)), .val (.int (f_pick i2)), .val (.int (f_pick i3)), .val (.int (f_pick i4)), .val (.int (f_pick i5)), .val (.ref a304), .unset, .unset, .unset, .unset] [])) (fun t k => XS.goto N370.here hx rfl (pc0 := 238) (pc' := 244) rfl (hb hby at_238) (by decide) (by decide) k) ?_
              exact join vm0 T367 h368 _ _ (N370.mono (nle rfl) (nle rfl)) hZ hown (wd0.ext X373) (Or.inr ⟨_, [(f_pick i1), (f_pick i2), (f_pick i3), (f_pick i4), (f_pick i5)], rfl, rfl, S372⟩) (by simp only [strOf, if_neg l0, if_neg l1, if_neg l2, if_neg l3, if_neg l4, if_pos l5])
            · refine Ends.go (f' := (mkF m 241 #[.val (.int i0), .val (.int i1), .val (.int i2), .val (.int i3), .val (.int i4), .val (.int i5), .val (.int ((i0 &&& (2147483647 : Int32)) % (7 : Int32))), .val (.int (f_pick i1)), .val (.int (f_pick i2)), .val (.int (f_pick i3)), .val (.int (f_pick i4)), .val (.int (f_pick i5)), .unset, .unset, .unset, .unset, .unset] [])) (fun t k => XS.icmpYes N22.here hx rfl (pc0 := 198) (pc' := 241) rfl (hb hby at_198) rfl (XT.ii_ne_t l5) (by decide) (by decide) k) ?_
              refine Ends.go (f' := (mkF m 242 #[.val (.int i0), .val (.int i1), .val (.int i2), .val (.int i3), .val (.int i4), .val (.int i5), .val (.int ((i0 &&& (2147483647 : Int32)) % (7 : Int32))), .val (.int (f_pick i1)), .val (.int (f_pick i2)), .val (.int (f_pick i3)), .val (.int (f_pick i4)), .val (.int (f_pick i5)), .unset, .unset, .unset, .unset, .unset] [.null])) (fun t k => XS.aconstNull N22.here hx rfl (hb hby at_241) k) ?_
              refine Ends.go (f' := (mkF m 244 #[.val (.int i0), .val (.int i1), .val (.int i2), .val (.int i3), .val (.int i4), .val (.int i5), .val (.int ((i0 &&& (2147483647 : Int32)) % (7 : Int32))), .val (.int (f_pick i1)), .val (.int (f_pick i2)), .val (.int (f_pick i3)), .val (.int (f_pick i4)), .val (.int (f_pick i5)), .val .null, .unset, .unset, .unset, .unset] [])) (fun t k => XS.astore N22.here hx rfl (hb hby at_242) rfl rfl (l' := #[.val (.int i0), .val (.int i1), .val (.int i2), .val (.int i3), .val (.int i4), .val (.int i5), .val (.int ((i0 &&& (2147483647 : Int32)) % (7 : Int32))), .val (.int (f_pick i1)), .val (.int (f_pick i2)), .val (.int (f_pick i3)), .val (.int (f_pick i4)), .val (.int (f_pick i5)), .val .null, .unset, .unset, .unset, .unset]) rfl k) ?_
              exact join vm0 T21 h23 _ _ (N22.mono (nle rfl) (nle rfl)) hZ hown (wd0.ext X25) (Or.inl ⟨rfl, rfl⟩) (by simp only [strOf, if_neg l0, if_neg l1, if_neg l2, if_neg l3, if_neg l4, if_neg l5])
set_option maxRecDepth 65536 in
set_option maxHeartbeats 40000000 in
theorem comes_1 {Post : Tables → Env → Array Value → State → Outcome → State → Prop} (hpost : ∀ tb e args s v u, (limb_1_1.after args s (.returned v) u = true ∧ limb_1_2.after args s (.returned v) u = true ∧ True) → ReturnedEndW s (.returned v) u (Jvm.fieldLocs frame_1_writes args s ++ Jvm.arrayLocs frame_1_arrays args s ++ Jvm.staticLocs frame_1_statics s) 32 4288 → Post tb e args s (.returned v) u) :
    ArmFor flags0 classFile x code maxLocals ret World_1 tables_1 room_1 Calls_1 rest_1 Pre_1 Post := by
  intro l hfl _ _ p e ha hc hk s m args below hf hA hF happ hP
  obtain ⟨hcalls, hrest, hpre⟩ := hP
  obtain ⟨-, -, -, hnamed, -, -, -, hat⟩ := (Spec.applies_iff hf).mp happ
  obtain ⟨hg, hn⟩ := and_e (Cond.before_iff.mp (show (Jvm.Cond.and given_1 narrow_1).before args s = true from hpre))
  obtain ⟨hct, hg0⟩ := and_e hg
  obtain ⟨ha0, hg1⟩ := and_e hg0
  obtain ⟨ha1, hg2⟩ := and_e hg1
  obtain ⟨ha2, hg3⟩ := and_e hg2
  obtain ⟨ha3, hg4⟩ := and_e hg3
  obtain ⟨ha4, hg5⟩ := and_e hg4
  obtain ⟨w0, w1, w2, w3, w4, w5, rfl⟩ : ∃ w0 w1 w2 w3 w4 w5 : Value, args = #[w0, w1, w2, w3, w4, w5] := by
    have hs : args.size = 6 := by simpa [Cond.value, given_1] using hct
    obtain ⟨L⟩ := args
    match L, hs with
    | [w0, w1, w2, w3, w4, w5], _ => exact ⟨w0, w1, w2, w3, w4, w5, rfl⟩
  have hw := fun d (hd : d ∈ tables_1) => atoms_spec (ws := Jvm.Cond.code x code maxLocals ret :: tables_1) hat d (List.mem_cons_of_mem _ hd)
  obtain ⟨hsets, hown0⟩ := atoms_of _ (rest_1_c_eq ▸ (show rest_1_c.before _ s = true from hrest))
  have hfit : Fit s := fun {y c} hc i hi => by
    obtain ⟨ha, rfl⟩ := Array.getElem?_eq_some_iff.mp hc
    have q := List.all_eq_true.mp ((Array.all_eq_true_iff_forall_mem.mp hF) _ (Array.getElem_mem ha)) i (List.mem_range.mpr hi)
    simpa [Array.getElem?_eq_getElem hi] using q
  obtain ⟨i0, ei0⟩ := is_v ha0
  obtain rfl : w0 = (.int i0) := Option.some.inj ei0
  obtain ⟨i1, ei1⟩ := is_v ha1
  obtain rfl : w1 = (.int i1) := Option.some.inj ei1
  obtain ⟨i2, ei2⟩ := is_v ha2
  obtain rfl : w2 = (.int i2) := Option.some.inj ei2
  obtain ⟨i3, ei3⟩ := is_v ha3
  obtain rfl : w3 = (.int i3) := Option.some.inj ei3
  obtain ⟨i4, ei4⟩ := is_v ha4
  obtain rfl : w4 = (.int i4) := Option.some.inj ei4
  obtain ⟨i5, ei5⟩ := is_v hg5
  obtain rfl : w5 = (.int i5) := Option.some.inj ei5
  have nz := not_v (Cond.before_iff.mp (hsets _ (List.mem_of_getElem? (i := 2) rfl)))
  obtain ⟨zc, ezc⟩ := is_v (Cond.before_iff.mp (hsets _ (List.mem_of_getElem? (i := 1) rfl)))
  have Sc : Sta s s.heap "java/lang/String" "COMPACT_STRINGS" "Z" (.int zc) := Sta.start ezc (Or.inl (hsets _ (List.mem_of_getElem? (i := 0) rfl)))
  obtain ⟨fm, efm, rfm⟩ := isR_v (Cond.before_iff.mp (hsets _ (List.mem_of_getElem? (i := 8) rfl)))
  have Sf : Sta s s.heap "jdk/internal/util/Preconditions" "SIOOBE_FORMATTER" "Ljava/util/function/BiFunction;" fm := Sta.start efm (Or.inl (hsets _ (List.mem_of_getElem? (i := 7) rfl)))
  have hz : ¬ (zc = (0 : Int32)) := gotF (Cond.eq_ints ezc (Term.int_eval (0))) nz
  have G : Jdk s := ⟨⟨zc, Sc, hz⟩, fm, Sf, rfm⟩
  have wd : CHv s consts_1 s.vm s.heap := CHv.start (elw hw) (fun q hq => hcalls.1 q hq) (hsets _ (List.mem_of_getElem? (i := 2) rfl)) (hw _ (List.mem_of_getElem? (i := 20) rfl)) (hw _ (List.mem_of_getElem? (i := 6) rfl))
  obtain ⟨n, o, h1, h2, h3, _, L, rfl, ⟨rfl, N⟩, hq⟩ := rmLaw l s _ hw tables_1 i0 i1 i2 i3 i4 i5 s.heap (ext_refl _) G p e ha hc hk s m _ below hf ((Spec.applies_iff_loose hf).mp happ).1 ⟨rfl, State.Warmed39.refl s, rfl, wd⟩ trivial
  refine ⟨n, _, h1, h2, h3, hpost _ _ _ _ _ _ ⟨Cond.after_iff.mpr rfl, Cond.after_iff.mpr (eq_i res_at (Term.int_eval (1)) rfl), trivial⟩ ⟨hq.2.1, hq.2.2.1, hq.2.2.2.1, (hq.2.2.2.2.sift fun y hy => Or.inr (N y hy)).mono (by decide) (by decide)⟩⟩
theorem main_1_1 : Claimed_1_1 := comes_1 fun _ _ _ _ _ _ h hF => ⟨h.1, hF⟩
theorem main_1_2 : Claimed_1_2 := comes_1 fun _ _ _ _ _ _ h hF => ⟨h.2.1, hF⟩
end Jvm.Pilot.@@N@@
namespace Jvm.Pilot.@@N@@
open Jvm Jvm.ClassFile Sem Op Lib Jvm.Free Jvm.Stand Jvm.Pilot.@@N@@.Jvm.D
/-! MADE BY PROGRAM (witnessworld.py) out of the Statement's table words and the real class files: 20 classes; the members and pool entries that the words name. The judged class is class 1, her method 2. -/
namespace start1
open Jvm.ClassFile
def u (s : String) : CpInfo := .utf8 (stringToUtf16 s)
/-- a pool by its gaps: so many unusable entries, then the entry; so many at the end -/
def gap : Nat → List CpInfo → List CpInfo
  | 0, r => r
  | n + 1, r => .unusable :: gap n r
def poolList (es : List (Nat × CpInfo)) (last : Nat) : List CpInfo := es.foldr (fun e r => gap e.1 (e.2 :: r)) (gap last [])
def pool (es : List (Nat × CpInfo)) (last : Nat) : Array CpInfo := ⟨poolList es last⟩
def fileOf (pool : Array CpInfo) (this : Nat) (attrs : Array Attribute := #[]) (ms : Array MethodInfo := #[]) (fl : Nat := 33) (sup : Nat := 0) (ifs : Array Nat := #[]) (fds : Array FieldInfo := #[]) : ClassFile where
  minorVersion := 0
  majorVersion := 65
  constantPool := pool
  accessFlags := fl
  thisClass := this
  superClass := sup
  interfaces := ifs
  fields := fds
  methods := ms
  attributes := attrs
def plain (name : String) (sup : Option ClassId) : Class where
  name := name
  kind := .ordinary
  loader := none
  accessFlags := 33
  super := sup
  interfaces := #[]
  cf := none
  fields := #[]
  methods := #[]
  instanceTypes := #[]
  staticTypes := #[]
  resolved := #[]
  callSites := []
  init := .initialized
  statics := none
  mirror := none

def pool0 : Array CpInfo := pool [(5, u "<init>"), (0, u "()V"), (1, .class_ 10), (1, u "java/lang/Object")] 113

def k0c0 : Code := { maxStack := 0, maxLocals := 1, code := object_method_1_code, exceptionTable := #[], attributes := #[] }
def k0m0 : Method := { name := "<init>", desc := "()V", sig := { parameters := [], returnType := none }, accessFlags := 1, code := some k0c0 }
/-- java/lang/Object -/
def k0 : Class := { plain "java/lang/Object" none with
  accessFlags := 33
  interfaces := #[]
  cf := some (fileOf pool0 8 #[] #[{ accessFlags := 1, nameIndex := 5, descriptorIndex := 6, attributes := #[] }] 33 0 #[] #[])
  fields := #[]
  methods := #[k0m0]
  instanceTypes := #[]
  staticTypes := #[]
  resolved := Array.replicate 124 none
  statics := none }

def pool1 : Array CpInfo := pool [(2, .class_ 4), (1, u "java/lang/Object"), (0, u "<init>"), (0, u "()V"), (0, .integer 2147483647), (0, .methodref 9 10), (0, .class_ 11), (0, .nameAndType 12 13), (0, u "com/example/waypost/waypost/model/BuiltValueIsTruePinLaw"), (0, u "pick"), (0, u "(I)C"), (0, .class_ 15), (0, u "java/lang/String"), (0, .methodref 14 17), (0, .nameAndType 5 18), (0, u "([C)V"), (0, .methodref 20 21), (0, .class_ 22), (0, .nameAndType 23 24), (0, u "com/example/waypost/waypost/model/BuiltValue"), (0, u "isTrue"), (0, u "(Ljava/lang/String;)Z"), (3, u "law"), (0, u "(IIIIII)Z")] 2

def k1m0 : Method := { name := "<init>", desc := "()V", sig := { parameters := [], returnType := none }, accessFlags := 1, code := none }
def k1c1 : Code := { maxStack := 4, maxLocals := 2, code := method_2_code, exceptionTable := #[], attributes := #[] }
def k1m1 : Method := { name := "pick", desc := "(I)C", sig := { parameters := [.int], returnType := some .char }, accessFlags := 10, code := some k1c1 }
def k1c2 : Code := { maxStack := 6, maxLocals := 17, code := code, exceptionTable := #[], attributes := #[] }
def k1m2 : Method := { name := "law", desc := "(IIIIII)Z", sig := { parameters := [.int, .int, .int, .int, .int, .int], returnType := some .boolean }, accessFlags := 9, code := some k1c2 }
/-- com/example/waypost/waypost/model/BuiltValueIsTruePinLaw -/
def k1 : Class := { plain "com/example/waypost/waypost/model/BuiltValueIsTruePinLaw" (some 0) with
  accessFlags := 49
  interfaces := #[]
  cf := some (fileOf pool1 9 #[] #[{ accessFlags := 1, nameIndex := 5, descriptorIndex := 6, attributes := #[] }, { accessFlags := 10, nameIndex := 12, descriptorIndex := 13, attributes := #[] }, { accessFlags := 9, nameIndex := 28, descriptorIndex := 29, attributes := #[] }] 49 2 #[] #[])
  fields := #[]
  methods := #[k1m0, k1m1, k1m2]
  instanceTypes := #[]
  staticTypes := #[]
  resolved := Array.replicate 32 none
  statics := none }

def pool2 : Array CpInfo := pool [(1, .class_ 2), (0, u "java/io/Serializable"), (0, .class_ 4), (0, u "java/lang/Object")] 2

/-- java/io/Serializable -/
def k2 : Class := { plain "java/io/Serializable" (some 0) with
  accessFlags := 1537
  interfaces := #[]
  cf := some (fileOf pool2 1 #[] #[] 1537 3 #[] #[])
  fields := #[]
  methods := #[]
  instanceTypes := #[]
  staticTypes := #[]
  resolved := Array.replicate 7 none
  statics := none }

def pool3 : Array CpInfo := pool [(1, .class_ 2), (0, u "java/lang/Comparable"), (0, .class_ 4), (0, u "java/lang/Object")] 7

/-- java/lang/Comparable -/
def k3 : Class := { plain "java/lang/Comparable" (some 0) with
  accessFlags := 1537
  interfaces := #[]
  cf := some (fileOf pool3 1 #[] #[] 1537 3 #[] #[])
  fields := #[]
  methods := #[]
  instanceTypes := #[]
  staticTypes := #[]
  resolved := Array.replicate 12 none
  statics := none }

def pool4 : Array CpInfo := pool [(2, .class_ 4), (1, u "java/lang/CharSequence"), (42, .class_ 48), (0, u "java/lang/CharSequence$1CodePointIterator"), (10, .class_ 60), (0, u "java/lang/CharSequence$1CharIterator"), (5, .class_ 67), (0, u "java/lang/Object")] 63

/-- java/lang/CharSequence -/
def k4 : Class := { plain "java/lang/CharSequence" (some 0) with
  accessFlags := 1537
  interfaces := #[]
  cf := some (fileOf pool4 2 #[.nestMembers #[47, 59]] #[] 1537 66 #[] #[])
  fields := #[]
  methods := #[]
  instanceTypes := #[]
  staticTypes := #[]
  resolved := Array.replicate 131 none
  statics := none }

def pool5 : Array CpInfo := pool [(1, .class_ 2), (0, u "java/lang/constant/Constable"), (0, .class_ 4), (0, u "java/lang/Object")] 6

/-- java/lang/constant/Constable -/
def k5 : Class := { plain "java/lang/constant/Constable" (some 0) with
  accessFlags := 1537
  interfaces := #[]
  cf := some (fileOf pool5 1 #[] #[] 1537 3 #[] #[])
  fields := #[]
  methods := #[]
  instanceTypes := #[]
  staticTypes := #[]
  resolved := Array.replicate 11 none
  statics := none }

def pool6 : Array CpInfo := pool [(1, .class_ 2), (0, u "java/lang/constant/ConstantDesc"), (0, .class_ 4), (0, u "java/lang/Object")] 32

/-- java/lang/constant/ConstantDesc -/
def k6 : Class := { plain "java/lang/constant/ConstantDesc" (some 0) with
  accessFlags := 1537
  interfaces := #[]
  cf := some (fileOf pool6 1 #[] #[] 1537 3 #[] #[])
  fields := #[]
  methods := #[]
  instanceTypes := #[]
  staticTypes := #[]
  resolved := Array.replicate 37 none
  statics := none }

def pool7 : Array CpInfo := pool [(1, .methodref 2 3), (0, .class_ 4), (0, .nameAndType 5 6), (0, u "java/lang/Object"), (0, u "<init>"), (0, u "()V"), (0, .string 8), (0, u ""), (0, .fieldref 10 11), (0, .class_ 12), (0, .nameAndType 13 14), (0, u "java/lang/String"), (0, u "value"), (0, u "[B"), (0, .fieldref 10 16), (0, .nameAndType 17 18), (0, u "coder"), (0, u "B"), (2, u "hash"), (0, u "I"), (2, u "hashIsZero"), (0, u "Z"), (0, .methodref 10 28), (0, .nameAndType 5 29), (0, u "([CIILjava/lang/Void;)V"), (8, .fieldref 10 39), (0, .nameAndType 40 26), (0, u "COMPACT_STRINGS"), (1, .class_ 44), (1, u "java/lang/StringUTF16"), (0, u "compress"), (1, .methodref 42 48), (0, .nameAndType 49 50), (0, u "coderFromArrayLen"), (0, u "([BI)B"), (56, .class_ 109), (1, u "java/lang/StringLatin1"), (67, .methodref 42 178), (0, .nameAndType 45 179), (0, u "([CII)[B"), (361, .methodref 107 542), (0, .nameAndType 543 544), (0, u "equals"), (0, u "([B[B)Z"), (28, u "(Ljava/lang/Object;)Z"), (1, .class_ 576), (0, u "java/lang/CharSequence"), (22, u "CASE_INSENSITIVE_ORDER"), (0, u "Ljava/util/Comparator;"), (409, u "([C)V"), (90, u "serialPersistentFields"), (0, u "[Ljava/io/ObjectStreamField;"), (0, .class_ 1104), (0, u "java/lang/String$CaseInsensitiveComparator"), (1, .class_ 1107), (0, u "java/io/Serializable"), (0, .class_ 1109), (0, u "java/lang/Comparable"), (0, .class_ 1111), (0, u "java/lang/constant/Constable"), (0, .class_ 1113), (0, u "java/lang/constant/ConstantDesc"), (2, u "serialVersionUID"), (0, u "J"), (3, u "REPL"), (0, u "C"), (2, u "LATIN1"), (1, u "UTF16")] 323

def k7m0 : Method := { name := "<init>", desc := "()V", sig := { parameters := [], returnType := none }, accessFlags := 1, code := none }
def k7c1 : Code := { maxStack := 5, maxLocals := 2, code := jdk_42_method_3_code, exceptionTable := #[], attributes := #[] }
def k7m1 : Method := { name := "<init>", desc := "([C)V", sig := { parameters := [(.array .char)], returnType := none }, accessFlags := 1, code := some k7c1 }
def k7c2 : Code := { maxStack := 2, maxLocals := 3, code := jdk_42_method_66_code, exceptionTable := #[], attributes := #[] }
def k7m2 : Method := { name := "equals", desc := "(Ljava/lang/Object;)Z", sig := { parameters := [(.object "java/lang/Object")], returnType := some .boolean }, accessFlags := 1, code := some k7c2 }
def k7c3 : Code := { maxStack := 4, maxLocals := 6, code := jdk_42_method_149_code, exceptionTable := #[], attributes := #[] }
def k7m3 : Method := { name := "<init>", desc := "([CIILjava/lang/Void;)V", sig := { parameters := [(.array .char), .int, .int, (.object "java/lang/Void")], returnType := none }, accessFlags := 2, code := some k7c3 }
/-- java/lang/String -/
def k7 : Class := { plain "java/lang/String" (some 0) with
  accessFlags := 49
  interfaces := #[2, 3, 4, 5, 6]
  cf := some (fileOf pool7 10 #[.nestMembers #[1103]] #[{ accessFlags := 1, nameIndex := 5, descriptorIndex := 6, attributes := #[] }, { accessFlags := 1, nameIndex := 5, descriptorIndex := 1010, attributes := #[] }, { accessFlags := 1, nameIndex := 543, descriptorIndex := 573, attributes := #[] }, { accessFlags := 2, nameIndex := 5, descriptorIndex := 29, attributes := #[] }] 49 2 #[1106, 1108, 575, 1110, 1112] #[{ accessFlags := 18, nameIndex := 13, descriptorIndex := 14, attributes := #[] }, { accessFlags := 18, nameIndex := 17, descriptorIndex := 18, attributes := #[] }, { accessFlags := 2, nameIndex := 21, descriptorIndex := 22, attributes := #[] }, { accessFlags := 2, nameIndex := 25, descriptorIndex := 26, attributes := #[] }, { accessFlags := 26, nameIndex := 1116, descriptorIndex := 1117, attributes := #[] }, { accessFlags := 24, nameIndex := 40, descriptorIndex := 26, attributes := #[] }, { accessFlags := 26, nameIndex := 1101, descriptorIndex := 1102, attributes := #[] }, { accessFlags := 26, nameIndex := 1121, descriptorIndex := 1122, attributes := #[] }, { accessFlags := 25, nameIndex := 599, descriptorIndex := 600, attributes := #[] }, { accessFlags := 24, nameIndex := 1125, descriptorIndex := 18, attributes := #[] }, { accessFlags := 24, nameIndex := 1127, descriptorIndex := 18, attributes := #[] }])
  fields := #[{ name := "value", type := (.array .byte), accessFlags := 18, slot := 0, constantValue := 0 }, { name := "coder", type := .byte, accessFlags := 18, slot := 1, constantValue := 0 }, { name := "hash", type := .int, accessFlags := 2, slot := 2, constantValue := 0 }, { name := "hashIsZero", type := .boolean, accessFlags := 2, slot := 3, constantValue := 0 }, { name := "serialVersionUID", type := .long, accessFlags := 26, slot := 0, constantValue := 0 }, { name := "COMPACT_STRINGS", type := .boolean, accessFlags := 24, slot := 1, constantValue := 0 }, { name := "serialPersistentFields", type := (.array (.object "java/io/ObjectStreamField")), accessFlags := 26, slot := 2, constantValue := 0 }, { name := "REPL", type := .char, accessFlags := 26, slot := 3, constantValue := 0 }, { name := "CASE_INSENSITIVE_ORDER", type := (.object "java/util/Comparator"), accessFlags := 25, slot := 4, constantValue := 0 }, { name := "LATIN1", type := .byte, accessFlags := 24, slot := 5, constantValue := 0 }, { name := "UTF16", type := .byte, accessFlags := 24, slot := 6, constantValue := 0 }]
  methods := #[k7m0, k7m1, k7m2, k7m3]
  instanceTypes := #[(.array .byte), .byte, .int, .boolean]
  staticTypes := #[.long, .boolean, (.array (.object "java/io/ObjectStreamField")), .char, (.object "java/util/Comparator"), .byte, .byte]
  resolved := Array.replicate 1451 none
  statics := some 0 }

def pool8 : Array CpInfo := pool [(2, .class_ 4), (1, u "java/lang/Object"), (0, u "<init>"), (0, u "()V"), (1, .class_ 10), (1, u "com/example/waypost/waypost/model/BuiltValue"), (5, .class_ 18), (1, u "java/lang/String"), (35, u "isTrue"), (0, u "(Ljava/lang/String;)Z"), (19, .string 76), (0, u "true"), (0, .methodref 16 78), (0, .nameAndType 79 80), (0, u "equals"), (0, u "(Ljava/lang/Object;)Z"), (0, .string 82), (0, u "TRUE"), (0, .string 84), (0, u "True"), (56, u "ESCAPED_AS_THEMSELVES"), (0, u "Ljava/lang/String;")] 46

def k8m0 : Method := { name := "<init>", desc := "()V", sig := { parameters := [], returnType := none }, accessFlags := 2, code := none }
def k8c1 : Code := { maxStack := 2, maxLocals := 1, code := prog_42_method_5_code, exceptionTable := #[], attributes := #[] }
def k8m1 : Method := { name := "isTrue", desc := "(Ljava/lang/String;)Z", sig := { parameters := [(.object "java/lang/String")], returnType := some .boolean }, accessFlags := 8, code := some k8c1 }
/-- com/example/waypost/waypost/model/BuiltValue -/
def k8 : Class := { plain "com/example/waypost/waypost/model/BuiltValue" (some 0) with
  accessFlags := 48
  interfaces := #[]
  cf := some (fileOf pool8 8 #[] #[{ accessFlags := 2, nameIndex := 5, descriptorIndex := 6, attributes := #[] }, { accessFlags := 8, nameIndex := 54, descriptorIndex := 55, attributes := #[] }] 48 2 #[] #[{ accessFlags := 26, nameIndex := 141, descriptorIndex := 142, attributes := #[] }])
  fields := #[{ name := "ESCAPED_AS_THEMSELVES", type := (.object "java/lang/String"), accessFlags := 26, slot := 0, constantValue := 0 }]
  methods := #[k8m0, k8m1]
  instanceTypes := #[]
  staticTypes := #[(.object "java/lang/String")]
  resolved := Array.replicate 189 none
  statics := none }

def pool9 : Array CpInfo := pool [(4, .class_ 6), (1, u "java/lang/Object"), (0, u "<init>"), (0, u "()V"), (5, .class_ 16), (1, u "java/lang/StringLatin1"), (104, u "$assertionsDisabled"), (0, u "Z"), (98, .class_ 223), (1, u "java/lang/StringLatin1$LinesSpliterator"), (57, u "equals"), (0, u "([B[B)Z"), (107, .class_ 391), (0, u "java/lang/StringLatin1$CharsSpliterator")] 3

def k9m0 : Method := { name := "<init>", desc := "()V", sig := { parameters := [], returnType := none }, accessFlags := 0, code := none }
def k9c1 : Code := { maxStack := 3, maxLocals := 3, code := jdk_43_method_13_code, exceptionTable := #[], attributes := #[] }
def k9m1 : Method := { name := "equals", desc := "([B[B)Z", sig := { parameters := [(.array .byte), (.array .byte)], returnType := some .boolean }, accessFlags := 9, code := some k9c1 }
/-- java/lang/StringLatin1 -/
def k9 : Class := { plain "java/lang/StringLatin1" (some 0) with
  accessFlags := 48
  interfaces := #[]
  cf := some (fileOf pool9 14 #[.nestMembers #[390, 221]] #[{ accessFlags := 0, nameIndex := 7, descriptorIndex := 8, attributes := #[] }, { accessFlags := 9, nameIndex := 281, descriptorIndex := 282, attributes := #[] }] 48 4 #[] #[{ accessFlags := 4120, nameIndex := 121, descriptorIndex := 122, attributes := #[] }])
  fields := #[{ name := "$assertionsDisabled", type := .boolean, accessFlags := 4120, slot := 0, constantValue := 0 }]
  methods := #[k9m0, k9m1]
  instanceTypes := #[]
  staticTypes := #[.boolean]
  resolved := Array.replicate 395 none
  statics := none }

def pool10 : Array CpInfo := pool [(6, .class_ 8), (1, u "java/lang/Object"), (0, u "<init>"), (0, u "()V"), (1, .class_ 14), (1, u "java/lang/StringUTF16"), (31, u "$assertionsDisabled"), (0, u "Z"), (13, u "HI_BYTE_SHIFT"), (0, u "I"), (2, u "LO_BYTE_SHIFT"), (49, .methodref 12 116), (0, .nameAndType 117 118), (0, u "compress"), (0, u "([CI[BII)I"), (3, u "([CII)[B"), (138, u "coderFromArrayLen"), (0, u "([BI)B"), (106, .class_ 371), (1, u "java/lang/StringUTF16$LinesSpliterator"), (58, u "MAX_LENGTH"), (196, .class_ 628), (0, u "java/lang/StringUTF16$CodePointsSpliterator"), (0, .class_ 630), (0, u "java/lang/StringUTF16$CharsSpliterator")] 4

def k10m0 : Method := { name := "<init>", desc := "()V", sig := { parameters := [], returnType := none }, accessFlags := 0, code := none }
def k10c1 : Code := { maxStack := 2, maxLocals := 2, code := jdk_52_method_15_code, exceptionTable := #[], attributes := #[] }
def k10m1 : Method := { name := "coderFromArrayLen", desc := "([BI)B", sig := { parameters := [(.array .byte), .int], returnType := some .byte }, accessFlags := 8, code := some k10c1 }
def k10c2 : Code := { maxStack := 5, maxLocals := 6, code := jdk_52_method_16_code, exceptionTable := #[], attributes := #[] }
def k10m2 : Method := { name := "compress", desc := "([CII)[B", sig := { parameters := [(.array .char), .int, .int], returnType := some (.array .byte) }, accessFlags := 9, code := some k10c2 }
def k10c3 : Code := { maxStack := 3, maxLocals := 7, code := jdk_52_method_21_code, exceptionTable := #[], attributes := #[] }
def k10m3 : Method := { name := "compress", desc := "([CI[BII)I", sig := { parameters := [(.array .char), .int, (.array .byte), .int, .int], returnType := some .int }, accessFlags := 9, code := some k10c3 }
/-- java/lang/StringUTF16 -/
def k10 : Class := { plain "java/lang/StringUTF16" (some 0) with
  accessFlags := 48
  interfaces := #[]
  cf := some (fileOf pool10 12 #[.nestMembers #[627, 629, 369]] #[{ accessFlags := 0, nameIndex := 9, descriptorIndex := 10, attributes := #[] }, { accessFlags := 8, nameIndex := 261, descriptorIndex := 262, attributes := #[] }, { accessFlags := 9, nameIndex := 117, descriptorIndex := 122, attributes := #[] }, { accessFlags := 9, nameIndex := 117, descriptorIndex := 118, attributes := #[] }] 48 6 #[] #[{ accessFlags := 26, nameIndex := 61, descriptorIndex := 62, attributes := #[] }, { accessFlags := 26, nameIndex := 65, descriptorIndex := 62, attributes := #[] }, { accessFlags := 24, nameIndex := 430, descriptorIndex := 62, attributes := #[] }, { accessFlags := 4120, nameIndex := 46, descriptorIndex := 47, attributes := #[] }])
  fields := #[{ name := "HI_BYTE_SHIFT", type := .int, accessFlags := 26, slot := 0, constantValue := 0 }, { name := "LO_BYTE_SHIFT", type := .int, accessFlags := 26, slot := 1, constantValue := 0 }, { name := "MAX_LENGTH", type := .int, accessFlags := 24, slot := 2, constantValue := 0 }, { name := "$assertionsDisabled", type := .boolean, accessFlags := 4120, slot := 3, constantValue := 0 }]
  methods := #[k10m0, k10m1, k10m2, k10m3]
  instanceTypes := #[]
  staticTypes := #[.int, .int, .int, .boolean]
  resolved := Array.replicate 635 none
  statics := none }

def pool11 : Array CpInfo := pool [(2, .class_ 4), (1, u "java/lang/Object"), (0, u "<init>"), (0, u "()V"), (17, .class_ 26), (1, u "jdk/internal/util/Preconditions"), (28, .class_ 56), (0, u "jdk/internal/util/Preconditions$4"), (57, .class_ 115), (0, u "jdk/internal/util/Preconditions$1"), (7, u "SIOOBE_FORMATTER"), (0, u "Ljava/util/function/BiFunction;"), (0, .class_ 126), (0, u "jdk/internal/util/Preconditions$2"), (3, u "AIOOBE_FORMATTER"), (0, .class_ 132), (0, u "jdk/internal/util/Preconditions$3"), (3, u "IOOBE_FORMATTER")] 57

def k11m0 : Method := { name := "<init>", desc := "()V", sig := { parameters := [], returnType := none }, accessFlags := 1, code := none }
/-- jdk/internal/util/Preconditions -/
def k11 : Class := { plain "jdk/internal/util/Preconditions" (some 0) with
  accessFlags := 33
  interfaces := #[]
  cf := some (fileOf pool11 24 #[.nestMembers #[55, 131, 125, 114]] #[{ accessFlags := 1, nameIndex := 5, descriptorIndex := 6, attributes := #[] }] 33 2 #[] #[{ accessFlags := 25, nameIndex := 123, descriptorIndex := 124, attributes := #[] }, { accessFlags := 25, nameIndex := 130, descriptorIndex := 124, attributes := #[] }, { accessFlags := 25, nameIndex := 136, descriptorIndex := 124, attributes := #[] }])
  fields := #[{ name := "SIOOBE_FORMATTER", type := (.object "java/util/function/BiFunction"), accessFlags := 25, slot := 0, constantValue := 0 }, { name := "AIOOBE_FORMATTER", type := (.object "java/util/function/BiFunction"), accessFlags := 25, slot := 1, constantValue := 0 }, { name := "IOOBE_FORMATTER", type := (.object "java/util/function/BiFunction"), accessFlags := 25, slot := 2, constantValue := 0 }]
  methods := #[k11m0]
  instanceTypes := #[]
  staticTypes := #[(.object "java/util/function/BiFunction"), (.object "java/util/function/BiFunction"), (.object "java/util/function/BiFunction")]
  resolved := Array.replicate 194 none
  statics := some 1 }

def pool12 : Array CpInfo := pool [(9, u "<init>"), (6, .class_ 18), (1, u "java/lang/Object"), (0, u "()V"), (1, .class_ 23), (1, u "jdk/internal/util/ArraysSupport"), (0, u "LOG2_ARRAY_LONG_INDEX_SCALE"), (0, u "I"), (2, u "U"), (0, u "Ljdk/internal/misc/Unsafe;"), (8, u "BIG_ENDIAN"), (0, u "Z"), (8, u "LOG2_BYTE_BIT_SIZE"), (4, u "LOG2_ARRAY_INT_INDEX_SCALE"), (54, u "JLA"), (0, u "Ljdk/internal/access/JavaLangAccess;"), (11, u "LOG2_ARRAY_BOOLEAN_INDEX_SCALE"), (9, u "LOG2_ARRAY_BYTE_INDEX_SCALE"), (5, u "LOG2_ARRAY_CHAR_INDEX_SCALE"), (5, u "LOG2_ARRAY_SHORT_INDEX_SCALE"), (18, u "LOG2_ARRAY_FLOAT_INDEX_SCALE"), (24, u "LOG2_ARRAY_DOUBLE_INDEX_SCALE"), (89, u "T_BOOLEAN"), (2, u "T_CHAR"), (1, u "T_FLOAT"), (1, u "T_DOUBLE"), (1, u "T_BYTE"), (1, u "T_SHORT"), (1, u "T_INT"), (1, u "T_LONG"), (1, u "SOFT_MAX_ARRAY_LENGTH")] 83

def k12m0 : Method := { name := "<init>", desc := "()V", sig := { parameters := [], returnType := none }, accessFlags := 2, code := none }
/-- jdk/internal/util/ArraysSupport -/
def k12 : Class := { plain "jdk/internal/util/ArraysSupport" (some 0) with
  accessFlags := 33
  interfaces := #[]
  cf := some (fileOf pool12 21 #[] #[{ accessFlags := 2, nameIndex := 9, descriptorIndex := 19, attributes := #[] }] 33 16 #[] #[{ accessFlags := 24, nameIndex := 28, descriptorIndex := 29, attributes := #[] }, { accessFlags := 26, nameIndex := 38, descriptorIndex := 39, attributes := #[] }, { accessFlags := 25, nameIndex := 121, descriptorIndex := 25, attributes := #[] }, { accessFlags := 25, nameIndex := 131, descriptorIndex := 25, attributes := #[] }, { accessFlags := 25, nameIndex := 137, descriptorIndex := 25, attributes := #[] }, { accessFlags := 25, nameIndex := 143, descriptorIndex := 25, attributes := #[] }, { accessFlags := 25, nameIndex := 53, descriptorIndex := 25, attributes := #[] }, { accessFlags := 25, nameIndex := 24, descriptorIndex := 25, attributes := #[] }, { accessFlags := 25, nameIndex := 162, descriptorIndex := 25, attributes := #[] }, { accessFlags := 25, nameIndex := 187, descriptorIndex := 25, attributes := #[] }, { accessFlags := 26, nameIndex := 48, descriptorIndex := 25, attributes := #[] }, { accessFlags := 25, nameIndex := 277, descriptorIndex := 25, attributes := #[] }, { accessFlags := 25, nameIndex := 280, descriptorIndex := 25, attributes := #[] }, { accessFlags := 25, nameIndex := 282, descriptorIndex := 25, attributes := #[] }, { accessFlags := 25, nameIndex := 284, descriptorIndex := 25, attributes := #[] }, { accessFlags := 25, nameIndex := 286, descriptorIndex := 25, attributes := #[] }, { accessFlags := 25, nameIndex := 288, descriptorIndex := 25, attributes := #[] }, { accessFlags := 25, nameIndex := 290, descriptorIndex := 25, attributes := #[] }, { accessFlags := 25, nameIndex := 292, descriptorIndex := 25, attributes := #[] }, { accessFlags := 26, nameIndex := 108, descriptorIndex := 109, attributes := #[] }, { accessFlags := 25, nameIndex := 294, descriptorIndex := 25, attributes := #[] }])
  fields := #[{ name := "U", type := (.object "jdk/internal/misc/Unsafe"), accessFlags := 24, slot := 0, constantValue := 0 }, { name := "BIG_ENDIAN", type := .boolean, accessFlags := 26, slot := 1, constantValue := 0 }, { name := "LOG2_ARRAY_BOOLEAN_INDEX_SCALE", type := .int, accessFlags := 25, slot := 2, constantValue := 0 }, { name := "LOG2_ARRAY_BYTE_INDEX_SCALE", type := .int, accessFlags := 25, slot := 3, constantValue := 0 }, { name := "LOG2_ARRAY_CHAR_INDEX_SCALE", type := .int, accessFlags := 25, slot := 4, constantValue := 0 }, { name := "LOG2_ARRAY_SHORT_INDEX_SCALE", type := .int, accessFlags := 25, slot := 5, constantValue := 0 }, { name := "LOG2_ARRAY_INT_INDEX_SCALE", type := .int, accessFlags := 25, slot := 6, constantValue := 0 }, { name := "LOG2_ARRAY_LONG_INDEX_SCALE", type := .int, accessFlags := 25, slot := 7, constantValue := 0 }, { name := "LOG2_ARRAY_FLOAT_INDEX_SCALE", type := .int, accessFlags := 25, slot := 8, constantValue := 0 }, { name := "LOG2_ARRAY_DOUBLE_INDEX_SCALE", type := .int, accessFlags := 25, slot := 9, constantValue := 0 }, { name := "LOG2_BYTE_BIT_SIZE", type := .int, accessFlags := 26, slot := 10, constantValue := 0 }, { name := "T_BOOLEAN", type := .int, accessFlags := 25, slot := 11, constantValue := 0 }, { name := "T_CHAR", type := .int, accessFlags := 25, slot := 12, constantValue := 0 }, { name := "T_FLOAT", type := .int, accessFlags := 25, slot := 13, constantValue := 0 }, { name := "T_DOUBLE", type := .int, accessFlags := 25, slot := 14, constantValue := 0 }, { name := "T_BYTE", type := .int, accessFlags := 25, slot := 15, constantValue := 0 }, { name := "T_SHORT", type := .int, accessFlags := 25, slot := 16, constantValue := 0 }, { name := "T_INT", type := .int, accessFlags := 25, slot := 17, constantValue := 0 }, { name := "T_LONG", type := .int, accessFlags := 25, slot := 18, constantValue := 0 }, { name := "JLA", type := (.object "jdk/internal/access/JavaLangAccess"), accessFlags := 26, slot := 19, constantValue := 0 }, { name := "SOFT_MAX_ARRAY_LENGTH", type := .int, accessFlags := 25, slot := 20, constantValue := 0 }]
  methods := #[k12m0]
  instanceTypes := #[]
  staticTypes := #[(.object "jdk/internal/misc/Unsafe"), .boolean, .int, .int, .int, .int, .int, .int, .int, .int, .int, .int, .int, .int, .int, .int, .int, .int, .int, (.object "jdk/internal/access/JavaLangAccess"), .int]
  resolved := Array.replicate 378 none
  statics := none }

def pool13 : Array CpInfo := pool [(1, u "java/lang/Cloneable"), (0, .class_ 1), (0, u "java/lang/Object"), (0, .class_ 3)] 3

/-- java/lang/Cloneable -/
def k13 : Class := { plain "java/lang/Cloneable" (some 0) with
  accessFlags := 1537
  interfaces := #[]
  cf := some (fileOf pool13 2 #[] #[] 1537 4 #[] #[])
  fields := #[]
  methods := #[]
  instanceTypes := #[]
  staticTypes := #[]
  resolved := Array.replicate 8 none
  statics := none }

/-- the primitive byte -/
def k14 : Class := { plain "byte" none with kind := .primitive 'B', accessFlags := 0x411 }
/-- [B -/
def k15 : Class := { plain "[B" (some 0) with kind := .array 14 .byte, interfaces := #[13, 2], accessFlags := 1041 }

/-- the primitive char -/
def k16 : Class := { plain "char" none with kind := .primitive 'C', accessFlags := 0x411 }
/-- [C -/
def k17 : Class := { plain "[C" (some 0) with kind := .array 16 .char, interfaces := #[13, 2], accessFlags := 1041 }

/-- the primitive int -/
def k18 : Class := { plain "int" none with kind := .primitive 'I', accessFlags := 0x411 }
/-- [I -/
def k19 : Class := { plain "[I" (some 0) with kind := .array 18 .int, interfaces := #[13, 2], accessFlags := 1041 }

def heap : Heap := #[{ cls := 7, slots := #[.long 0, .int 1, .null, .int 0, .null, .int 0, .int 0], vm := .statics 7 },
  { cls := 11, slots := #[.null, .null, .null], vm := .statics 11 }]
def classes : Array Class := #[k0, k1, k2, k3, k4, k5, k6, k7, k8, k9, k10, k11, k12, k13, k14, k15, k16, k17, k18, k19]
def interned : List (Array UInt16 × Addr) := []
def slotsUsed : Nat := 10
def theMethod : MethodId := ⟨1, 2⟩
def args0 : Array Value := #[.int 4, .int 116, .int 114, .int 117, .int 101, .int 1]
def aboutOver (below : List Frame) : State where
  vm := { classes := classes, interned := interned.toArray }
  heap := heap
  slotsUsed := slotsUsed
  threads := #[{ frames := .invoking theMethod args0 :: below }]
def below0 : List Frame := [.native { method := ⟨0, 0⟩, args := #[] }]
def about1 : State := aboutOver below0
def p0 : Program := .bare "" "" ""
def e0 : Env := launch0.env 0 0 0
theorem w_frames : about1.frames = Frame.invoking theMethod args0 :: below0 := rfl
set_option maxRecDepth 65536 in
theorem w_args : argsFit about1.vm theMethod args0 = true := by decide +kernel
set_option maxRecDepth 65536 in
theorem w_heap : heapFits about1 = true := by decide +kernel
set_option maxRecDepth 65536 in
theorem w_runnable : about1.curStatus? = some .runnable := by decide +kernel
set_option maxRecDepth 65536 in
theorem w_alone : about1.alone = true := by decide +kernel
set_option maxRecDepth 65536 in
theorem w_named : about1.methodNamed? x = some theMethod := by decide +kernel
set_option maxRecDepth 65536 in
theorem w_hears : about1.hears theMethod below0 = true := by decide +kernel
set_option maxRecDepth 65536 in
theorem w_ripe : about1.ripe theMethod args0 below0 = true := by decide +kernel
theorem w_running : about1.status = .running := rfl
set_option maxRecDepth 65536 in
theorem w_room : about1.hasRoom e0.platform room_1 = true :=
  launch0.hasRoom_least _ room_1 (by decide +kernel) (by decide +kernel) (by decide +kernel) (by decide +kernel) (by decide +kernel) (by decide +kernel)
theorem allAtoms_all (ts : List Jvm.Cond) (a : Array Jvm.Value) (st : Jvm.State) : (allAtoms ts).before a st = ts.all (fun c => c.before a st) := by
  induction ts with
  | nil => rfl
  | cons c t ih =>
    show (Jvm.Cond.and c (allAtoms t)).before a st = _
    rw [Jvm.Cond.before_and, ih, List.all_cons]
def words1 : List Jvm.Cond := Jvm.Cond.code x code maxLocals ret :: tables_1
/-- a 'code' word, met by the world's own term for the bytes: nothing is compared byte by byte -/
theorem code_word {y : MethodName} {bytes : ByteArray} {mx : Nat} {rt : Option FieldType} {a : Array Value} {s : State} {m : MethodId} {meth : Method} {c : Code} (h1 : s.methodNamed? y = some m) (h2 : s.vm.method? m = some meth) (h3 : meth.code = some c) (h4 : c.code = bytes)
    (h5 : (c.maxLocals == mx && c.exceptionTable.isEmpty && decide (c.maxStack ≤ mostOperands) && decide (meth.sig.returnType = rt) && !meth.locks && decide (parseMethodDescriptor y.desc = some meth.sig)) = true) : (Jvm.Cond.code y bytes mx rt).before a s = true := by
  simp only [Bool.and_eq_true, beq_iff_eq, Bool.not_eq_true', decide_eq_true_eq] at h5
  obtain ⟨⟨⟨⟨⟨g1, g2⟩, g3⟩, g4⟩, g5⟩, g6⟩ := h5
  simp [Cond.before, Cond.holds, Cond.value, h1, h2, h3, h4, g1, g2, g3, g4, g5, g6]
def isCode : Jvm.Cond → Bool
  | .code _ _ _ _ => true
  | _ => false
theorem all_split {L : List Jvm.Cond} {P : Jvm.Cond → Bool} (h1 : L.all (fun c => isCode c || P c) = true) (h2 : ∀ c ∈ L.filter isCode, P c = true) : L.all P = true := by
  refine List.all_eq_true.mpr fun c hc => ?_
  have h := List.all_eq_true.mp h1 c hc
  rcases Bool.eq_false_or_eq_true (isCode c) with hi | hi
  · exact h2 c (List.mem_filter.mpr ⟨hc, hi⟩)
  · simpa [hi] using h
set_option maxRecDepth 65536 in
theorem w_c0 : (Jvm.Cond.code x code maxLocals ret).before args0 about1 = true := code_word (m := ⟨1, 2⟩) (meth := k1m2) (c := k1c2) (by decide +kernel) rfl rfl rfl (by decide +kernel)
set_option maxRecDepth 65536 in
theorem w_c1 : (Jvm.Cond.code ({ cls := "com/example/waypost/waypost/model/BuiltValueIsTruePinLaw", name := "pick", desc := "(I)C" } : Jvm.MethodName) method_2_code (2 : Nat) (Option.some Jvm.ClassFile.FieldType.char)).before args0 about1 = true := code_word (m := ⟨1, 1⟩) (meth := k1m1) (c := k1c1) (by decide +kernel) rfl rfl rfl (by decide +kernel)
set_option maxRecDepth 65536 in
theorem w_c2 : (Jvm.Cond.code ({ cls := "java/lang/String", name := "<init>", desc := "([C)V" } : Jvm.MethodName) jdk_42_method_3_code (2 : Nat) (Option.none : Option Jvm.ClassFile.FieldType)).before args0 about1 = true := code_word (m := ⟨7, 1⟩) (meth := k7m1) (c := k7c1) (by decide +kernel) rfl rfl rfl (by decide +kernel)
set_option maxRecDepth 65536 in
theorem w_c3 : (Jvm.Cond.code ({ cls := "java/lang/String", name := "<init>", desc := "([CIILjava/lang/Void;)V" } : Jvm.MethodName) jdk_42_method_149_code (6 : Nat) (Option.none : Option Jvm.ClassFile.FieldType)).before args0 about1 = true := code_word (m := ⟨7, 3⟩) (meth := k7m3) (c := k7c3) (by decide +kernel) rfl rfl rfl (by decide +kernel)
set_option maxRecDepth 65536 in
theorem w_c4 : (Jvm.Cond.code ({ cls := "java/lang/Object", name := "<init>", desc := "()V" } : Jvm.MethodName) object_method_1_code (1 : Nat) (Option.none : Option Jvm.ClassFile.FieldType)).before args0 about1 = true := code_word (m := ⟨0, 0⟩) (meth := k0m0) (c := k0c0) (by decide +kernel) rfl rfl rfl (by decide +kernel)
set_option maxRecDepth 65536 in
theorem w_c5 : (Jvm.Cond.code ({ cls := "com/example/waypost/waypost/model/BuiltValue", name := "isTrue", desc := "(Ljava/lang/String;)Z" } : Jvm.MethodName) prog_42_method_5_code (1 : Nat) (Option.some Jvm.ClassFile.FieldType.boolean)).before args0 about1 = true := code_word (m := ⟨8, 1⟩) (meth := k8m1) (c := k8c1) (by decide +kernel) rfl rfl rfl (by decide +kernel)
set_option maxRecDepth 65536 in
theorem w_c6 : (Jvm.Cond.code ({ cls := "java/lang/String", name := "equals", desc := "(Ljava/lang/Object;)Z" } : Jvm.MethodName) jdk_42_method_66_code (3 : Nat) (Option.some Jvm.ClassFile.FieldType.boolean)).before args0 about1 = true := code_word (m := ⟨7, 2⟩) (meth := k7m2) (c := k7c2) (by decide +kernel) rfl rfl rfl (by decide +kernel)
set_option maxRecDepth 65536 in
theorem w_c7 : (Jvm.Cond.code ({ cls := "java/lang/StringLatin1", name := "equals", desc := "([B[B)Z" } : Jvm.MethodName) jdk_43_method_13_code (3 : Nat) (Option.some Jvm.ClassFile.FieldType.boolean)).before args0 about1 = true := code_word (m := ⟨9, 1⟩) (meth := k9m1) (c := k9c1) (by decide +kernel) rfl rfl rfl (by decide +kernel)
set_option maxRecDepth 65536 in
theorem w_c8 : (Jvm.Cond.code ({ cls := "java/lang/StringUTF16", name := "compress", desc := "([CII)[B" } : Jvm.MethodName) jdk_52_method_16_code (6 : Nat) (Option.some (Jvm.ClassFile.FieldType.array Jvm.ClassFile.FieldType.byte))).before args0 about1 = true := code_word (m := ⟨10, 2⟩) (meth := k10m2) (c := k10c2) (by decide +kernel) rfl rfl rfl (by decide +kernel)
set_option maxRecDepth 65536 in
theorem w_c9 : (Jvm.Cond.code ({ cls := "java/lang/StringUTF16", name := "compress", desc := "([CI[BII)I" } : Jvm.MethodName) jdk_52_method_21_code (7 : Nat) (Option.some Jvm.ClassFile.FieldType.int)).before args0 about1 = true := code_word (m := ⟨10, 3⟩) (meth := k10m3) (c := k10c3) (by decide +kernel) rfl rfl rfl (by decide +kernel)
set_option maxRecDepth 65536 in
theorem w_c10 : (Jvm.Cond.code ({ cls := "java/lang/StringUTF16", name := "coderFromArrayLen", desc := "([BI)B" } : Jvm.MethodName) jdk_52_method_15_code (2 : Nat) (Option.some Jvm.ClassFile.FieldType.byte)).before args0 about1 = true := code_word (m := ⟨10, 1⟩) (meth := k10m1) (c := k10c1) (by decide +kernel) rfl rfl rfl (by decide +kernel)
def codes1 : List Jvm.Cond := [Jvm.Cond.code x code maxLocals ret, Jvm.Cond.code ({ cls := "com/example/waypost/waypost/model/BuiltValueIsTruePinLaw", name := "pick", desc := "(I)C" } : Jvm.MethodName) method_2_code (2 : Nat) (Option.some Jvm.ClassFile.FieldType.char), Jvm.Cond.code ({ cls := "java/lang/String", name := "<init>", desc := "([C)V" } : Jvm.MethodName) jdk_42_method_3_code (2 : Nat) (Option.none : Option Jvm.ClassFile.FieldType), Jvm.Cond.code ({ cls := "java/lang/String", name := "<init>", desc := "([CIILjava/lang/Void;)V" } : Jvm.MethodName) jdk_42_method_149_code (6 : Nat) (Option.none : Option Jvm.ClassFile.FieldType), Jvm.Cond.code ({ cls := "java/lang/Object", name := "<init>", desc := "()V" } : Jvm.MethodName) object_method_1_code (1 : Nat) (Option.none : Option Jvm.ClassFile.FieldType), Jvm.Cond.code ({ cls := "com/example/waypost/waypost/model/BuiltValue", name := "isTrue", desc := "(Ljava/lang/String;)Z" } : Jvm.MethodName) prog_42_method_5_code (1 : Nat) (Option.some Jvm.ClassFile.FieldType.boolean), Jvm.Cond.code ({ cls := "java/lang/String", name := "equals", desc := "(Ljava/lang/Object;)Z" } : Jvm.MethodName) jdk_42_method_66_code (3 : Nat) (Option.some Jvm.ClassFile.FieldType.boolean), Jvm.Cond.code ({ cls := "java/lang/StringLatin1", name := "equals", desc := "([B[B)Z" } : Jvm.MethodName) jdk_43_method_13_code (3 : Nat) (Option.some Jvm.ClassFile.FieldType.boolean), Jvm.Cond.code ({ cls := "java/lang/StringUTF16", name := "compress", desc := "([CII)[B" } : Jvm.MethodName) jdk_52_method_16_code (6 : Nat) (Option.some (Jvm.ClassFile.FieldType.array Jvm.ClassFile.FieldType.byte)), Jvm.Cond.code ({ cls := "java/lang/StringUTF16", name := "compress", desc := "([CI[BII)I" } : Jvm.MethodName) jdk_52_method_21_code (7 : Nat) (Option.some Jvm.ClassFile.FieldType.int), Jvm.Cond.code ({ cls := "java/lang/StringUTF16", name := "coderFromArrayLen", desc := "([BI)B" } : Jvm.MethodName) jdk_52_method_15_code (2 : Nat) (Option.some Jvm.ClassFile.FieldType.byte)]
set_option maxRecDepth 65536 in
theorem codes_eq : words1.filter isCode = codes1 := rfl
theorem w_codes : ∀ c ∈ words1.filter isCode, c.before args0 about1 = true := by
  rw [codes_eq]
  intro c hc
  simp only [codes1, List.mem_cons, List.not_mem_nil, or_false] at hc
  rcases hc with rfl | rfl | rfl | rfl | rfl | rfl | rfl | rfl | rfl | rfl | rfl
  · exact w_c0
  · exact w_c1
  · exact w_c2
  · exact w_c3
  · exact w_c4
  · exact w_c5
  · exact w_c6
  · exact w_c7
  · exact w_c8
  · exact w_c9
  · exact w_c10
set_option maxRecDepth 65536 in
theorem w_t1 : (words1.take 24).all (fun c => isCode c || c.before args0 about1) = true := by decide +kernel
set_option maxRecDepth 65536 in
theorem w_t2 : ((words1.drop 24).take 24).all (fun c => isCode c || c.before args0 about1) = true := by decide +kernel
set_option maxRecDepth 65536 in
theorem w_t3 : ((words1.drop 24).drop 24).all (fun c => isCode c || c.before args0 about1) = true := by decide +kernel
theorem w_tables : (allAtoms (Jvm.Cond.code x code maxLocals ret :: tables_1)).before args0 about1 = true := by
  rw [allAtoms_all]
  show words1.all (fun c => c.before args0 about1) = true
  refine all_split ?_ w_codes
  rw [← List.take_append_drop 24 words1, List.all_append, w_t1, ← List.take_append_drop 24 (words1.drop 24), List.all_append, w_t2, w_t3]
  rfl
set_option maxRecDepth 65536 in
theorem w_rest : rest_1_c.before args0 about1 = true := by decide +kernel
set_option maxRecDepth 65536 in
theorem w_case : (Jvm.Cond.and given_1 narrow_1).before args0 about1 = true := by decide +kernel
set_option maxRecDepth 65536 in
theorem w_consts : constsHeld consts_1 about1 := Jvm.Lit.constsHeldB_iff.mp (by decide +kernel)
theorem w_applies : (headSpec (Jvm.Cond.code x code maxLocals ret :: tables_1) room_1).applies x e0.platform about1 = true :=
  (Spec.applies_iff w_frames).mpr ⟨w_running, w_runnable, w_alone, w_named, w_hears, w_ripe, w_room, w_tables⟩
theorem atStart : AtStart classFile x code maxLocals ret World_1 tables_1 room_1 Calls_1 rest_1 Pre_1 launch0 p0 e0 about1 theMethod args0 below0 :=
  ⟨lists_1, trivial, launch0.admits_env _ _ _, launch0.least_env, fairChoices_fair.cas, fairChoices_fair.clock, w_frames, w_args, w_heap, w_applies, ⟨w_consts, trivial⟩, w_rest, w_case⟩
end start1
theorem witness_1 : WitnessClaimed_1 := ⟨start1.p0, start1.e0, start1.about1, start1.theMethod, start1.args0, start1.below0, start1.atStart⟩
end Jvm.Pilot.@@N@@
