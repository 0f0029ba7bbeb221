import JvmDerived
import JvmDerived.Pilot.@@N@@Statement
import JvmDerived.Pilot.@@N@@Code
set_option linter.unusedVariables false
set_option linter.unusedSimpArgs false
/- laws to paste: Road.backV, Road.lenW, Road.eqW, Road.codOf (cut by pick.py; bodies as the Statement names them) -/
namespace Jvm.Pilot.@@N@@
namespace StrChars
open Jvm Sem ClassFile Op Lib Jvm.Stand Jvm.Free.XT Jvm.Free.ALB Jvm.Free.JM Jvm.Free
open Jvm.Lib.Cold (StaticIs)
/-- a char array whose places are chars -/
def Ch (a : Addr) (A : Cell) (U : State) : Prop := Arr .char a A U ∧ Typed .char A
theorem Ch.mv {a : Addr} {A : Cell} {U U' : State} (h : Ch a A U) (hal : U.vm.Alike U'.vm) (hh : U'.heap = U.heap) : Ch a A U' := ⟨h.1.mv hal hh, h.2⟩
theorem Ch.keep {a : Addr} {A : Cell} {U U' : State} (h : Ch a A U) (hal : U.vm.Alike U'.vm) (hk : U'.heap[a]? = some A) : Ch a A U' := ⟨h.1.keep hal hk, h.2⟩
/-- what place i of a char[]'s cell holds -/
def cv (A : Cell) (i : Nat) : Int32 := match A.slots[i]? with | some (.int x) => x | _ => 0
theorem Ch.get {a : Addr} {A : Cell} {U : State} (h : Ch a A U) {i : Nat} (hi : i < A.slots.size) : A.slots[i]? = some (.int (cv A i)) := by
  have e := Array.getElem?_eq_getElem hi
  have f := h.2 i _ e
  unfold cv; rw [e]
  generalize A.slots[i] = v at f
  cases v <;> simp [fits] at f ⊢
/-- the byte that i2b leaves of a char -/
def lo8 (x : Int32) : Int32 := x.toInt8.toInt32
theorem fits_lo8 (y : Int32) : fits .byte (.int (lo8 y)) = true := by
  have h1 := y.toInt8.le_toInt
  have h2 := y.toInt8.toInt_lt
  simp only [lo8, fits, Bool.and_eq_true, decide_eq_true_eq, Int32.le_iff_toInt_le, Int8.toInt_toInt32, show (-128 : Int32).toInt = -128 from by decide, show (127 : Int32).toInt = 127 from by decide]
  omega
/-- A' is A but that each place j of lo .. hi - 1 holds f j -/
def Laid (A A' : Cell) (lo hi : Nat) (f : Nat → Value) : Prop := A'.cls = A.cls ∧ A'.vm = A.vm ∧ A'.slots.size = A.slots.size ∧ ∀ i, A'.slots[i]? = if lo ≤ i ∧ i < hi then some (f i) else A.slots[i]?
theorem Laid.zero (A : Cell) (lo : Nat) (f : Nat → Value) : Laid A A lo (lo + 0) f := ⟨rfl, rfl, rfl, fun i => by rw [if_neg (by omega)]⟩
theorem Laid.step {A Ak : Cell} {lo k : Nat} {f : Nat → Value} {v : Value} (h : Laid A Ak lo k f) (hlo : lo ≤ k) (hk : k < Ak.slots.size) (hv : v = f k) : Laid A (Ak.setSlot k v) lo (k + 1) f := by
  refine ⟨h.1, h.2.1, by simpa [Cell.setSlot] using h.2.2.1, fun i => ?_⟩
  by_cases e : k = i
  · subst e; rw [Cell.slots_setSlot_self v hk, if_pos (by omega), hv]
  · rw [Cell.slots_setSlot_ne v e, h.2.2.2 i]
    by_cases q : lo ≤ i ∧ i < k
    · rw [if_pos q, if_pos (by omega)]
    · rw [if_neg q, if_neg (by omega)]
def U16 : String := "java/lang/StringUTF16"
namespace Cmp5
def yN : MethodName := ⟨"java/lang/StringUTF16", "compress", "([CI[BII)I"⟩
abbrev yB : ByteArray := jdk_52_method_21_code
theorem d0 : decode yB 0 = .ok (.iconst 0, 1) := by decide +kernel
theorem d1 : decode yB 1 = .ok (.istore 5, 2) := by decide +kernel
theorem d3 : decode yB 3 = .ok (.iload 5, 2) := by decide +kernel
theorem d5 : decode yB 5 = .ok (.iload 4, 2) := by decide +kernel
theorem d7 : decode yB 7 = .ok (.if_icmp (.ge) 37, 3) := by decide +kernel
theorem d10 : decode yB 10 = .ok (.aload_n 0, 1) := by decide +kernel
theorem d11 : decode yB 11 = .ok (.iload_n 1, 1) := by decide +kernel
theorem d12 : decode yB 12 = .ok (.caload, 1) := by decide +kernel
theorem d13 : decode yB 13 = .ok (.istore 6, 2) := by decide +kernel
theorem d15 : decode yB 15 = .ok (.iload 6, 2) := by decide +kernel
theorem d17 : decode yB 17 = .ok (.sipush 255, 3) := by decide +kernel
theorem d20 : decode yB 20 = .ok (.if_icmp (.le) 6, 3) := by decide +kernel
theorem d26 : decode yB 26 = .ok (.aload_n 2, 1) := by decide +kernel
theorem d27 : decode yB 27 = .ok (.iload_n 3, 1) := by decide +kernel
theorem d28 : decode yB 28 = .ok (.iload 6, 2) := by decide +kernel
theorem d30 : decode yB 30 = .ok (.i2b, 1) := by decide +kernel
theorem d31 : decode yB 31 = .ok (.bastore, 1) := by decide +kernel
theorem d32 : decode yB 32 = .ok (.iinc 1 1, 3) := by decide +kernel
theorem d35 : decode yB 35 = .ok (.iinc 3 1, 3) := by decide +kernel
theorem d38 : decode yB 38 = .ok (.iinc 5 1, 3) := by decide +kernel
theorem d41 : decode yB 41 = .ok (.goto (-38), 3) := by decide +kernel
theorem d44 : decode yB 44 = .ok (.iload 4, 2) := by decide +kernel
theorem d46 : decode yB 46 = .ok (.ireturn, 1) := by decide +kernel
def site : List Cond := []
def tab : Cond := tabOf yN yB 7 (some .int) site
def P (b : Addr) (A : Cell) (d : Addr) (B : Cell) (o q len : Nat) (args : Array Value) (s : State) : Prop := args = #[.ref b, .int (Int32.ofNat o), .ref d, .int (Int32.ofNat q), .int (Int32.ofNat len)] ∧ Ch b A s ∧ Arr .byte d B s ∧ b ≠ d ∧ o + len ≤ A.slots.size ∧ q + len ≤ B.slots.size ∧ ∀ i, i < len → ¬ 255 < cv A (o + i)
def E (b : Addr) (A : Cell) (d : Addr) (B : Cell) (o q len : Nat) (r : Option Value) (s u : State) : Prop := r = some (.int (Int32.ofNat len)) ∧ ∃ B', Put d B' s u ∧ Laid B B' q (q + len) (fun j => Value.int (lo8 (cv A (o + (j - q)))))
/-- no char of the range above 255: len; the places written hold each char's low byte -/
theorem law (l : Launch) (b : Addr) (A : Cell) (d : Addr) (B : Cell) (o q len : Nat) : Law l yN 5 5 0 0 yB 7 (some .int) site (P b A d B o q len) (E b A d B o q len) (copyLocs d q len) 0 0 := by
  refine Law.of_walk (plainFor_of_name (by decide +kernel)) (by decide +kernel) (by decide +kernel) (by decide) (fun _ _ h => by rw [h.1]; rfl) (fun _ U U' hal hh h => ⟨h.1, h.2.1.mv hal hh, h.2.2.1.mv hal hh, h.2.2.2⟩) (fun r U U' V V' h1 hal h2 h => ⟨h.1, h.2.elim fun B' q => ⟨B', q.1.mv h1 h2, q.2⟩⟩) ?_
  intro p e s m args below meth c s₁ X0 hexec hbytes hml hret hlk hnm hown hh0 W hP
  obtain ⟨rfl, hA, hB, hne, l1, l2, hp⟩ := hP
  have c1 : Steps p.tables e below (s₁.setTop (entryFrame m #[.ref b, .int (Int32.ofNat o), .ref d, .int (Int32.ofNat q), .int (Int32.ofNat len)] 7)) (s₁.setTop (mkF m 0 #[.val (.ref b), .val (.int (Int32.ofNat o)), .val (.ref d), .val (.int (Int32.ofNat q)), .val (.int (Int32.ofNat len)), .unset, .unset] [])) := entry rfl
  have hA0 := hA.1.mv X0.warmed.alike hh0
  have hB0 := hB.mv X0.warmed.alike hh0
  have a31 := hA.1.2.2.2
  have c2 : Steps p.tables e below (s₁.setTop (entryFrame m #[.ref b, .int (Int32.ofNat o), .ref d, .int (Int32.ofNat q), .int (Int32.ofNat len)] 7)) (s₁.setTop (mkF m 3 #[.val (.ref b), .val (.int (Int32.ofNat o)), .val (.ref d), .val (.int (Int32.ofNat q)), .val (.int (Int32.ofNat len)), .val (.int 0), .unset] [])) := c1.trans (by
    refine iconstV X0.here hexec rfl 0 (hb hbytes d0) (by decide) ?_
    refine XS.istore X0.here hexec rfl (hb hbytes d1) rfl rfl ?_
    exact Steps.refl _)
  have loop : ∀ (r i : Nat), i + r = len → ∀ (z : Slot), (z = .unset ∨ ∃ w, z = .val w ∧ w.category = 1) → ∀ (Tl : State) (Bk : Cell), Stand p l e { frames := 0, locals := 0, cells := 0, slots := 0 } s m #[.ref b, .int (Int32.ofNat o), .ref d, .int (Int32.ofNat q), .int (Int32.ofNat len)] below meth c Tl ([] ++ copyLocs d q i) 0 0 → Put d Bk s₁ Tl → Laid B Bk q (q + i) (fun j => Value.int (lo8 (cv A (o + (j - q))))) →
      Steps p.tables e below (s₁.setTop (entryFrame m #[.ref b, .int (Int32.ofNat o), .ref d, .int (Int32.ofNat q), .int (Int32.ofNat len)] 7)) (Tl.setTop (mkF m 3 #[.val (.ref b), .val (.int (Int32.ofNat (o + i))), .val (.ref d), .val (.int (Int32.ofNat (q + i))), .val (.int (Int32.ofNat len)), .val (.int (Int32.ofNat i)), z] [])) → ∃ (T' : State) (B' : Cell) (z' : Slot), Stand p l e { frames := 0, locals := 0, cells := 0, slots := 0 } s m #[.ref b, .int (Int32.ofNat o), .ref d, .int (Int32.ofNat q), .int (Int32.ofNat len)] below meth c T' ([] ++ copyLocs d q len) 0 0 ∧ Put d B' s₁ T' ∧ Laid B B' q (q + len) (fun j => Value.int (lo8 (cv A (o + (j - q))))) ∧
      Steps p.tables e below (s₁.setTop (entryFrame m #[.ref b, .int (Int32.ofNat o), .ref d, .int (Int32.ofNat q), .int (Int32.ofNat len)] 7)) (T'.setTop (mkF m 3 #[.val (.ref b), .val (.int (Int32.ofNat (o + len))), .val (.ref d), .val (.int (Int32.ofNat (q + len))), .val (.int (Int32.ofNat len)), .val (.int (Int32.ofNat len)), z'] [])) := by
    intro r
    induction r with
    | zero =>
      intro i hi z hz Tl Bk Xl pl fl cl
      have hil : i = len := by omega
      rw [hil] at Xl fl cl
      exact ⟨Tl, Bk, z, Xl, pl, fl, cl⟩
    | succ r ih =>
      intro i hi z hz Tl Bk Xl pl fl cl
      have all := X0.warmed.alike.symm.trans Xl.warmed.alike
      have hAl := hA0.keep all (pl.other hne hA0.1)
      have hBk := hB0.like all pl.1 fl.1 fl.2.1 fl.2.2.1
      have hlt : q + i < Bk.slots.size := by rw [fl.2.2.1]; omega
      have c3 : Steps p.tables e below (s₁.setTop (entryFrame m #[.ref b, .int (Int32.ofNat o), .ref d, .int (Int32.ofNat q), .int (Int32.ofNat len)] 7)) (Tl.setTop (mkF m 12 #[.val (.ref b), .val (.int (Int32.ofNat (o + i))), .val (.ref d), .val (.int (Int32.ofNat (q + i))), .val (.int (Int32.ofNat len)), .val (.int (Int32.ofNat i)), z] [.int (Int32.ofNat (o + i)), .ref b])) := cl.trans (by
        refine XS.iload Xl.here hexec rfl (hb hbytes d3) rfl ?_
        refine XS.iload Xl.here hexec rfl (hb hbytes d5) rfl ?_
        refine XS.icmpNo Xl.here hexec rfl (hb hbytes d7) rfl (ii_ge_f (lt32 (by omega) (by omega))) ?_
        refine XS.aloadN Xl.here hexec rfl (hb hbytes d10) rfl rfl ?_
        refine XS.iloadN Xl.here hexec rfl (hb hbytes d11) rfl ?_
        exact Steps.refl _)
      have c4 : Steps p.tables e below (s₁.setTop (entryFrame m #[.ref b, .int (Int32.ofNat o), .ref d, .int (Int32.ofNat q), .int (Int32.ofNat len)] 7)) (Tl.setTop (mkF m 13 #[.val (.ref b), .val (.int (Int32.ofNat (o + i))), .val (.ref d), .val (.int (Int32.ofNat (q + i))), .val (.int (Int32.ofNat len)), .val (.int (Int32.ofNat i)), z] [.int (cv A (o + i))])) := c3.trans (by
        refine Xl.aget hexec hAl rfl (hA.get (i := o + i) (by omega)) rfl rfl (hb hbytes d12) ?_
        exact Steps.refl _)
      have c5 : Steps p.tables e below (s₁.setTop (entryFrame m #[.ref b, .int (Int32.ofNat o), .ref d, .int (Int32.ofNat q), .int (Int32.ofNat len)] 7)) (Tl.setTop (mkF m 15 #[.val (.ref b), .val (.int (Int32.ofNat (o + i))), .val (.ref d), .val (.int (Int32.ofNat (q + i))), .val (.int (Int32.ofNat len)), .val (.int (Int32.ofNat i)), .val (.int (cv A (o + i)))] [])) := c4.trans (by
        refine XS.istoreS Xl.here hexec rfl (hb hbytes d13) rfl rfl hz ?_
        exact Steps.refl _)
      have c6 : Steps p.tables e below (s₁.setTop (entryFrame m #[.ref b, .int (Int32.ofNat o), .ref d, .int (Int32.ofNat q), .int (Int32.ofNat len)] 7)) (Tl.setTop (mkF m 31 #[.val (.ref b), .val (.int (Int32.ofNat (o + i))), .val (.ref d), .val (.int (Int32.ofNat (q + i))), .val (.int (Int32.ofNat len)), .val (.int (Int32.ofNat i)), .val (.int (cv A (o + i)))] [.int (lo8 (cv A (o + i))), .int (Int32.ofNat (q + i)), .ref d])) := c5.trans (by
        refine XS.iload Xl.here hexec rfl (hb hbytes d15) rfl ?_
        refine sipushV Xl.here hexec rfl 255 (hb hbytes d17) (by decide) ?_
        refine XS.icmpYes Xl.here hexec rfl (pc0 := 20) rfl (hb hbytes d20) rfl (ii_le_t (hp i (by omega))) (by decide) rfl ?_
        refine XS.aloadN Xl.here hexec rfl (hb hbytes d26) rfl rfl ?_
        refine XS.iloadN Xl.here hexec rfl (hb hbytes d27) rfl ?_
        refine XS.iload Xl.here hexec rfl (hb hbytes d28) rfl ?_
        refine i2b Xl.here hexec rfl (hb hbytes d30) rfl ?_
        exact Steps.refl _)
      obtain ⟨T7, X7, p7, st7⟩ := Xl.aput hexec hBk rfl hlt rfl (fits_lo8 (cv A (o + i))) (g := (mkF m 31 #[.val (.ref b), .val (.int (Int32.ofNat (o + i))), .val (.ref d), .val (.int (Int32.ofNat (q + i))), .val (.int (Int32.ofNat len)), .val (.int (Int32.ofNat i)), .val (.int (cv A (o + i)))] [.int (lo8 (cv A (o + i))), .int (Int32.ofNat (q + i)), .ref d])) rfl (rest := []) rfl (hb hbytes d31)
      have c8 : Steps p.tables e below (s₁.setTop (entryFrame m #[.ref b, .int (Int32.ofNat o), .ref d, .int (Int32.ofNat q), .int (Int32.ofNat len)] 7)) (T7.setTop (mkF m 32 #[.val (.ref b), .val (.int (Int32.ofNat (o + i))), .val (.ref d), .val (.int (Int32.ofNat (q + i))), .val (.int (Int32.ofNat len)), .val (.int (Int32.ofNat i)), .val (.int (cv A (o + i)))] [])) := c6.trans (st7 _ (Steps.refl _))
      have c9 : Steps p.tables e below (s₁.setTop (entryFrame m #[.ref b, .int (Int32.ofNat o), .ref d, .int (Int32.ofNat q), .int (Int32.ofNat len)] 7)) (T7.setTop (mkF m 3 #[.val (.ref b), .val (.int (Int32.ofNat (o + i) + 1)), .val (.ref d), .val (.int (Int32.ofNat (q + i) + 1)), .val (.int (Int32.ofNat len)), .val (.int (Int32.ofNat i + 1)), .val (.int (cv A (o + i)))] [])) := c8.trans (by
        refine iincV X7.here hexec rfl 1 (hb hbytes d32) (by decide) rfl rfl ?_
        refine iincV X7.here hexec rfl 1 (hb hbytes d35) (by decide) rfl rfl ?_
        refine iincV X7.here hexec rfl 1 (hb hbytes d38) (by decide) rfl rfl ?_
        refine XS.goto X7.here hexec rfl (pc0 := 41) rfl (hb hbytes d41) (by decide) rfl ?_
        exact Steps.refl _)
      have c10 : Steps p.tables e below (s₁.setTop (entryFrame m #[.ref b, .int (Int32.ofNat o), .ref d, .int (Int32.ofNat q), .int (Int32.ofNat len)] 7)) (T7.setTop (mkF m 3 #[.val (.ref b), .val (.int (Int32.ofNat (o + (i + 1)))), .val (.ref d), .val (.int (Int32.ofNat (q + (i + 1)))), .val (.int (Int32.ofNat len)), .val (.int (Int32.ofNat (i + 1))), .val (.int (cv A (o + i)))] [])) := by
        have := c9
        rw [succ32, succ32, succ32] at this
        exact this
      exact ih (i + 1) (by omega) _ (Or.inr ⟨_, rfl, rfl⟩) T7 _ (by rw [copyLocs_step, ← List.append_assoc]; exact X7) (pl.trans p7) (fl.step (by omega) hlt (by simp)) c10
  obtain ⟨T9, B9, z9, X9, p9, f9, g9⟩ := loop len 0 (by omega) .unset (Or.inl rfl) s₁ B (by simpa [copyLocs] using X0) ⟨hB0.1, fun _ _ => rfl, rfl⟩ (Laid.zero _ _ _) c2
  have c11 : Steps p.tables e below (s₁.setTop (entryFrame m #[.ref b, .int (Int32.ofNat o), .ref d, .int (Int32.ofNat q), .int (Int32.ofNat len)] 7)) (T9.setTop (mkF m 46 #[.val (.ref b), .val (.int (Int32.ofNat (o + len))), .val (.ref d), .val (.int (Int32.ofNat (q + len))), .val (.int (Int32.ofNat len)), .val (.int (Int32.ofNat len)), z9] [.int (Int32.ofNat len)])) := g9.trans (by
    refine XS.iload X9.here hexec rfl (hb hbytes d3) rfl ?_
    refine XS.iload X9.here hexec rfl (hb hbytes d5) rfl ?_
    refine XS.icmpYes X9.here hexec rfl (pc0 := 7) rfl (hb hbytes d7) rfl (ii_ge_t (nlt32 (by omega) (Nat.le_refl _))) (by decide) rfl ?_
    refine XS.iload X9.here hexec rfl (hb hbytes d44) rfl ?_
    exact Steps.refl _)
  exact ⟨T9, some (.int (Int32.ofNat len)), _, _, _, X9, by simp, rfl, rfl, (fun h => by cases h), ⟨rfl, B9, p9.from hh0, f9⟩, fun fs hl => c11.trans (X9.ireturnOut hexec hret rfl (Or.inl rfl) (hb hbytes d46) hl)⟩
end Cmp5
namespace Cmp3
def yN : MethodName := ⟨"java/lang/StringUTF16", "compress", "([CII)[B"⟩
abbrev yB : ByteArray := jdk_52_method_16_code
theorem d0 : decode yB 0 = .ok (.iload_n 2, 1) := by decide +kernel
theorem d1 : decode yB 1 = .ok (.newarray .byte, 2) := by decide +kernel
theorem d3 : decode yB 3 = .ok (.astore_n 3, 1) := by decide +kernel
theorem d4 : decode yB 4 = .ok (.aload_n 0, 1) := by decide +kernel
theorem d5 : decode yB 5 = .ok (.iload_n 1, 1) := by decide +kernel
theorem d6 : decode yB 6 = .ok (.aload_n 3, 1) := by decide +kernel
theorem d7 : decode yB 7 = .ok (.iconst 0, 1) := by decide +kernel
theorem d8 : decode yB 8 = .ok (.iload_n 2, 1) := by decide +kernel
theorem d9 : decode yB 9 = .ok (.invokestatic 115, 3) := by decide +kernel
theorem d12 : decode yB 12 = .ok (.istore 4, 2) := by decide +kernel
theorem d14 : decode yB 14 = .ok (.iload 4, 2) := by decide +kernel
theorem d16 : decode yB 16 = .ok (.iload_n 2, 1) := by decide +kernel
theorem d17 : decode yB 17 = .ok (.if_icmp (.eq) 40, 3) := by decide +kernel
theorem d57 : decode yB 57 = .ok (.aload_n 3, 1) := by decide +kernel
theorem d58 : decode yB 58 = .ok (.areturn, 1) := by decide +kernel
def site : List Cond := [.arrayClass .byte, Cmp5.tab] ++ staticW U16 115 Cmp5.yN
def tab : Cond := tabOf yN yB 6 (some (.array .byte)) site
def P (b : Addr) (A : Cell) (o len : Nat) (args : Array Value) (s : State) : Prop := args = #[.ref b, .int (Int32.ofNat o), .int (Int32.ofNat len)] ∧ Ch b A s ∧ o + len ≤ A.slots.size ∧ len ≤ 536870912 ∧ ∀ i, i < len → ¬ 255 < cv A (o + i)
def E (b : Addr) (A : Cell) (o len : Nat) (r : Option Value) (s u : State) : Prop := NewArr .byte "[B" len (fun j => .int (lo8 (cv A (o + j)))) r s u ∧ u.heap.size = s.heap.size + 1
/-- no char of the range above 255: a new byte[] of their low bytes -/
theorem law (l : Launch) (b : Addr) (A : Cell) (o len : Nat) : Law l yN 3 3 1 18 yB 6 (some (.array .byte)) site (P b A o len) (E b A o len) [] 1 len := by
  refine Law.of_walk (plainFor_of_name (by decide +kernel)) (by decide +kernel) (by decide +kernel) (by decide) (fun _ _ h => by rw [h.1]; rfl) (fun _ U U' hal hh h => ⟨h.1, h.2.1.mv hal hh, h.2.2⟩) (fun r U U' V V' h1 hal h2 h => ⟨NewArr.mv r U U' V V' h1 hal h2 h.1, by rw [h1, h2]; exact h.2⟩) ?_
  intro p e s m args below meth c s₁ X0 hexec hbytes hml hret hlk hnm hown hh0 W hP
  obtain ⟨rfl, hA, l1, l2, hp⟩ := hP
  have a31 := hA.1.2.2.2
  have c1 : Steps p.tables e below (s₁.setTop (entryFrame m #[.ref b, .int (Int32.ofNat o), .int (Int32.ofNat len)] 6)) (s₁.setTop (mkF m 0 #[.val (.ref b), .val (.int (Int32.ofNat o)), .val (.int (Int32.ofNat len)), .unset, .unset, .unset] [])) := entry rfl
  have c2 : Steps p.tables e below (s₁.setTop (entryFrame m #[.ref b, .int (Int32.ofNat o), .int (Int32.ofNat len)] 6)) (s₁.setTop (mkF m 1 #[.val (.ref b), .val (.int (Int32.ofNat o)), .val (.int (Int32.ofNat len)), .unset, .unset, .unset] [.int (Int32.ofNat len)])) := c1.trans (by
    refine XS.iloadN X0.here hexec rfl (hb hbytes d0) rfl ?_
    exact Steps.refl _)
  obtain ⟨T3, B3, X3, ba3, bs3, bv3, bh3, bf3, st3⟩ := X0.anew hexec (atype := .byte) (wk W (.arrayClass .byte)) rfl (by show len * 1 ≤ _; omega) (by omega) (g := (mkF m 1 #[.val (.ref b), .val (.int (Int32.ofNat o)), .val (.int (Int32.ofNat len)), .unset, .unset, .unset] [.int (Int32.ofNat len)])) rfl (hb hbytes d1) (rest := []) rfl (Nat.le_refl _) (by show 0 + len ≤ len; omega)
  rw [hh0] at ba3 st3
  have kp3 : XT.Kept s T3 := (XT.Kept.of_eq hh0).push bh3
  have hA3 := hA.keep X3.warmed.alike (kp3 _ _ hA.1.1)
  have hne : b ≠ s.heap.size := hA.1.ne
  have c4 : Steps p.tables e below (s₁.setTop (entryFrame m #[.ref b, .int (Int32.ofNat o), .int (Int32.ofNat len)] 6)) (T3.setTop (mkF m 3 #[.val (.ref b), .val (.int (Int32.ofNat o)), .val (.int (Int32.ofNat len)), .unset, .unset, .unset] [.ref s.heap.size])) := c2.trans (st3 _ (Steps.refl _))
  have c5 : Steps p.tables e below (s₁.setTop (entryFrame m #[.ref b, .int (Int32.ofNat o), .int (Int32.ofNat len)] 6)) (T3.setTop (mkF m 9 #[.val (.ref b), .val (.int (Int32.ofNat o)), .val (.int (Int32.ofNat len)), .val (.ref s.heap.size), .unset, .unset] [.int (Int32.ofNat len), .int 0, .ref s.heap.size, .int (Int32.ofNat o), .ref b])) := c4.trans (by
    refine XS.astoreN X3.here hexec rfl (hb hbytes d3) rfl rfl rfl ?_
    refine XS.aloadN X3.here hexec rfl (hb hbytes d4) rfl rfl ?_
    refine XS.iloadN X3.here hexec rfl (hb hbytes d5) rfl ?_
    refine XS.aloadN X3.here hexec rfl (hb hbytes d6) rfl rfl ?_
    refine iconstV X3.here hexec rfl 0 (hb hbytes d7) (by decide) ?_
    refine XS.iloadN X3.here hexec rfl (hb hbytes d8) rfl ?_
    exact Steps.refl _)
  obtain ⟨v6, T6, X6, E6, g6⟩ := X3.callS hexec (Cmp5.law l b A s.heap.size B3 o 0 len) hown (wks W (staticW U16 115 Cmp5.yN)) (wk W Cmp5.tab) (W := 0) (Nat.le_of_ble_eq_true rfl) (Nat.le_of_ble_eq_true rfl) (Nat.le_refl _) (by show 0 + len + 0 ≤ len; omega) (g := (mkF m 9 #[.val (.ref b), .val (.int (Int32.ofNat o)), .val (.int (Int32.ofNat len)), .val (.ref s.heap.size), .unset, .unset] [.int (Int32.ofNat len), .int (Int32.ofNat 0), .ref s.heap.size, .int (Int32.ofNat o), .ref b])) rfl (by rw [hml]; rfl) c5 (argsL := [.ref b, .int (Int32.ofNat o), .ref s.heap.size, .int (Int32.ofNat 0), .int (Int32.ofNat len)]) (rest := []) rfl rfl (by show 2 * 0 + 0 ≤ _; decide) (hb hbytes d9) (⟨rfl, hA3, ba3, hne, l1, by rw [bs3]; simp, hp⟩)
  obtain ⟨rfl, B6, p6, f6⟩ := E6
  have c7 : Steps p.tables e below (s₁.setTop (entryFrame m #[.ref b, .int (Int32.ofNat o), .int (Int32.ofNat len)] 6)) (T6.setTop (mkF m 12 #[.val (.ref b), .val (.int (Int32.ofNat o)), .val (.int (Int32.ofNat len)), .val (.ref s.heap.size), .unset, .unset] [.int (Int32.ofNat len)])) := g6
  have c8 : Steps p.tables e below (s₁.setTop (entryFrame m #[.ref b, .int (Int32.ofNat o), .int (Int32.ofNat len)] 6)) (T6.setTop (mkF m 58 #[.val (.ref b), .val (.int (Int32.ofNat o)), .val (.int (Int32.ofNat len)), .val (.ref s.heap.size), .val (.int (Int32.ofNat len)), .unset] [.ref s.heap.size])) := c7.trans (by
    refine XS.istore X6.here hexec rfl (hb hbytes d12) rfl rfl ?_
    refine XS.iload X6.here hexec rfl (hb hbytes d14) rfl ?_
    refine XS.iloadN X6.here hexec rfl (hb hbytes d16) rfl ?_
    refine XS.icmpYes X6.here hexec rfl (pc0 := 17) rfl (hb hbytes d17) rfl (ii_eq_t rfl) (by decide) rfl ?_
    refine XS.aloadN X6.here hexec rfl (hb hbytes d57) rfl rfl ?_
    exact Steps.refl _)
  have X8 := X6.wide (L' := []) (cells' := 1) (slots' := len) (fun x hx hlt => by
    simp only [List.nil_append, copyLocs, List.mem_map, List.mem_range] at hx
    obtain ⟨i, -, rfl⟩ := hx
    exact absurd hlt (Nat.lt_irrefl _)) (Nat.le_refl _) (by omega)
  exact ⟨T6, some (.ref s.heap.size), _, _, _, X8, rfl, rfl, rfl, (fun h => by cases h), ⟨⟨rfl, B6, ba3.like (X3.warmed.alike.symm.trans X6.warmed.alike) p6.1 f6.1 f6.2.1 f6.2.2.1, f6.2.1.trans bv3, by rw [X6.warmed.alike.findClass, f6.1]; exact bf3, by rw [f6.2.2.1, bs3]; simp, fun j hj => by rw [f6.2.2.2 j, if_pos (by omega)]; rfl, kp3.put p6 (Nat.le_refl _)⟩, by rw [p6.2.2, bh3, hh0]; simp⟩, fun fs hl => c8.trans (X8.areturnOut hexec rfl hret rfl (hb hbytes d58) hl)⟩
end Cmp3
namespace CodL
def yN : MethodName := ⟨"java/lang/StringUTF16", "coderFromArrayLen", "([BI)B"⟩
abbrev yB : ByteArray := jdk_52_method_15_code
theorem d0 : decode yB 0 = .ok (.iload_n 1, 1) := by decide +kernel
theorem d1 : decode yB 1 = .ok (.aload_n 0, 1) := by decide +kernel
theorem d2 : decode yB 2 = .ok (.arraylength, 1) := by decide +kernel
theorem d3 : decode yB 3 = .ok (.isub, 1) := by decide +kernel
theorem d4 : decode yB 4 = .ok (.bipush 31, 2) := by decide +kernel
theorem d6 : decode yB 6 = .ok (.iushr, 1) := by decide +kernel
theorem d7 : decode yB 7 = .ok (.i2b, 1) := by decide +kernel
theorem d8 : decode yB 8 = .ok (.ireturn, 1) := by decide +kernel
def site : List Cond := []
def tab : Cond := tabOf yN yB 2 (some .byte) site
def P (d : Addr) (B : Cell) (args : Array Value) (s : State) : Prop := args = #[.ref d, .int (Int32.ofNat B.slots.size)] ∧ Arr .byte d B s
def E (r : Option Value) (s u : State) : Prop := XT.PureE (some (.int 0)) r s u
/-- an array as long as the number of chars: LATIN1 -/
theorem law (l : Launch) (d : Addr) (B : Cell) : Law l yN 2 2 0 0 yB 2 (some .byte) site (P d B) E [] 0 0 := by
  refine Law.of_walk (plainFor_of_name (by decide +kernel)) (by decide +kernel) (by decide +kernel) (by decide) (fun _ _ h => by rw [h.1]; rfl) (fun _ U U' hal hh h => ⟨h.1, h.2.mv hal hh⟩) (fun r U U' V V' h1 hal h2 h => XT.PureE.mv r U U' V V' h1 hal h2 h) ?_
  intro p e s m args below meth c s₁ X0 hexec hbytes hml hret hlk hnm hown hh0 W hP
  obtain ⟨rfl, hB⟩ := hP
  have hB0 := hB.mv X0.warmed.alike hh0
  have c1 : Steps p.tables e below (s₁.setTop (entryFrame m #[.ref d, .int (Int32.ofNat B.slots.size)] 2)) (s₁.setTop (mkF m 0 #[.val (.ref d), .val (.int (Int32.ofNat B.slots.size))] [])) := entry rfl
  have c2 : Steps p.tables e below (s₁.setTop (entryFrame m #[.ref d, .int (Int32.ofNat B.slots.size)] 2)) (s₁.setTop (mkF m 2 #[.val (.ref d), .val (.int (Int32.ofNat B.slots.size))] [.ref d, .int (Int32.ofNat B.slots.size)])) := c1.trans (by
    refine XS.iloadN X0.here hexec rfl (hb hbytes d0) rfl ?_
    refine XS.aloadN X0.here hexec rfl (hb hbytes d1) rfl rfl ?_
    exact Steps.refl _)
  have c3 : Steps p.tables e below (s₁.setTop (entryFrame m #[.ref d, .int (Int32.ofNat B.slots.size)] 2)) (s₁.setTop (mkF m 8 #[.val (.ref d), .val (.int (Int32.ofNat B.slots.size))] [.int (lo8 (ushr (Int32.ofNat B.slots.size - Int32.ofNat B.slots.size) 31))])) := c2.trans (by
    refine X0.alen hexec hB0 rfl rfl (hb hbytes d2) ?_
    refine XS.isub X0.here hexec rfl (hb hbytes d3) rfl ?_
    refine bipushV X0.here hexec rfl 31 (hb hbytes d4) (by decide) ?_
    refine iushr X0.here hexec rfl (hb hbytes d6) rfl ?_
    refine i2b X0.here hexec rfl (hb hbytes d7) rfl ?_
    exact Steps.refl _)
  have e0 : lo8 (ushr (Int32.ofNat B.slots.size - Int32.ofNat B.slots.size) 31) = 0 := by rw [Int32.sub_self]; decide
  rw [e0] at c3
  exact ⟨s₁, some (.int 0), _, _, _, X0, rfl, rfl, rfl, (fun h => by cases h), ⟨rfl, hh0⟩, fun fs hl => c3.trans (X0.ireturnOut hexec hret rfl (Or.inr (Or.inr (Or.inl rfl))) (hb hbytes d8) hl)⟩
end CodL
/-- the String at a is Latin-1 over a new byte[] (the heap's one new cell): the low bytes of the len chars of A from o on; every cell but a is kept -/
def Got (a : Addr) (D : Cell) (fV fC : Field) (A : Cell) (o len : Nat) (r : Option Value) (s u : State) : Prop := r = none ∧ ∃ D' V : Cell, Blank "java/lang/String" a D' u ∧ Same D D' [fV.slot, fC.slot] ∧ D'.slots[fV.slot]? = some (.ref s.heap.size) ∧ D'.slots[fC.slot]? = some (.int 0) ∧ Arr .byte s.heap.size V u ∧ V.vm = .none ∧ u.vm.findClass "[B" = some V.cls ∧ V.slots.size = len ∧ (∀ j, j < len → V.slots[j]? = some (.int (lo8 (cv A (o + j))))) ∧ (∀ (y : Addr) (c : Cell), y ≠ a → s.heap[y]? = some c → u.heap[y]? = some c) ∧ u.heap.size = s.heap.size + 1
theorem Got.mv {a : Addr} {D A : Cell} {fV fC : Field} {o len : Nat} : ∀ r (U U' V V' : State), U'.heap = U.heap → V.vm.Alike V'.vm → V'.heap = V.heap → Got a D fV fC A o len r U V → Got a D fV fC A o len r U' V' :=
  fun r U U' V V' h1 hal h2 ⟨e0, D', X, a1, a2, a3, a4, a5, a6, a7, a8, a9, a10, a11⟩ => ⟨e0, D', X, a1.mv hal h2, a2, by rw [h1]; exact a3, a4, by rw [h1]; exact a5.mv hal h2, a6, by rw [hal.findClass]; exact a7, a8, a9, by rw [h1, h2]; exact a10, by rw [h1, h2]; exact a11⟩
namespace New4
def yN : MethodName := ⟨"java/lang/String", "<init>", "([CIILjava/lang/Void;)V"⟩
abbrev yB : ByteArray := jdk_42_method_149_code
theorem d0 : decode yB 0 = .ok (.aload_n 0, 1) := by decide +kernel
theorem d1 : decode yB 1 = .ok (.invokespecial 1, 3) := by decide +kernel
theorem d4 : decode yB 4 = .ok (.iload_n 3, 1) := by decide +kernel
theorem d5 : decode yB 5 = .ok (.ifCond (.ne) 22, 3) := by decide +kernel
theorem d27 : decode yB 27 = .ok (.getstatic 38, 3) := by decide +kernel
theorem d30 : decode yB 30 = .ok (.ifCond (.eq) 28, 3) := by decide +kernel
theorem d33 : decode yB 33 = .ok (.aload_n 1, 1) := by decide +kernel
theorem d34 : decode yB 34 = .ok (.iload_n 2, 1) := by decide +kernel
theorem d35 : decode yB 35 = .ok (.iload_n 3, 1) := by decide +kernel
theorem d36 : decode yB 36 = .ok (.invokestatic 177, 3) := by decide +kernel
theorem d39 : decode yB 39 = .ok (.astore 5, 2) := by decide +kernel
theorem d41 : decode yB 41 = .ok (.aload_n 0, 1) := by decide +kernel
theorem d42 : decode yB 42 = .ok (.aload 5, 2) := by decide +kernel
theorem d44 : decode yB 44 = .ok (.iload_n 3, 1) := by decide +kernel
theorem d45 : decode yB 45 = .ok (.invokestatic 47, 3) := by decide +kernel
theorem d48 : decode yB 48 = .ok (.putfield 15, 3) := by decide +kernel
theorem d51 : decode yB 51 = .ok (.aload_n 0, 1) := by decide +kernel
theorem d52 : decode yB 52 = .ok (.aload 5, 2) := by decide +kernel
theorem d54 : decode yB 54 = .ok (.putfield 9, 3) := by decide +kernel
theorem d57 : decode yB 57 = .ok (.return_, 1) := by decide +kernel
def site : List Cond := [.fieldLink "java/lang/String" 38 "java/lang/String" "COMPACT_STRINGS" "Z", Cmp3.tab, CodL.tab, .laysFinal "java/lang/String" "java/lang/String" "value" "[B", .fieldLink "java/lang/String" 9 "java/lang/String" "value" "[B", .laysFinal "java/lang/String" "java/lang/String" "coder" "B", .fieldLink "java/lang/String" 15 "java/lang/String" "coder" "B"] ++ objW "java/lang/String" 1 ++ staticW "java/lang/String" 177 Cmp3.yN ++ staticW "java/lang/String" 47 CodL.yN
def tab : Cond := tabOf yN yB 6 none site
def P (a : Addr) (D : Cell) (fV fC : Field) (b : Addr) (A : Cell) (z : Int32) (o len : Nat) (args : Array Value) (s : State) : Prop := args = #[.ref a, .ref b, .int (Int32.ofNat o), .int (Int32.ofNat len), .null] ∧ Blank "java/lang/String" a D s ∧ Found "java/lang/String" "value" "[B" fV s ∧ Found "java/lang/String" "coder" "B" fC s ∧ Ch b A s ∧ StaticIs s "java/lang/String" "COMPACT_STRINGS" "Z" (.int z) ∧ ¬ z = 0 ∧ 0 < len ∧ o + len ≤ A.slots.size ∧ len ≤ 536870912 ∧ ∀ i, i < len → ¬ 255 < cv A (o + i)
def E (a : Addr) (D : Cell) (fV fC : Field) (A : Cell) (o len : Nat) (r : Option Value) (s u : State) : Prop := Got a D fV fC A o len r s u
/-- len > 0, no char of the range above 255: a Latin-1 String of their low bytes -/
theorem law (l : Launch) (a : Addr) (D : Cell) (fV fC : Field) (b : Addr) (A : Cell) (z : Int32) (o len : Nat) : Law l yN 5 4 2 35 yB 6 none site (P a D fV fC b A z o len) (E a D fV fC A o len) [⟨a, fC.slot⟩, ⟨a, fV.slot⟩] 1 len := by
  refine Law.of_walk (plainFor_of_name (by decide +kernel)) (by decide +kernel) (by decide +kernel) (by decide) (fun _ _ h => by rw [h.1]; rfl) (fun _ U U' hal hh h => ⟨h.1, h.2.1.mv hal hh, h.2.2.1.al hal, h.2.2.2.1.al hal, h.2.2.2.2.1.mv hal hh, h.2.2.2.2.2.1.there hal hh, h.2.2.2.2.2.2⟩) (fun r U U' V V' h1 hal h2 h => Got.mv r U U' V V' h1 hal h2 h) ?_
  intro p e s m args below meth c s₁ X0 hexec hbytes hml hret hlk hnm hown hh0 W hP
  obtain ⟨rfl, hB, f1, f2, hA, s1, hz, l0, l1, l2, hp⟩ := hP
  have a31 := hA.1.2.2.2
  have c1 : Steps p.tables e below (s₁.setTop (entryFrame m #[.ref a, .ref b, .int (Int32.ofNat o), .int (Int32.ofNat len), .null] 6)) (s₁.setTop (mkF m 0 #[.val (.ref a), .val (.ref b), .val (.int (Int32.ofNat o)), .val (.int (Int32.ofNat len)), .val .null, .unset] [])) := entry rfl
  have c2 : Steps p.tables e below (s₁.setTop (entryFrame m #[.ref a, .ref b, .int (Int32.ofNat o), .int (Int32.ofNat len), .null] 6)) (s₁.setTop (mkF m 1 #[.val (.ref a), .val (.ref b), .val (.int (Int32.ofNat o)), .val (.int (Int32.ofNat len)), .val .null, .unset] [.ref a])) := c1.trans (by
    refine XS.aloadN X0.here hexec rfl (hb hbytes d0) rfl rfl ?_
    exact Steps.refl _)
  obtain ⟨T3, X3, q3, st3⟩ := X0.oinit hexec hown (wks W (objW "java/lang/String" 1)) (g := (mkF m 1 #[.val (.ref a), .val (.ref b), .val (.int (Int32.ofNat o)), .val (.int (Int32.ofNat len)), .val .null, .unset] [.ref a])) rfl (by rw [hml]; rfl) (rest := []) rfl (hb hbytes d1) (W := 0) (by show 2 * 0 + 0 ≤ _; decide) (Nat.le_of_ble_eq_true rfl) (Nat.le_of_ble_eq_true rfl)
  have hh3 := q3.trans hh0
  have c4 : Steps p.tables e below (s₁.setTop (entryFrame m #[.ref a, .ref b, .int (Int32.ofNat o), .int (Int32.ofNat len), .null] 6)) (T3.setTop (mkF m 27 #[.val (.ref a), .val (.ref b), .val (.int (Int32.ofNat o)), .val (.int (Int32.ofNat len)), .val .null, .unset] [])) := (c2.trans (st3 _ (Steps.refl _))).trans (by
    refine XS.iloadN X3.here hexec rfl (hb hbytes d4) rfl ?_
    refine XS.ifYes X3.here hexec rfl (pc0 := 5) rfl (hb hbytes d5) rfl (i0_ne_t (nz32 (by omega) l0)) (by decide) rfl ?_
    exact Steps.refl _)
  obtain ⟨T5, X5, q5, st5⟩ := X3.sget hexec hown (wk W (.fieldLink "java/lang/String" 38 "java/lang/String" "COMPACT_STRINGS" "Z")) s1 (fun _ _ h => by rw [hh3]; exact h) (g := (mkF m 27 #[.val (.ref a), .val (.ref b), .val (.int (Int32.ofNat o)), .val (.int (Int32.ofNat len)), .val .null, .unset] [])) rfl (hb hbytes d27)
  have hh5 := q5.trans hh3
  have c6 : Steps p.tables e below (s₁.setTop (entryFrame m #[.ref a, .ref b, .int (Int32.ofNat o), .int (Int32.ofNat len), .null] 6)) (T5.setTop (mkF m 30 #[.val (.ref a), .val (.ref b), .val (.int (Int32.ofNat o)), .val (.int (Int32.ofNat len)), .val .null, .unset] [.int z])) := c4.trans (st5 _ (Steps.refl _))
  have c7 : Steps p.tables e below (s₁.setTop (entryFrame m #[.ref a, .ref b, .int (Int32.ofNat o), .int (Int32.ofNat len), .null] 6)) (T5.setTop (mkF m 36 #[.val (.ref a), .val (.ref b), .val (.int (Int32.ofNat o)), .val (.int (Int32.ofNat len)), .val .null, .unset] [.int (Int32.ofNat len), .int (Int32.ofNat o), .ref b])) := c6.trans (by
    refine XS.ifNo X5.here hexec rfl (hb hbytes d30) rfl (i0_eq_f hz) ?_
    refine XS.aloadN X5.here hexec rfl (hb hbytes d33) rfl rfl ?_
    refine XS.iloadN X5.here hexec rfl (hb hbytes d34) rfl ?_
    refine XS.iloadN X5.here hexec rfl (hb hbytes d35) rfl ?_
    exact Steps.refl _)
  obtain ⟨v8, T8, X8, E8, g8⟩ := X5.callS hexec (Cmp3.law l b A o len) hown (wks W (staticW "java/lang/String" 177 Cmp3.yN)) (wk W Cmp3.tab) (W := 0) (Nat.le_of_ble_eq_true rfl) (Nat.le_of_ble_eq_true rfl) (Nat.le_refl _) (by show 0 + len ≤ len; omega) (g := (mkF m 36 #[.val (.ref a), .val (.ref b), .val (.int (Int32.ofNat o)), .val (.int (Int32.ofNat len)), .val .null, .unset] [.int (Int32.ofNat len), .int (Int32.ofNat o), .ref b])) rfl (by rw [hml]; rfl) c7 (argsL := [.ref b, .int (Int32.ofNat o), .int (Int32.ofNat len)]) (rest := []) rfl rfl (by show 2 * 0 + 0 ≤ _; decide) (hb hbytes d36) (⟨rfl, hA.mv X5.warmed.alike hh5, l1, l2, hp⟩)
  obtain ⟨e8, z8⟩ := E8
  obtain ⟨rfl, N, n1, n2, n3, n4, n5, n6⟩ := NewArr.mv _ T5 s _ _ hh5.symm (Vm.Alike.refl _) rfl e8
  rw [hh5] at z8
  have hB1 := hB.keep X8.warmed.alike (n6 _ _ hB.1)
  have hne : s.heap.size ≠ a := (Nat.ne_of_lt (Array.getElem?_eq_some_iff.mp hB.1).1).symm
  have c9 : Steps p.tables e below (s₁.setTop (entryFrame m #[.ref a, .ref b, .int (Int32.ofNat o), .int (Int32.ofNat len), .null] 6)) (T8.setTop (mkF m 39 #[.val (.ref a), .val (.ref b), .val (.int (Int32.ofNat o)), .val (.int (Int32.ofNat len)), .val .null, .unset] [.ref s.heap.size])) := g8
  have c10 : Steps p.tables e below (s₁.setTop (entryFrame m #[.ref a, .ref b, .int (Int32.ofNat o), .int (Int32.ofNat len), .null] 6)) (T8.setTop (mkF m 45 #[.val (.ref a), .val (.ref b), .val (.int (Int32.ofNat o)), .val (.int (Int32.ofNat len)), .val .null, .val (.ref s.heap.size)] [.int (Int32.ofNat N.slots.size), .ref s.heap.size, .ref a])) := by
    have hc : Steps p.tables e below (s₁.setTop (entryFrame m #[.ref a, .ref b, .int (Int32.ofNat o), .int (Int32.ofNat len), .null] 6)) (T8.setTop (mkF m 45 #[.val (.ref a), .val (.ref b), .val (.int (Int32.ofNat o)), .val (.int (Int32.ofNat len)), .val .null, .val (.ref s.heap.size)] [.int (Int32.ofNat len), .ref s.heap.size, .ref a])) := c9.trans (by
      refine XS.astore X8.here hexec rfl (hb hbytes d39) rfl rfl rfl ?_
      refine XS.aloadN X8.here hexec rfl (hb hbytes d41) rfl rfl ?_
      refine XS.aload X8.here hexec rfl (hb hbytes d42) rfl rfl ?_
      refine XS.iloadN X8.here hexec rfl (hb hbytes d44) rfl ?_
      exact Steps.refl _)
    rw [n4]; exact hc
  obtain ⟨v11, T11, X11, E11, g11⟩ := X8.callS hexec (CodL.law l s.heap.size N) hown (wks W (staticW "java/lang/String" 47 CodL.yN)) (wk W CodL.tab) (W := 1) (Nat.le_of_ble_eq_true rfl) (Nat.le_of_ble_eq_true rfl) (Nat.le_refl _) (by show 0 + len + 0 ≤ len; omega) (g := (mkF m 45 #[.val (.ref a), .val (.ref b), .val (.int (Int32.ofNat o)), .val (.int (Int32.ofNat len)), .val .null, .val (.ref s.heap.size)] [.int (Int32.ofNat N.slots.size), .ref s.heap.size, .ref a])) rfl (by rw [hml]; rfl) c10 (argsL := [.ref s.heap.size, .int (Int32.ofNat N.slots.size)]) (rest := [.ref a]) rfl rfl (by show 2 * 0 + (1 + 0) ≤ _; decide) (hb hbytes d45) (⟨rfl, n1⟩)
  obtain ⟨rfl, q11⟩ := E11
  have hB11 := hB1.mv (X8.warmed.alike.symm.trans X11.warmed.alike) q11
  have c12 : Steps p.tables e below (s₁.setTop (entryFrame m #[.ref a, .ref b, .int (Int32.ofNat o), .int (Int32.ofNat len), .null] 6)) (T11.setTop (mkF m 48 #[.val (.ref a), .val (.ref b), .val (.int (Int32.ofNat o)), .val (.int (Int32.ofNat len)), .val .null, .val (.ref s.heap.size)] [.int 0, .ref a])) := g11
  obtain ⟨T13, X13, p13, bl13, sl13, st13⟩ := X11.finit hexec hown (wk W (.fieldLink "java/lang/String" 15 "java/lang/String" "coder" "B")) (Or.inr ⟨_, (wk W (.laysFinal "java/lang/String" "java/lang/String" "coder" "B"))⟩) (Or.inl ⟨rfl, hnm⟩) f2 (Or.inl rfl) hB11 (t := .byte) (by decide +kernel) rfl (g := (mkF m 48 #[.val (.ref a), .val (.ref b), .val (.int (Int32.ofNat o)), .val (.int (Int32.ofNat len)), .val .null, .val (.ref s.heap.size)] [.int 0, .ref a])) rfl (rest := []) rfl (hb hbytes d48)
  have c14 : Steps p.tables e below (s₁.setTop (entryFrame m #[.ref a, .ref b, .int (Int32.ofNat o), .int (Int32.ofNat len), .null] 6)) (T13.setTop (mkF m 54 #[.val (.ref a), .val (.ref b), .val (.int (Int32.ofNat o)), .val (.int (Int32.ofNat len)), .val .null, .val (.ref s.heap.size)] [.ref s.heap.size, .ref a])) := (c12.trans (st13 _ (Steps.refl _))).trans (by
    refine XS.aloadN X13.here hexec rfl (hb hbytes d51) rfl rfl ?_
    refine XS.aload X13.here hexec rfl (hb hbytes d52) rfl rfl ?_
    exact Steps.refl _)
  obtain ⟨T15, X15, p15, bl15, sl15, st15⟩ := X13.finit hexec hown (wk W (.fieldLink "java/lang/String" 9 "java/lang/String" "value" "[B")) (Or.inr ⟨_, (wk W (.laysFinal "java/lang/String" "java/lang/String" "value" "[B"))⟩) (Or.inl ⟨rfl, hnm⟩) f1 (Or.inl rfl) bl13 (t := (.array .byte)) (by decide +kernel) rfl (g := (mkF m 54 #[.val (.ref a), .val (.ref b), .val (.int (Int32.ofNat o)), .val (.int (Int32.ofNat len)), .val .null, .val (.ref s.heap.size)] [.ref s.heap.size, .ref a])) rfl (rest := []) rfl (hb hbytes d54)
  have c16 : Steps p.tables e below (s₁.setTop (entryFrame m #[.ref a, .ref b, .int (Int32.ofNat o), .int (Int32.ofNat len), .null] 6)) (T15.setTop (mkF m 57 #[.val (.ref a), .val (.ref b), .val (.int (Int32.ofNat o)), .val (.int (Int32.ofNat len)), .val .null, .val (.ref s.heap.size)] [])) := c14.trans (st15 _ (Steps.refl _))
  have ap := apart (Or.inr ⟨_, (wk W (.laysFinal "java/lang/String" "java/lang/String" "value" "[B"))⟩) (Or.inr ⟨_, (wk W (.laysFinal "java/lang/String" "java/lang/String" "coder" "B"))⟩) f1 f2 (t₁ := .array .byte) (t₂ := .byte) (by decide +kernel) (by decide +kernel) (by decide)
  have al := X8.warmed.alike.symm.trans X15.warmed.alike
  have n7 : T11.heap[s.heap.size]? = some N := by rw [q11]; exact n1.1
  exact ⟨T15, none, _, _, _, X15, by simp, rfl, by omega, (fun _ => rfl), ⟨rfl, _, N, bl15, ((Same.refl D _).set _ (by simp)).set _ (by simp), sl15, (Cell.slots_setSlot_ne _ ap).trans sl13, n1.keep al (p15.other hne (p13.other hne n7)), n2, by rw [al.findClass]; exact n3, n4, n5, fun y c h1 h2 => p15.other h1 (p13.other h1 (by rw [q11]; exact n6 y c h2)), by rw [p15.2.2, p13.2.2, q11]; exact z8⟩, fun fs hl => c16.trans (X15.returnOut hexec hret (hb hbytes d57) hl)⟩
end New4
namespace New1
def yN : MethodName := ⟨"java/lang/String", "<init>", "([C)V"⟩
abbrev yB : ByteArray := jdk_42_method_3_code
theorem d0 : decode yB 0 = .ok (.aload_n 0, 1) := by decide +kernel
theorem d1 : decode yB 1 = .ok (.aload_n 1, 1) := by decide +kernel
theorem d2 : decode yB 2 = .ok (.iconst 0, 1) := by decide +kernel
theorem d3 : decode yB 3 = .ok (.aload_n 1, 1) := by decide +kernel
theorem d4 : decode yB 4 = .ok (.arraylength, 1) := by decide +kernel
theorem d5 : decode yB 5 = .ok (.aconst_null, 1) := by decide +kernel
theorem d6 : decode yB 6 = .ok (.invokespecial 27, 3) := by decide +kernel
theorem d9 : decode yB 9 = .ok (.return_, 1) := by decide +kernel
def site : List Cond := [New4.tab] ++ initW "java/lang/String" 27 New4.yN
def tab : Cond := tabOf yN yB 2 none site
def P (a : Addr) (D : Cell) (fV fC : Field) (b : Addr) (A : Cell) (z : Int32) (args : Array Value) (s : State) : Prop := args = #[.ref a, .ref b] ∧ Blank "java/lang/String" a D s ∧ Found "java/lang/String" "value" "[B" fV s ∧ Found "java/lang/String" "coder" "B" fC s ∧ Ch b A s ∧ StaticIs s "java/lang/String" "COMPACT_STRINGS" "Z" (.int z) ∧ ¬ z = 0 ∧ 0 < A.slots.size ∧ A.slots.size ≤ 536870912 ∧ ∀ i, i < A.slots.size → ¬ 255 < cv A i
def E (a : Addr) (D : Cell) (fV fC : Field) (A : Cell) (r : Option Value) (s u : State) : Prop := Got a D fV fC A 0 A.slots.size r s u
/-- new String(chars), not empty, no char above 255: a Latin-1 String of their low bytes -/
theorem law (l : Launch) (a : Addr) (D : Cell) (fV fC : Field) (b : Addr) (A : Cell) (z : Int32) : Law l yN 2 1 3 52 yB 2 none site (P a D fV fC b A z) (E a D fV fC A) [⟨a, fC.slot⟩, ⟨a, fV.slot⟩] 1 A.slots.size := by
  refine Law.of_walk (plainFor_of_name (by decide +kernel)) (by decide +kernel) (by decide +kernel) (by decide) (fun _ _ h => by rw [h.1]; rfl) (fun _ U U' hal hh h => ⟨h.1, h.2.1.mv hal hh, h.2.2.1.al hal, h.2.2.2.1.al hal, h.2.2.2.2.1.mv hal hh, h.2.2.2.2.2.1.there hal hh, h.2.2.2.2.2.2⟩) (fun r U U' V V' h1 hal h2 h => Got.mv r U U' V V' h1 hal h2 h) ?_
  intro p e s m args below meth c s₁ X0 hexec hbytes hml hret hlk hnm hown hh0 W hP
  obtain ⟨rfl, hB, f1, f2, hA, s1, hz, l0, l2, hp⟩ := hP
  have c1 : Steps p.tables e below (s₁.setTop (entryFrame m #[.ref a, .ref b] 2)) (s₁.setTop (mkF m 0 #[.val (.ref a), .val (.ref b)] [])) := entry rfl
  have c2 : Steps p.tables e below (s₁.setTop (entryFrame m #[.ref a, .ref b] 2)) (s₁.setTop (mkF m 6 #[.val (.ref a), .val (.ref b)] [.null, .int (Int32.ofNat A.slots.size), .int 0, .ref b, .ref a])) := c1.trans (by
    refine XS.aloadN X0.here hexec rfl (hb hbytes d0) rfl rfl ?_
    refine XS.aloadN X0.here hexec rfl (hb hbytes d1) rfl rfl ?_
    refine iconstV X0.here hexec rfl 0 (hb hbytes d2) (by decide) ?_
    refine XS.aloadN X0.here hexec rfl (hb hbytes d3) rfl rfl ?_
    refine X0.alen hexec (hA.1.mv X0.warmed.alike hh0) rfl rfl (hb hbytes d4) ?_
    refine XS.aconstNull X0.here hexec rfl (hb hbytes d5) ?_
    exact Steps.refl _)
  obtain ⟨v3, T3, X3, E3, g3⟩ := X0.callN hexec (New4.law l a D fV fC b A z 0 A.slots.size) rfl hown (wks W (initW "java/lang/String" 27 New4.yN)) (W New4.tab (by simp only [site, List.mem_cons, List.mem_append, true_or, or_true])) (W := 0) (Nat.le_of_ble_eq_true rfl) (Nat.le_of_ble_eq_true rfl) (Nat.le_refl _) (by show 0 + A.slots.size ≤ A.slots.size; omega) (g := (mkF m 6 #[.val (.ref a), .val (.ref b)] [.null, .int (Int32.ofNat A.slots.size), .int (Int32.ofNat 0), .ref b, .ref a])) rfl (by rw [hml]; rfl) c2 (argsL := [.ref b, .int (Int32.ofNat 0), .int (Int32.ofNat A.slots.size), .null]) (rest := []) rfl rfl (by show 2 * 0 + 0 ≤ _; decide) (hb hbytes d6) (⟨rfl, hB.mv X0.warmed.alike hh0, f1.al X0.warmed.alike, f2.al X0.warmed.alike, hA.mv X0.warmed.alike hh0, s1.there X0.warmed.alike hh0, hz, l0, by omega, l2, fun i hi => by rw [Nat.zero_add]; exact hp i hi⟩)
  have e0 := Got.mv _ s₁ s _ _ hh0.symm (Vm.Alike.refl _) rfl E3
  obtain rfl := e0.1
  have c4 : Steps p.tables e below (s₁.setTop (entryFrame m #[.ref a, .ref b] 2)) (T3.setTop (mkF m 9 #[.val (.ref a), .val (.ref b)] [])) := g3
  exact ⟨T3, none, _, _, _, X3, by simp, rfl, by omega, (fun _ => rfl), e0, fun fs hl => c4.trans (X3.returnOut hexec hret (hb hbytes d9) hl)⟩
theorem pays {l : Launch} {R : Room} {p : Program} {e : Env} {below : List Frame} {s : State} {sargs : Array Value} {len W : Nat} (a : Addr) (D : Cell) (fV fC : Field) (b : Addr) (A : Cell) (z : Int32) (htab : tab.before sargs s = true) (hfr : 4 ≤ R.frames) (hlo : W + 65 ≤ R.locals) :
    Back l R p e below s sargs yN len W (fun A₁ a₁ => A₁.cells + 1 ≤ R.cells ∧ A₁.slots + A.slots.size ≤ R.slots ∧ P a D fV fC b A z a₁ A₁.U) (fun A₁ _ v₁ B₁ => E a D fV fC A v₁ A₁.U B₁.U ∧ B₁.locs = A₁.locs ++ [⟨a, fC.slot⟩, ⟨a, fV.slot⟩] ∧ B₁.cells = A₁.cells + 1 ∧ B₁.slots = A₁.slots + A.slots.size) :=
  (law l a D fV fC b A z).pays htab hfr (by omega)
end New1
/-- the byte, read back as charAt reads it, is the char -/
theorem lo8_mask {x : Int32} (h0 : ¬ x < 0) (h1 : ¬ 255 < x) : lo8 x &&& 255 = x := by
  have t : ∀ k : Fin 256, lo8 (Int32.ofNat k.val) &&& 255 = Int32.ofNat k.val := by decide +kernel
  rw [Int32.lt_iff_toInt_lt] at h0 h1
  have e0 : (0 : Int32).toInt = 0 := rfl
  have e1 : (255 : Int32).toInt = 255 := rfl
  obtain ⟨k, hk⟩ : ∃ k : Nat, x.toInt = k := ⟨x.toInt.toNat, by omega⟩
  have hx : x = Int32.ofNat k := Int32.toInt_inj.mp (by rw [hk, Int32.toInt_ofNat_small (by omega)])
  rw [hx]
  exact t ⟨k, by omega⟩
end StrChars
namespace StrChars.Road
open Jvm Sem ClassFile Op Lib Jvm.Stand Jvm.Free Jvm.Free.XT
open Jvm.Lib.Cold (StaticIs)
abbrev ST : String := "java/lang/String"
/-- every table word that New1's law asks, flat -/
abbrev words : List Jvm.Cond := [.code New1.yN New1.yB 2 none, .initialized ST, .methodLink ST 27 New4.yN, .instanceMethod New4.yN,
  .code New4.yN New4.yB 6 none, .fieldLink ST 38 ST "COMPACT_STRINGS" "Z", .laysFinal ST ST "value" "[B", .fieldLink ST 9 ST "value" "[B", .laysFinal ST ST "coder" "B", .fieldLink ST 15 ST "coder" "B",
  .methodLink ST 1 Lib.objectInit, .instanceMethod Lib.objectInit, .code Lib.objectInit ⟨#[0xb1]⟩ 1 none, .methodLink ST 177 Cmp3.yN, .static Cmp3.yN, .methodLink ST 47 CodL.yN, .static CodL.yN,
  .code Cmp3.yN Cmp3.yB 6 (some (.array .byte)), .initialized U16, .arrayClass .byte, .methodLink U16 115 Cmp5.yN, .static Cmp5.yN, .code Cmp5.yN Cmp5.yB 7 (some .int), .code CodL.yN CodL.yB 2 (some .byte)]
theorem tab_of {a : Array Value} {s : State} (h : ∀ w ∈ words, w.before a s = true) : New1.tab.before a s = true := by
  have h5 : Cmp5.tab.before a s = true := unparts (wk h (.code Cmp5.yN Cmp5.yB 7 (some .int))) (wks h (.initialized Cmp5.yN.cls :: Cmp5.site))
  have hc : CodL.tab.before a s = true := unparts (wk h (.code CodL.yN CodL.yB 2 (some .byte))) (wks h (.initialized CodL.yN.cls :: CodL.site))
  have q5 : ∀ w ∈ Cmp5.tab :: words, w.before a s = true := fun w hw => (List.mem_cons.mp hw).elim (fun e => e ▸ h5) (h w)
  have h3 : Cmp3.tab.before a s = true := unparts (wk q5 (.code Cmp3.yN Cmp3.yB 6 (some (.array .byte)))) (wks q5 (.initialized Cmp3.yN.cls :: Cmp3.site))
  have q3 : ∀ w ∈ Cmp3.tab :: CodL.tab :: words, w.before a s = true := fun w hw => (List.mem_cons.mp hw).elim (fun e => e ▸ h3) fun hw => (List.mem_cons.mp hw).elim (fun e => e ▸ hc) (h w)
  have h4 : New4.tab.before a s = true := unparts (wk q3 (.code New4.yN New4.yB 6 none)) (wks q3 (.initialized New4.yN.cls :: New4.site))
  have q4 : ∀ w ∈ New4.tab :: words, w.before a s = true := fun w hw => (List.mem_cons.mp hw).elim (fun e => e ▸ h4) (h w)
  exact unparts (wk q4 (.code New1.yN New1.yB 2 none)) (wks q4 (.initialized New1.yN.cls :: New1.site))
/-- the words ride from the start Z to the walk's own state -/
theorem moved {Z s : State} {a0 args : Array Value} (hZ : Z.Warmed39 s.vm) (hw : ∀ d ∈ words, d.before a0 Z = true) : ∀ d ∈ words, d.before args s = true := fun d hd => by
  have q := hw d hd
  have t : ∀ d ∈ words, d = .arrayClass .byte ∨ (d.onTables && d.keepsFace) = true := by decide +kernel
  rcases t d hd with rfl | t
  · exact RoadKit.mvA hZ q
  · exact RoadKit.mv hZ q t
/-- WHAT COMES BACK, over the tables of the start Z: h the heap at the call, h' behind it -/
def Q (Z : State) (x : Addr) (A : Cell) (h : Heap) (v : Option Value) (h' : Heap) (L : List Loc) : Prop := v = none ∧ (∀ y ∈ L, y.base = x) ∧ RoadKit.Keep h h' [x] ∧ h'.size = h.size + 1 ∧ RoadKit.Exa Z h' x ST ∧ RoadKit.Fld Z h' x ST "value" "[B" (.ref h.size) ∧ RoadKit.Fld Z h' x ST "coder" "B" (.int 0) ∧
  (∃ V : Cell, RoadKit.Arr Z h' h.size V .byte ∧ V.vm = .none ∧ Z.vm.findClass "[B" = some V.cls ∧ V.slots.size = A.slots.size ∧ ∀ j, j < A.slots.size → V.slots[j]? = some (.int (lo8 (cv A j)))) ∧
  ∀ (O n d : String) (w : Value), RoadKit.Fld Z h x O n d w → RoadKit.slotOf Z O n d ≠ RoadKit.slotOf Z ST "value" "[B" → RoadKit.slotOf Z O n d ≠ RoadKit.slotOf Z ST "coder" "B" → RoadKit.Fld Z h' x O n d w
/-- **new String(chars) AT A CALL, IN THE ROAD'S FORM**: for specialBack behind newO: x the fresh String, b the char[] with the cell A -/
theorem back {p : Program} {l : Launch} {e : Env} {R : Room} {s : State} {args : Array Value} {below : List Frame} {len W : Nat} {Z : State} {a0 : Array Value} {h : Heap} (hZ : Z.Warmed39 s.vm) (hw : ∀ d ∈ words, d.before a0 Z = true) {kI : Nat} (wi : (Jvm.Cond.instantiable ST kI).before a0 Z = true)
    {x b : Addr} {A : Cell} {z : Int32} {v0 c0 : Value} (E : RoadKit.Exa Z h x ST) (V : RoadKit.Fld Z h x ST "value" "[B" v0) (C : RoadKit.Fld Z h x ST "coder" "B" c0) (K : RoadKit.Arr Z h b A .char) (hty : Typed .char A) (S : RoadKit.Sta Z h ST "COMPACT_STRINGS" "Z" (.int z)) (hz : ¬ z = 0)
    (l0 : 0 < A.slots.size) (l2 : A.slots.size ≤ 536870912) (hp : ∀ i, i < A.slots.size → ¬ 255 < cv A i) (hfr : 4 ≤ R.frames) (hlo : W + 65 ≤ R.locals) :
    Back l R p e below s args New1.yN len W (fun P a => a = #[.ref x, .ref b] ∧ P.U.heap = h ∧ P.cells + 1 ≤ R.cells ∧ P.slots + A.slots.size ≤ R.slots)
      (fun P _ v B => ∃ L, Q Z x A h v B.U.heap L ∧ B.locs = P.locs ++ L ∧ B.cells = P.cells + 1 ∧ B.slots = P.slots + A.slots.size) := by
  intro m meth c P g ig mk a X hg hsize hdg hW hn hp'
  obtain ⟨rfl, rfl, r1, r2⟩ := hp'
  have al : Z.vm.Alike P.U.vm := hZ.alike.trans X.warmed.alike
  obtain ⟨D, cfV, kV, iV, fV, hD, gV, stV, knV, obV, asV, slV⟩ := id V
  obtain ⟨D', cfC, kC, iC, fC, hD', gC, stC, -, -, asC, slC⟩ := id C
  cases hD.symm.trans hD'
  obtain ⟨D2, kD, e1, e2, e3, e4, e5⟩ := id E
  cases hD.symm.trans e1
  obtain ⟨c2, k2, i1, i2, i3, -⟩ := Cond.instantiable_spec wi
  cases e2.symm.trans i1
  cases e3.symm.trans i2
  obtain ⟨kU, u1, u2⟩ := al.2.2 _ _ e3
  have hB : Blank ST x D P.U := ⟨hD, ⟨knV, fun q hq => by rw [hq] at obV; cases obV⟩, by rw [al.findClass]; exact e2, kU, u1, by rw [u2]; exact i3, by rw [u2]; exact e5 i3⟩
  have F1 : Found ST "value" "[B" fV P.U := ⟨SBG.found_only al ⟨cfV, kV, iV, gV⟩, stV⟩
  have F2 : Found ST "coder" "B" fC P.U := ⟨SBG.found_only al ⟨cfC, kC, iC, gC⟩, stC⟩
  have hA : Ch b A P.U := ⟨⟨K.1, State.isArrayOf_alike al K.2.1, K.2.2, by omega⟩, hty⟩
  have hS : StaticIs P.U ST "COMPACT_STRINGS" "Z" (.int z) := by
    obtain ⟨cfS, iS, kS, fS, st, cS, t1, t2, t3, t4, t5, t6, t7⟩ := S
    exact StaticIs.there (s := { Z with heap := P.U.heap }) ⟨cfS, iS, kS, fS, st, cS, t1, t2, t3, t4, t5, (fun q => by rw [q] at t6; cases t6), t7⟩ al rfl
  obtain ⟨v, B, X', ⟨⟨hv, E', V', q1, q2, q3, q4, q5, q6, q7, q8, q9, q10, q11⟩, hl, hc, hs⟩, st⟩ := New1.pays x D fV fC b A z (tab_of (moved hZ hw)) hfr hlo m meth c P g ig mk _ X hg hsize hdg hW hn ⟨r1, r2, rfl, hB, F1, F2, hA, hS, hz, l0, l2, hp⟩
  have al' : Z.vm.Alike B.U.vm := hZ.alike.trans X'.warmed.alike
  have hsz : E'.slots.size = D.slots.size := by
    obtain ⟨-, -, -, kB, w1, w2, w3⟩ := q1
    obtain ⟨kB', y1, y2⟩ := al'.2.2 _ _ e3
    rw [q2.2.1] at w1
    cases w1.symm.trans y1
    rw [w3, e5 i3, y2]
  refine ⟨v, B, X', ⟨_, ⟨hv, ?_, ⟨by omega, fun y cy hy hn' => q10 y cy (by simpa using hn') hy, fun y cy hy => ?_⟩, q11, ⟨E', _, q1.1, by rw [q2.2.1]; exact e2, by rw [q2.2.1]; exact e3, by rw [q2.1]; exact obV, fun _ => by rw [hsz]; exact e5 i3⟩,
    ⟨E', cfV, kV, iV, fV, q1.1, gV, stV, by rw [q2.1]; exact knV, by rw [q2.1]; exact obV, by rw [q2.2.1]; exact asV, q3⟩, ⟨E', cfC, kC, iC, fC, q1.1, gC, stC, by rw [q2.1]; exact knV, by rw [q2.1]; exact obV, by rw [q2.2.1]; exact asC, q4⟩,
    ⟨V', ⟨q5.1, State.isArrayOf_alike al'.symm q5.2.1, q5.2.2.1⟩, q6, by rw [← al'.findClass]; exact q7, q8, fun j hj => by have := q9 j hj; rwa [Nat.zero_add] at this⟩, fun O n d w F n1 n2 => ?_⟩, hl, hc, hs⟩, st⟩
  · intro y hy
    simp only [List.mem_cons, List.not_mem_nil, or_false] at hy
    rcases hy with rfl | rfl <;> rfl
  · by_cases q : y = x
    · subst q
      cases hD.symm.trans hy
      exact ⟨E', q1.1, q2.2.1, q2.1, hsz⟩
    · exact ⟨cy, q10 y cy q hy, rfl, rfl, rfl⟩
  · obtain ⟨D3, cf, k, i, f, g1, g2, g3, g4, g5, g6, g7⟩ := F
    cases hD.symm.trans g1
    simp only [RoadKit.slotOf, g2, gV, gC, Option.map_some, Option.getD_some] at n1 n2
    exact ⟨E', cf, k, i, f, q1.1, g2, g3, by rw [q2.1]; exact g4, by rw [q2.1]; exact g5, by rw [q2.2.1]; exact g6, by rw [q2.2.2 f.slot (by simp [n1, n2])]; exact g7⟩
end StrChars.Road
namespace StrChars.Road
open Jvm Sem ClassFile Op Lib Jvm.Stand Jvm.Free Jvm.Free.XT
/-- WHAT COMES BACK, the byte[] as a list of values -/
def QA (Z : State) (x : Addr) (zn : Int32) (cs : List Int32) (h : Heap) (v : Option Value) (h' : Heap) (L : List Loc) : Prop := v = none ∧ (∀ y ∈ L, y.base = x) ∧ RoadKit.Keep h h' [x] ∧ h'.size = h.size + 1 ∧ RoadKit.Exa Z h' x ST ∧ RoadKit.Fld Z h' x ST "value" "[B" (.ref h.size) ∧ RoadKit.Fld Z h' x ST "coder" "B" (.int 0) ∧
  (∃ kb, Z.vm.findClass "[B" = some kb ∧ RoadKit.Arv Z h' h.size kb .byte zn (cs.map fun c => .int (lo8 c)) (.int 0)) ∧
  ∀ (O n d : String) (w : Value), RoadKit.Fld Z h x O n d w → RoadKit.slotOf Z O n d ≠ RoadKit.slotOf Z ST "value" "[B" → RoadKit.slotOf Z O n d ≠ RoadKit.slotOf Z ST "coder" "B" → RoadKit.Fld Z h' x O n d w
/-- **new String(chars) AT A CALL, THE ARRAYS AS LISTS**: the char[] at b holds cs, not empty, no char above 255 -/
theorem backArv {p : Program} {l : Launch} {e : Env} {R : Room} {s : State} {args : Array Value} {below : List Frame} {len W : Nat} {Z : State} {a0 : Array Value} {h : Heap} (hZ : Z.Warmed39 s.vm) (hw : ∀ d ∈ words, d.before a0 Z = true) {kI : Nat} (wi : (Jvm.Cond.instantiable ST kI).before a0 Z = true)
    {x b : Addr} {k : ClassId} {zn z : Int32} {cs : List Int32} {dv v0 c0 : Value} (E : RoadKit.Exa Z h x ST) (V : RoadKit.Fld Z h x ST "value" "[B" v0) (C : RoadKit.Fld Z h x ST "coder" "B" c0) (K : RoadKit.Arv Z h b k .char zn (cs.map Value.int) dv) (S : RoadKit.Sta Z h ST "COMPACT_STRINGS" "Z" (.int z)) (hz : ¬ z = 0)
    (hlen : zn.toNatClampNeg = cs.length) (h0 : 0 < cs.length) (hbig : cs.length ≤ 536870912) (hall : ∀ c ∈ cs, ¬ 255 < c) (hfr : 4 ≤ R.frames) (hlo : W + 65 ≤ R.locals) :
    Back l R p e below s args New1.yN len W (fun P a => a = #[.ref x, .ref b] ∧ P.U.heap = h ∧ P.cells + 1 ≤ R.cells ∧ P.slots + cs.length ≤ R.slots)
      (fun P _ v B => ∃ L, QA Z x zn cs h v B.U.heap L ∧ B.locs = P.locs ++ L ∧ B.cells = P.cells + 1 ∧ B.slots = P.slots + cs.length) := by
  obtain ⟨A, K1, K2, K3, K4, K5, K6⟩ := K
  have e : A.slots.size = cs.length := K3.trans hlen
  have hat : ∀ (i : Nat) (hi : i < cs.length), A.slots[i]? = some (.int cs[i]) := fun i hi => by rw [K5 i (by omega)]; simp [List.getD_eq_getElem?_getD, hi]
  have hcv : ∀ (i : Nat) (hi : i < cs.length), cv A i = cs[i] := fun i hi => by unfold cv; rw [hat i hi]
  have hty : Typed .char A := fun i v hv => by
    have hi : i < A.slots.size := (Array.getElem?_eq_some_iff.mp hv).1
    have q := K5 i hi
    rw [hv] at q
    rw [Option.some.inj q]
    exact K6 i hi
  refine Back.mono (back hZ hw wi E V C K1 hty S hz (by omega) (by omega) (fun i hi => by rw [hcv i (by omega)]; exact hall _ (List.getElem_mem _)) hfr hlo) (fun P a hp => ⟨hp.1, hp.2.1, hp.2.2.1, by rw [e]; exact hp.2.2.2⟩) (fun P a v B hp hq => ?_)
  obtain ⟨L, ⟨q1, q2, q3, q4, q5, q6, q7, ⟨V', v1, v2, v3, v4, v5⟩, q9⟩, hl, hc, hs⟩ := hq
  refine ⟨L, ⟨q1, q2, q3, q4, q5, q6, q7, ⟨V'.cls, v3, V', v1, rfl, by rw [v4, e, hlen], K4, fun i hi => ?_, fun i hi => ?_⟩, q9⟩, hl, hc, by rw [hs, e]⟩
  · have hi' : i < cs.length := by omega
    rw [v5 i (by omega), hcv i hi']; simp [List.getD_eq_getElem?_getD, hi']
  · have hi' : i < cs.length := by omega
    simp only [List.getD_eq_getElem?_getD, List.getElem?_map, List.getElem?_eq_getElem hi', Option.map_some, Option.getD_some]
    exact fits_lo8 _
end StrChars.Road
namespace StrChars.Road
open Jvm Sem ClassFile Op Lib Jvm.Stand Jvm.Free Jvm.Free.XT
/-- WHAT COMES BACK, in the writer's own shape -/
def QV (Z : State) (x : Addr) (N : Int32) (bs : List Int32) (h : Heap) (n0 : Nat) (v : Option Value) (h' : Heap) (L : List Loc) : Prop := v = none ∧ RoadKit.Fr n0 L ∧ RoadKit.Keep h h' [x] ∧ RoadKit.Exa Z h' x ST ∧ RoadKit.Fld Z h' x ST "coder" "B" (.int 0) ∧
  ∃ (t : Addr) (kb : ClassId), n0 ≤ t ∧ h.size ≤ t ∧ ¬ t = x ∧ RoadKit.Fld Z h' x ST "value" "[B" (.ref t) ∧ RoadKit.Arv Z h' t kb .byte N (bs.map Value.int) (.int 0)
/-- **new String(chars) AT A CALL, FOR THE WRITER**: a char[] of n known ints, each 0 to 255 -/
theorem backV {p : Program} {l : Launch} {e : Env} {R : Room} {s : State} {args : Array Value} {below : List Frame} {len W : Nat} {Z : State} {a0 : Array Value} {h : Heap} (hZ : Z.Warmed39 s.vm) (hw : ∀ d ∈ words, d.before a0 Z = true) {kI : Nat} (wi : (Jvm.Cond.instantiable ST kI).before a0 Z = true)
    {x b : Addr} {kC : ClassId} {cs bs : List Int32} {d v0 c0 : Value} {z N : Int32} {n n0 : Nat} (hx0 : n0 ≤ x) (hh0 : n0 ≤ h.size) (E : RoadKit.Exa Z h x ST) (V : RoadKit.Fld Z h x ST "value" "[B" v0) (C : RoadKit.Fld Z h x ST "coder" "B" c0) (K : RoadKit.Arv Z h b kC .char N (cs.map Value.int) d) (S : RoadKit.Sta Z h ST "COMPACT_STRINGS" "Z" (.int z)) (hz : ¬ z = 0)
    (hn : cs.length = n) (hN : N = Int32.ofNat n) (l0 : 0 < n) (l2 : n ≤ 4000) (hp : ∀ c ∈ cs, ¬ c < 0 ∧ ¬ (255 : Int32) < c) (hb : bs = cs.map (fun c => c.toInt8.toInt32)) (hfr : 4 ≤ R.frames) (hlo : W + 65 ≤ R.locals) :
    Back l R p e below s args (⟨"java/lang/String", "<init>", "([C)V"⟩ : MethodName) len W (fun P a => a = #[.ref x, .ref b] ∧ P.U.heap = h ∧ P.cells + 1 ≤ R.cells ∧ P.slots + n ≤ R.slots)
      (fun P _ v B => ∃ L, QV Z x N bs h n0 v B.U.heap L ∧ B.locs = P.locs ++ L ∧ B.cells = P.cells + 1 ∧ B.slots = P.slots + n) := by
  subst hn hN hb
  refine Back.mono (backArv hZ hw wi E V C K S hz (n32 (by omega)) l0 (by omega) (fun c hc => (hp c hc).2) hfr hlo) (fun P a hp => hp) (fun P a v B hp hq => ?_)
  obtain ⟨L, ⟨q1, q2, q3, q4, q5, q6, q7, ⟨kb, v1, v2⟩, q9⟩, hl, hc, hs⟩ := hq
  exact ⟨L, ⟨q1, fun y hy => by rw [q2 y hy]; exact hx0, q3, q5, q7, h.size, kb, hh0, Nat.le_refl _, Nat.ne_of_gt E.lt, q6, by rw [List.map_map]; exact v2⟩, hl, hc, hs⟩
end StrChars.Road
namespace StrChars
open Jvm Sem ClassFile Op Lib Jvm.Stand Jvm.Free.XT Jvm.Free.ALB Jvm.Free.JM Jvm.Free
open Jvm.Lib.Cold (StaticIs)
def hi8 (x : Int32) : Int32 := lo8 (x >>> ((8 : Int32) &&& 31))
/-- what StringUTF16.getChar makes of two bytes -/
def pairCh (u v : Int32) : Int32 := (((u &&& 255) <<< ((0 : Int32) &&& 31)) ||| ((v &&& 255) <<< ((8 : Int32) &&& 31))).toUInt32.toUInt16.toUInt32.toInt32
theorem shr0 (c : Int32) : c >>> ((0 : Int32) &&& 31) = c := by
  have e : ((0 : Int32) &&& 31) = 0 := by decide
  rw [e]
  apply Int32.toBitVec_inj.mp
  rw [Int32.toBitVec_shiftRight]
  have e1 : ((0 : Int32).toBitVec.smod 32) = 0#32 := by decide
  rw [e1, BitVec.sshiftRight_eq']
  exact BitVec.sshiftRight_zero
theorem lo8_and (x : Int32) : (lo8 x &&& 255).toBitVec.toNat = x.toBitVec.toNat % 256 := by
  have h : (lo8 x).toBitVec = (x.toBitVec.signExtend 8).signExtend 32 := by rw [lo8, Int8.toBitVec_toInt32, Int32.toBitVec_toInt8]
  rw [Int32.toBitVec_and, BitVec.toNat_and, h]
  have e : ((x.toBitVec.signExtend 8).signExtend 32).toNat % 256 = x.toBitVec.toNat % 256 := by
    rw [BitVec.toNat_signExtend]
    have hlt := x.toBitVec.isLt
    simp only [BitVec.toNat_setWidth, BitVec.toNat_signExtend]
    split <;> split <;> omega
  rw [← e]
  exact Nat.and_two_pow_sub_one_eq_mod _ 8
theorem pair_says {c : Int32} (h0 : ¬ c < 0) (h1 : ¬ 65535 < c) : pairCh (lo8 c) (hi8 c) = c := by
  rw [Int32.lt_iff_toInt_lt] at h0 h1
  have e0 : (0 : Int32).toInt = 0 := rfl
  have e1 : (65535 : Int32).toInt = 65535 := rfl
  have hc : c.toInt = c.toBitVec.toNat := by
    have := c.toBitVec.isLt
    have e : c.toInt = c.toBitVec.toInt := rfl
    rw [e] at h0 h1
    rw [e]
    rw [BitVec.toInt_eq_toNat_cond] at h0 h1 ⊢
    split at h0 <;> split <;> omega
  have hn : c.toBitVec.toNat < 65536 := by omega
  have a1 := lo8_and c
  have a2 : (hi8 c &&& 255).toBitVec.toNat = c.toBitVec.toNat / 256 := by
    rw [hi8, lo8_and]
    have e : ((8 : Int32) &&& 31) = 8 := by decide
    rw [e, Int32.toBitVec_shiftRight]
    have e2 : ((8 : Int32).toBitVec.smod 32) = 8#32 := by decide
    rw [e2, BitVec.sshiftRight_eq', BitVec.toNat_sshiftRight_of_msb_false (by rw [BitVec.msb_eq_false_iff_two_mul_lt]; omega)]
    show c.toBitVec.toNat >>> 8 % 256 = _
    rw [Nat.shiftRight_eq_div_pow]
    omega
  unfold pairCh
  apply Int32.toBitVec_inj.mp
  apply BitVec.eq_of_toNat_eq
  have f0 : ((0 : Int32) &&& 31) = 0 := by decide
  have f8 : ((8 : Int32) &&& 31) = 8 := by decide
  rw [f0, f8]
  have g : (((lo8 c &&& 255) <<< (0 : Int32)) ||| ((hi8 c &&& 255) <<< (8 : Int32))).toBitVec.toNat = c.toBitVec.toNat := by
    rw [Int32.toBitVec_or, Int32.toBitVec_shiftLeft, Int32.toBitVec_shiftLeft]
    have s0 : ((0 : Int32).toBitVec.smod 32) = 0#32 := by decide
    have s8 : ((8 : Int32).toBitVec.smod 32) = 8#32 := by decide
    rw [s0, s8, BitVec.toNat_or]
    simp only [BitVec.shiftLeft_eq', BitVec.toNat_shiftLeft, a1, a2]
    show (c.toBitVec.toNat % 256) <<< 0 % 2 ^ 32 ||| (c.toBitVec.toNat / 256) <<< 8 % 2 ^ 32 = _
    rw [Nat.shiftLeft_zero, Nat.mod_eq_of_lt (show c.toBitVec.toNat % 256 < 2 ^ 32 by omega), Nat.mod_eq_of_lt (show (c.toBitVec.toNat / 256) <<< 8 < 2 ^ 32 by rw [Nat.shiftLeft_eq]; omega), Nat.or_comm, ← Nat.shiftLeft_add_eq_or_of_lt (by omega), Nat.shiftLeft_eq]
    omega
  show BitVec.toNat (((((lo8 c &&& 255) <<< (0 : Int32)) ||| ((hi8 c &&& 255) <<< (8 : Int32))).toBitVec.setWidth 16).setWidth 32) = _
  rw [BitVec.toNat_setWidth, BitVec.toNat_setWidth, g]
  omega
end StrChars
namespace StrChars
open Jvm Sem ClassFile Op Lib Jvm.Stand Jvm.Free.XT Jvm.Free.ALB Jvm.Free.JM Jvm.Free
open Jvm.Lib.Cold (StaticIs)
theorem shr1 {n : Nat} (h : 2 * n < 2 ^ 31) : Int32.ofNat (2 * n) >>> ((1 : Int32) &&& 31) = Int32.ofNat n := by
  have e : ((1 : Int32) &&& 31) = 1 := by decide
  rw [e]
  apply Int32.toBitVec_inj.mp
  rw [Int32.toBitVec_shiftRight]
  have e1 : ((1 : Int32).toBitVec.smod 32) = 1#32 := by decide
  have hm : (BitVec.ofNat 32 (2 * n)).toNat = 2 * n := by rw [BitVec.toNat_ofNat, Nat.mod_eq_of_lt (by omega)]
  rw [e1, BitVec.sshiftRight_eq']
  apply BitVec.eq_of_toNat_eq
  show ((BitVec.ofNat 32 (2 * n)).sshiftRight 1).toNat = (BitVec.ofNat 32 n).toNat
  rw [BitVec.toNat_sshiftRight_of_msb_false (by rw [BitVec.msb_eq_false_iff_two_mul_lt, hm]; omega), hm, BitVec.toNat_ofNat, Nat.shiftRight_eq_div_pow]
  omega
/-- the array's cell V codes the n chars f 0 .. f (n - 1) by the coder cd, as the JDK does: coder 1 just where some char is above 255 -/
def Cod (cd : Int32) (n : Nat) (f : Nat → Int32) (V : Cell) : Prop := (cd = 0 ∧ V.slots.size = n ∧ ∀ j, j < n → V.slots[j]? = some (.int (lo8 (f j))) ∧ ¬ 255 < f j) ∨ (cd = 1 ∧ V.slots.size = 2 * n ∧ (∀ j, j < n → V.slots[2 * j]? = some (.int (lo8 (f j))) ∧ V.slots[2 * j + 1]? = some (.int (hi8 (f j)))) ∧ ∃ j, j < n ∧ 255 < f j)
theorem Cod.cd {cd : Int32} {n : Nat} {f : Nat → Int32} {V : Cell} (h : Cod cd n f V) : cd = 0 ∨ cd = 1 := h.imp (fun q => q.1) fun q => q.1
theorem Cod.len {cd : Int32} {n : Nat} {f : Nat → Int32} {V : Cell} (h : Cod cd n f V) (hs : V.slots.size < 2 ^ 31) : Int32.ofNat V.slots.size >>> (cd &&& 31) = Int32.ofNat n := by
  rcases h with ⟨rfl, h, -⟩ | ⟨rfl, h, -⟩
  · rw [shr0, h]
  · rw [h, shr1 (by omega)]
/-- **x is a String of the n chars f 0 .. f (n - 1)**, Latin-1 or UTF-16; its array at t has the cell V -/
def Txt (x t : Addr) (V : Cell) (cd : Int32) (n : Nat) (f : Nat → Int32) (U : State) : Prop := Exact "java/lang/String" x U ∧ Has x "java/lang/String" "value" "[B" (.ref t) U ∧ Has x "java/lang/String" "coder" "B" (.int cd) U ∧ XT.Arr .byte t V U ∧ Cod cd n f V ∧ ∀ j, j < n → ¬ f j < 0 ∧ ¬ 65535 < f j
theorem Txt.mv {x t : Addr} {V : Cell} {cd : Int32} {n : Nat} {f : Nat → Int32} {U U' : State} (h : Txt x t V cd n f U) (hal : U.vm.Alike U'.vm) (hh : U'.heap = U.heap) : Txt x t V cd n f U' := ⟨h.1.mv hal hh, h.2.1.mv hal hh, h.2.2.1.mv hal hh, h.2.2.2.1.mv hal hh, h.2.2.2.2⟩
namespace Cdr
def yN : MethodName := ⟨"java/lang/String", "coder", "()B"⟩
abbrev yB : ByteArray := jdk_42_method_152_code
theorem d0 : decode yB 0 = .ok (.getstatic 38, 3) := by decide +kernel
theorem d3 : decode yB 3 = .ok (.ifCond (.eq) 10, 3) := by decide +kernel
theorem d6 : decode yB 6 = .ok (.aload_n 0, 1) := by decide +kernel
theorem d7 : decode yB 7 = .ok (.getfield 15, 3) := by decide +kernel
theorem d10 : decode yB 10 = .ok (.goto 4, 3) := by decide +kernel
theorem d14 : decode yB 14 = .ok (.ireturn, 1) := by decide +kernel
def site : List Cond := [.fieldLink "java/lang/String" 38 "java/lang/String" "COMPACT_STRINGS" "Z", .fieldLink "java/lang/String" 15 "java/lang/String" "coder" "B"]
def tab : Cond := tabOf yN yB 1 (some .byte) site
def P (x : Addr) (cd z : Int32) (args : Array Value) (s : State) : Prop := args = #[.ref x] ∧ Has x "java/lang/String" "coder" "B" (.int cd) s ∧ (cd = 0 ∨ cd = 1) ∧ StaticIs s "java/lang/String" "COMPACT_STRINGS" "Z" (.int z) ∧ ¬ z = 0
def E (cd : Int32) (r : Option Value) (s u : State) : Prop := XT.PureE (some (.int cd)) r s u
theorem law (l : Launch) (x : Addr) (cd z : Int32) : Law l yN 1 0 0 0 yB 1 (some .byte) site (P x cd z) (E cd) [] 0 0 := by
  refine Law.of_walk (plainFor_of_name (by decide +kernel)) (by decide +kernel) (by decide +kernel) (by decide) (fun _ _ h => by rw [h.1]; rfl) (fun _ U U' hal hh h => ⟨h.1, h.2.1.mv hal hh, h.2.2.1, h.2.2.2.1.there hal hh, h.2.2.2.2⟩) (fun r U U' V V' h1 hal h2 h => XT.PureE.mv r U U' V V' h1 hal h2 h) ?_
  intro p e s m args below meth c s₁ X0 hexec hbytes hml hret hlk hnm hown hh0 W hP
  obtain ⟨rfl, hx, hc, s1, hz⟩ := hP
  have c1 : Steps p.tables e below (s₁.setTop (entryFrame m #[.ref x] 1)) (s₁.setTop (mkF m 0 #[.val (.ref x)] [])) := entry rfl
  obtain ⟨T2, X2, q2, st2⟩ := X0.sget hexec hown (wk W (.fieldLink "java/lang/String" 38 "java/lang/String" "COMPACT_STRINGS" "Z")) s1 (fun _ _ h => by rw [hh0]; exact h) (g := (mkF m 0 #[.val (.ref x)] [])) rfl (hb hbytes d0)
  have hh2 := q2.trans hh0
  have c3 : Steps p.tables e below (s₁.setTop (entryFrame m #[.ref x] 1)) (T2.setTop (mkF m 7 #[.val (.ref x)] [.ref x])) := (c1.trans (st2 _ (Steps.refl _))).trans (by
    refine XS.ifNo X2.here hexec rfl (hb hbytes d3) rfl (i0_eq_f hz) ?_
    refine XS.aloadN X2.here hexec rfl (hb hbytes d6) rfl rfl ?_
    exact Steps.refl _)
  obtain ⟨T4, X4, q4, st4⟩ := X2.hget hexec hown (wk W (.fieldLink "java/lang/String" 15 "java/lang/String" "coder" "B")) (hx.mv X2.warmed.alike hh2) (g := (mkF m 7 #[.val (.ref x)] [.ref x])) rfl (rest := []) rfl (hb hbytes d7)
  have c5 : Steps p.tables e below (s₁.setTop (entryFrame m #[.ref x] 1)) (T4.setTop (mkF m 14 #[.val (.ref x)] [.int cd])) := (c3.trans (st4 _ (Steps.refl _))).trans (by
    refine XS.goto X4.here hexec rfl (pc0 := 10) rfl (hb hbytes d10) (by decide) rfl ?_
    exact Steps.refl _)
  exact ⟨T4, some (.int cd), _, _, _, X4, rfl, rfl, rfl, (fun h => by cases h), ⟨rfl, q4.trans hh2⟩, fun fs hl => c5.trans (X4.ireturnOut hexec hret (by rcases hc with rfl | rfl <;> rfl) (Or.inr (Or.inr (Or.inl rfl))) (hb hbytes d14) hl)⟩
end Cdr
namespace Len
def yN : MethodName := ⟨"java/lang/String", "length", "()I"⟩
abbrev yB : ByteArray := jdk_42_method_54_code
theorem d0 : decode yB 0 = .ok (.aload_n 0, 1) := by decide +kernel
theorem d1 : decode yB 1 = .ok (.getfield 9, 3) := by decide +kernel
theorem d4 : decode yB 4 = .ok (.arraylength, 1) := by decide +kernel
theorem d5 : decode yB 5 = .ok (.aload_n 0, 1) := by decide +kernel
theorem d6 : decode yB 6 = .ok (.invokevirtual 335, 3) := by decide +kernel
theorem d9 : decode yB 9 = .ok (.ishr, 1) := by decide +kernel
theorem d10 : decode yB 10 = .ok (.ireturn, 1) := by decide +kernel
def site : List Cond := [.fieldLink "java/lang/String" 9 "java/lang/String" "value" "[B", Cdr.tab] ++ virtW "java/lang/String" 335 "java/lang/String" Cdr.yN Cdr.yN
def tab : Cond := tabOf yN yB 1 (some .int) site
def P (x t : Addr) (V : Cell) (cd : Int32) (n : Nat) (f : Nat → Int32) (z : Int32) (args : Array Value) (s : State) : Prop := args = #[.ref x] ∧ Txt x t V cd n f s ∧ StaticIs s "java/lang/String" "COMPACT_STRINGS" "Z" (.int z) ∧ ¬ z = 0
def E (n : Nat) (r : Option Value) (s u : State) : Prop := XT.PureE (some (.int (Int32.ofNat n))) r s u
/-- length() of a String of n chars, in either coding -/
theorem law (l : Launch) (x t : Addr) (V : Cell) (cd : Int32) (n : Nat) (f : Nat → Int32) (z : Int32) : Law l yN 1 0 1 13 yB 1 (some .int) site (P x t V cd n f z) (E n) [] 0 0 := by
  refine Law.of_walk (plainFor_of_name (by decide +kernel)) (by decide +kernel) (by decide +kernel) (by decide) (fun _ _ h => by rw [h.1]; rfl) (fun _ U U' hal hh h => ⟨h.1, h.2.1.mv hal hh, h.2.2.1.there hal hh, h.2.2.2⟩) (fun r U U' V V' h1 hal h2 h => XT.PureE.mv r U U' V V' h1 hal h2 h) ?_
  intro p e s m args below meth c s₁ X0 hexec hbytes hml hret hlk hnm hown hh0 W hP
  obtain ⟨rfl, hx, s1, hz⟩ := hP
  have v31 := hx.2.2.2.1.2.2.2
  have c1 : Steps p.tables e below (s₁.setTop (entryFrame m #[.ref x] 1)) (s₁.setTop (mkF m 1 #[.val (.ref x)] [.ref x])) := Steps.trans (entry rfl) (by
    show Steps p.tables e below (s₁.setTop (mkF m 0 #[.val (.ref x)] [])) _
    refine XS.aloadN X0.here hexec rfl (hb hbytes d0) rfl rfl ?_
    exact Steps.refl _)
  obtain ⟨T2, X2, q2, st2⟩ := X0.hget hexec hown (wk W (.fieldLink "java/lang/String" 9 "java/lang/String" "value" "[B")) (hx.mv X0.warmed.alike hh0).2.1 (g := (mkF m 1 #[.val (.ref x)] [.ref x])) rfl (rest := []) rfl (hb hbytes d1)
  have hh2 := q2.trans hh0
  have hx2 := hx.mv X2.warmed.alike hh2
  have c3 : Steps p.tables e below (s₁.setTop (entryFrame m #[.ref x] 1)) (T2.setTop (mkF m 6 #[.val (.ref x)] [.ref x, .int (Int32.ofNat V.slots.size)])) := (c1.trans (st2 _ (Steps.refl _))).trans (by
    refine X2.alen hexec hx2.2.2.2.1 rfl rfl (hb hbytes d4) ?_
    refine XS.aloadN X2.here hexec rfl (hb hbytes d5) rfl rfl ?_
    exact Steps.refl _)
  obtain ⟨v4, T4, X4, E4, g4⟩ := X2.callV hexec (Cdr.law l x cd z) hown (wks W (virtW "java/lang/String" 335 "java/lang/String" Cdr.yN Cdr.yN)) rfl (by decide) (wk W Cdr.tab) (W := 1) (Nat.le_of_ble_eq_true rfl) (Nat.le_of_ble_eq_true rfl) (Nat.le_refl _) (Nat.le_refl _) (hx2.1.fc X2.warmed.alike) hx2.1.is (g := (mkF m 6 #[.val (.ref x)] [.ref x, .int (Int32.ofNat V.slots.size)])) rfl (by rw [hml]; rfl) c3 (argsL := []) (rest := [.int (Int32.ofNat V.slots.size)]) rfl rfl (by show 2 * 0 + (1 + 0) ≤ _; decide) (hb hbytes d6) (⟨rfl, hx2.2.2.1, hx.2.2.2.2.1.cd, s1.there X2.warmed.alike hh2, hz⟩)
  obtain ⟨rfl, q4⟩ := E4
  have c5 : Steps p.tables e below (s₁.setTop (entryFrame m #[.ref x] 1)) (T4.setTop (mkF m 10 #[.val (.ref x)] [.int (Int32.ofNat V.slots.size >>> (cd &&& 31))])) := Steps.trans g4 (by
    refine ishr X4.here hexec rfl (hb hbytes d9) rfl ?_
    exact Steps.refl _)
  rw [hx.2.2.2.2.1.len v31] at c5
  exact ⟨T4, some (.int (Int32.ofNat n)), _, _, _, X4, rfl, rfl, rfl, (fun h => by cases h), ⟨rfl, q4.trans hh2⟩, fun fs hl => c5.trans (X4.ireturnOut hexec hret rfl (Or.inl rfl) (hb hbytes d10) hl)⟩
theorem pays {l : Launch} {R : Room} {p : Program} {e : Env} {below : List Frame} {s : State} {sargs : Array Value} {len W : Nat} (x t : Addr) (V : Cell) (cd : Int32) (n : Nat) (f : Nat → Int32) (z : Int32) (htab : tab.before sargs s = true) (hfr : 2 ≤ R.frames) (hlo : W + 25 ≤ R.locals) :
    Back l R p e below s sargs yN len W (fun A₁ a₁ => A₁.cells + 0 ≤ R.cells ∧ A₁.slots + 0 ≤ R.slots ∧ P x t V cd n f z a₁ A₁.U) (fun A₁ _ v₁ B₁ => E n v₁ A₁.U B₁.U ∧ B₁.locs = A₁.locs ++ [] ∧ B₁.cells = A₁.cells + 0 ∧ B₁.slots = A₁.slots + 0) :=
  (law l x t V cd n f z).pays htab hfr (by omega)
end Len
end StrChars
namespace StrChars.Road
open Jvm Sem ClassFile Op Lib Jvm.Stand Jvm.Free Jvm.Free.XT
open Jvm.Lib.Cold (StaticIs)
theorem consq {a : Array Value} {s : State} {c : Jvm.Cond} {L : List Jvm.Cond} (h0 : c.before a s = true) (h : ∀ w ∈ L, w.before a s = true) : ∀ w ∈ c :: L, w.before a s = true := fun w hw => (List.mem_cons.mp hw).elim (fun e => e ▸ h0) (h w)
/-- the words of String.length(), either coding -/
abbrev wordsLen : List Jvm.Cond := [.code Len.yN Len.yB 1 (some .int), .initialized ST, .fieldLink ST 9 ST "value" "[B", .fieldLink ST 38 ST "COMPACT_STRINGS" "Z", .fieldLink ST 15 ST "coder" "B", .code Cdr.yN Cdr.yB 1 (some .byte), .methodLink ST 335 Cdr.yN, .declares Cdr.yN, .selects ST Cdr.yN Cdr.yN, .instanceMethod Cdr.yN]
theorem tabLen_of {a : Array Value} {s : State} (h : ∀ w ∈ wordsLen, w.before a s = true) : Len.tab.before a s = true := by
  have hc : Cdr.tab.before a s = true := unparts (wk h (.code Cdr.yN Cdr.yB 1 (some .byte))) (wks h (.initialized Cdr.yN.cls :: Cdr.site))
  have q := consq hc h
  exact unparts (wk q (.code Len.yN Len.yB 1 (some .int))) (wks q (.initialized Len.yN.cls :: Len.site))
theorem movedLen {Z s : State} {a0 args : Array Value} (hZ : Z.Warmed39 s.vm) (hw : ∀ d ∈ wordsLen, d.before a0 Z = true) : ∀ d ∈ wordsLen, d.before args s = true := fun d hd => by
  have q := hw d hd
  have t : ∀ d ∈ wordsLen, d = .arrayClass .byte ∨ (d.onTables && d.keepsFace) = true := by decide +kernel
  rcases t d hd with rfl | t
  · exact RoadKit.mvA hZ q
  · exact RoadKit.mv hZ q t
/-- the bytes of the chars cs, low before high -/
def wideBytes : List Int32 → List Value
  | [] => []
  | c :: cs => .int (lo8 c) :: .int (hi8 c) :: wideBytes cs
theorem wide_lo (d : Value) : ∀ (cs : List Int32) (j : Nat), j < cs.length → (wideBytes cs).getD (2 * j) d = .int (lo8 (cs.getD j 0))
  | [], j, h => absurd h (Nat.not_lt_zero j)
  | c :: cs, 0, _ => rfl
  | c :: cs, j + 1, h => by
    have q := wide_lo d cs j (by simpa using h)
    rw [show 2 * (j + 1) = 2 * j + 1 + 1 from by omega]
    simpa [wideBytes] using q
theorem wide_hi (d : Value) : ∀ (cs : List Int32) (j : Nat), j < cs.length → (wideBytes cs).getD (2 * j + 1) d = .int (hi8 (cs.getD j 0))
  | [], j, h => absurd h (Nat.not_lt_zero j)
  | c :: cs, 0, _ => rfl
  | c :: cs, j + 1, h => by
    have q := wide_hi d cs j (by simpa using h)
    rw [show 2 * (j + 1) + 1 = 2 * j + 1 + 1 + 1 from by omega]
    simpa [wideBytes] using q
theorem low_at (d : Value) (cs : List Int32) (j : Nat) (h : j < cs.length) : (cs.map fun c => Value.int (lo8 c)).getD j d = .int (lo8 (cs.getD j 0)) := by
  simp [List.getD_eq_getElem?_getD, h]
/-- an array of N2 bytes vs codes the chars cs by the coder cd -/
def CodA (cs : List Int32) (cd N2 : Int32) (vs : List Value) : Prop := (cd = 0 ∧ N2 = Int32.ofNat cs.length ∧ vs = (cs.map fun c => Value.int (lo8 c)) ∧ ∀ c ∈ cs, ¬ 255 < c) ∨ (cd = 1 ∧ N2 = Int32.ofNat (2 * cs.length) ∧ vs = wideBytes cs ∧ ∃ c ∈ cs, 255 < c)
theorem CodA.cod {cs : List Int32} {cd N2 : Int32} {vs : List Value} {V : Cell} (h : CodA cs cd N2 vs) (hn : 2 * cs.length < 2 ^ 31) (hs : V.slots.size = N2.toNatClampNeg) (hv : RoadKit.Has V vs (.int 0)) : Cod cd cs.length (fun j => cs.getD j 0) V := by
  rcases h with ⟨rfl, rfl, rfl, h⟩ | ⟨rfl, rfl, rfl, c, hc, hw⟩
  · rw [n32 (by omega)] at hs
    exact Or.inl ⟨rfl, hs, fun j hj => ⟨by rw [hv j (by omega), low_at _ _ _ hj], by
      have e : cs.getD j 0 = cs[j] := by simp [List.getD_eq_getElem?_getD, hj]
      show ¬ 255 < cs.getD j 0
      rw [e]; exact h _ (List.getElem_mem _)⟩⟩
  · rw [n32 (by omega)] at hs
    obtain ⟨j, hj, rfl⟩ := List.getElem_of_mem hc
    exact Or.inr ⟨rfl, hs, fun j hj => ⟨by rw [hv _ (by omega), wide_lo _ _ _ hj], by rw [hv _ (by omega), wide_hi _ _ _ hj]⟩, j, hj, by
      have e : cs.getD j 0 = cs[j] := by simp [List.getD_eq_getElem?_getD, hj]
      show 255 < cs.getD j 0
      rw [e]; exact hw⟩
/-- an object of exactly java/lang/String, its two fields found: as the laws ask it -/
theorem strObj {Z U : State} {a0 : Array Value} {kI : Nat} (wi : (Jvm.Cond.instantiable ST kI).before a0 Z = true) (al : Z.vm.Alike U.vm) {x : Addr} {v0 c0 : Value} (E : RoadKit.Exa Z U.heap x ST) (V : RoadKit.Fld Z U.heap x ST "value" "[B" v0) (C : RoadKit.Fld Z U.heap x ST "coder" "B" c0) :
    ∃ (D : Cell) (fV fC : Field), Blank ST x D U ∧ Found ST "value" "[B" fV U ∧ Found ST "coder" "B" fC U ∧ D.slots[fV.slot]? = some v0 ∧ D.slots[fC.slot]? = some c0 ∧ RoadKit.slotOf Z ST "value" "[B" = fV.slot ∧ RoadKit.slotOf Z ST "coder" "B" = fC.slot := by
  obtain ⟨D, cfV, kV, iV, fV, hD, gV, stV, knV, obV, asV, slV⟩ := V
  obtain ⟨D', cfC, kC, iC, fC, hD', gC, stC, -, -, asC, slC⟩ := C
  cases hD.symm.trans hD'
  obtain ⟨D2, kD, e1, e2, e3, e4, e5⟩ := E
  cases hD.symm.trans e1
  obtain ⟨c2, k2, i1, i2, i3, -⟩ := Cond.instantiable_spec wi
  cases e2.symm.trans i1
  cases e3.symm.trans i2
  obtain ⟨kU, u1, u2⟩ := al.2.2 _ _ e3
  exact ⟨D, fV, fC, ⟨hD, ⟨knV, fun q hq => by rw [hq] at obV; cases obV⟩, by rw [al.findClass]; exact e2, kU, u1, by rw [u2]; exact i3, by rw [u2]; exact e5 i3⟩, ⟨SBG.found_only al ⟨cfV, kV, iV, gV⟩, stV⟩, ⟨SBG.found_only al ⟨cfC, kC, iC, gC⟩, stC⟩, slV, slC, by simp [RoadKit.slotOf, gV], by simp [RoadKit.slotOf, gC]⟩
theorem sta_is {Z U : State} (al : Z.vm.Alike U.vm) {C n d : String} {v : Value} (S : RoadKit.Sta Z U.heap C n d v) : StaticIs U C n d v := by
  obtain ⟨cfS, iS, kS, fS, st, cS, t1, t2, t3, t4, t5, t6, t7⟩ := S
  exact StaticIs.there (s := { Z with heap := U.heap }) ⟨cfS, iS, kS, fS, st, cS, t1, t2, t3, t4, t5, (fun q => by rw [q] at t6; cases t6), t7⟩ al rfl
/-- **length() OF SUCH A STRING** -/
theorem lenW {p : Program} {l : Launch} {e : Env} {R : Room} {s : State} {args : Array Value} {below : List Frame} {len W : Nat} {Z : State} {a0 : Array Value} {h : Heap} (hZ : Z.Warmed39 s.vm) (hw : ∀ d ∈ wordsLen, d.before a0 Z = true) {kI : Nat} (wi : (Jvm.Cond.instantiable ST kI).before a0 Z = true)
    {x t : Addr} {kb : ClassId} {cs : List Int32} {cd N2 z : Int32} {vs : List Value} (E : RoadKit.Exa Z h x ST) (V : RoadKit.Fld Z h x ST "value" "[B" (.ref t)) (C : RoadKit.Fld Z h x ST "coder" "B" (.int cd)) (K : RoadKit.Arv Z h t kb .byte N2 vs (.int 0)) (hc : CodA cs cd N2 vs) (hb : ∀ c ∈ cs, ¬ c < 0 ∧ ¬ (65535 : Int32) < c)
    (S : RoadKit.Sta Z h ST "COMPACT_STRINGS" "Z" (.int z)) (hz : ¬ z = 0) (l2 : cs.length ≤ 4000) (hfr : 2 ≤ R.frames) (hlo : W + 25 ≤ R.locals) :
    Back l R p e below s args (⟨"java/lang/String", "length", "()I"⟩ : MethodName) len W (fun P a => a = #[.ref x] ∧ P.U.heap = h ∧ P.cells + 0 ≤ R.cells ∧ P.slots + 0 ≤ R.slots)
      (fun P _ v B => ∃ L, (v = some (.int (Int32.ofNat cs.length)) ∧ L = [] ∧ B.U.heap = h) ∧ B.locs = P.locs ++ L ∧ B.cells = P.cells + 0 ∧ B.slots = P.slots + 0) := by
  obtain ⟨A, K1, K2, K3, K4, K5, K6⟩ := K
  have hcod := hc.cod (by omega) K3 K5
  intro m meth c P g ig mk a X hg hsize hdg hW hn hp'
  obtain ⟨rfl, rfl, r1, r2⟩ := hp'
  have al : Z.vm.Alike P.U.vm := hZ.alike.trans X.warmed.alike
  obtain ⟨D, fV, fC, hB, F1, F2, g1, g2, -, -⟩ := strObj wi al E V C
  have hx : Txt x t A cd cs.length (fun j => cs.getD j 0) P.U := ⟨⟨_, hB.2.2.1, D, hB.1, rfl, by cases q : D.vm <;> first | rfl | exact absurd q (hB.2.1.2 _)⟩, Has.of hB F1 g1, Has.of hB F2 g2, ⟨K1.1, State.isArrayOf_alike al K1.2.1, K1.2.2, by rcases hcod with ⟨-, q, -⟩ | ⟨-, q, -⟩ <;> omega⟩, hcod, fun j hj => by
    have e : cs.getD j 0 = cs[j] := by simp [List.getD_eq_getElem?_getD, hj]
    show ¬ cs.getD j 0 < 0 ∧ ¬ 65535 < cs.getD j 0
    rw [e]; exact hb _ (List.getElem_mem _)⟩
  obtain ⟨v, B, X', ⟨⟨hv, hh⟩, hl, hk, hs⟩, st⟩ := Len.pays x t A cd cs.length (fun j => cs.getD j 0) z (tabLen_of (movedLen hZ hw)) hfr hlo m meth c P g ig mk _ X hg hsize hdg hW hn ⟨r1, r2, rfl, hx, sta_is al S, hz⟩
  exact ⟨v, B, X', ⟨[], ⟨hv, rfl, hh⟩, hl, hk, hs⟩, st⟩
end StrChars.Road
namespace StrChars
open Jvm Sem ClassFile Op Lib Jvm.Stand Jvm.Free.XT Jvm.Free.ALB Jvm.Free.JM Jvm.Free
open Jvm.Lib.Cold (StaticIs)
/-- what place i of a byte[]'s cell holds -/
def yv (A : Cell) (i : Nat) : Int32 := match A.slots[i]? with | some (.int x) => x | _ => 0
theorem yv_get {a : Addr} {A : Cell} {U : State} (h : XT.Arr .byte a A U) (ht : Typed .byte A) {i : Nat} (hi : i < A.slots.size) : A.slots[i]? = some (.int (yv A i)) := by
  have e := Array.getElem?_eq_getElem hi
  have f := ht i _ e
  unfold yv; rw [e]
  generalize A.slots[i] = v at f
  cases v <;> simp [fits] at f ⊢
/-- the two arrays are equal, place for place -/
def EqC (A B : Cell) : Prop := A.slots.size = B.slots.size ∧ ∀ i, i < A.slots.size → yv A i = yv B i
/-- a boolean that says whether p -/
def Says01 (q : Prop) (r : Option Value) (s u : State) : Prop := ∃ v : Int32, r = some (.int v) ∧ u.heap = s.heap ∧ ((v = 1 ∧ q) ∨ (v = 0 ∧ ¬ q))
theorem Says01.mv {q : Prop} : ∀ r (U U' V V' : State), U'.heap = U.heap → V.vm.Alike V'.vm → V'.heap = V.heap → Says01 q r U V → Says01 q r U' V' :=
  fun r U U' V V' h1 _ h2 ⟨v, a, b, c⟩ => ⟨v, a, by rw [h1, h2]; exact b, c⟩
namespace LEq
def yN : MethodName := ⟨"java/lang/StringLatin1", "equals", "([B[B)Z"⟩
abbrev yB : ByteArray := jdk_43_method_13_code
theorem d0 : decode yB 0 = .ok (.aload_n 0, 1) := by decide +kernel
theorem d1 : decode yB 1 = .ok (.arraylength, 1) := by decide +kernel
theorem d2 : decode yB 2 = .ok (.aload_n 1, 1) := by decide +kernel
theorem d3 : decode yB 3 = .ok (.arraylength, 1) := by decide +kernel
theorem d4 : decode yB 4 = .ok (.if_icmp (.ne) 30, 3) := by decide +kernel
theorem d7 : decode yB 7 = .ok (.iconst 0, 1) := by decide +kernel
theorem d8 : decode yB 8 = .ok (.istore_n 2, 1) := by decide +kernel
theorem d9 : decode yB 9 = .ok (.iload_n 2, 1) := by decide +kernel
theorem d10 : decode yB 10 = .ok (.aload_n 0, 1) := by decide +kernel
theorem d11 : decode yB 11 = .ok (.arraylength, 1) := by decide +kernel
theorem d12 : decode yB 12 = .ok (.if_icmp (.ge) 20, 3) := by decide +kernel
theorem d15 : decode yB 15 = .ok (.aload_n 0, 1) := by decide +kernel
theorem d16 : decode yB 16 = .ok (.iload_n 2, 1) := by decide +kernel
theorem d17 : decode yB 17 = .ok (.baload, 1) := by decide +kernel
theorem d18 : decode yB 18 = .ok (.aload_n 1, 1) := by decide +kernel
theorem d19 : decode yB 19 = .ok (.iload_n 2, 1) := by decide +kernel
theorem d20 : decode yB 20 = .ok (.baload, 1) := by decide +kernel
theorem d21 : decode yB 21 = .ok (.if_icmp (.eq) 5, 3) := by decide +kernel
theorem d24 : decode yB 24 = .ok (.iconst 0, 1) := by decide +kernel
theorem d25 : decode yB 25 = .ok (.ireturn, 1) := by decide +kernel
theorem d26 : decode yB 26 = .ok (.iinc 2 1, 3) := by decide +kernel
theorem d29 : decode yB 29 = .ok (.goto (-20), 3) := by decide +kernel
theorem d32 : decode yB 32 = .ok (.iconst 1, 1) := by decide +kernel
theorem d33 : decode yB 33 = .ok (.ireturn, 1) := by decide +kernel
theorem d34 : decode yB 34 = .ok (.iconst 0, 1) := by decide +kernel
theorem d35 : decode yB 35 = .ok (.ireturn, 1) := by decide +kernel
def site : List Cond := []
def tab : Cond := tabOf yN yB 3 (some .boolean) site
def P (a : Addr) (A : Cell) (b : Addr) (B : Cell) (args : Array Value) (s : State) : Prop := args = #[.ref a, .ref b] ∧ XT.Arr .byte a A s ∧ Typed .byte A ∧ XT.Arr .byte b B s ∧ Typed .byte B
/-- whether two byte[] are equal, place for place -/
theorem law (l : Launch) (a : Addr) (A : Cell) (b : Addr) (B : Cell) : Law l yN 2 2 0 0 yB 3 (some .boolean) site (P a A b B) (Says01 (EqC A B)) [] 0 0 := by
  refine Law.of_walk (plainFor_of_name (by decide +kernel)) (by decide +kernel) (by decide +kernel) (by decide) (fun _ _ h => by rw [h.1]; rfl) (fun _ U U' hal hh h => ⟨h.1, h.2.1.mv hal hh, h.2.2.1, h.2.2.2.1.mv hal hh, h.2.2.2.2⟩) (fun r U U' V V' h1 hal h2 h => Says01.mv r U U' V V' h1 hal h2 h) ?_
  intro p e s m args below meth c s₁ X0 hexec hbytes hml hret hlk hnm hown hh0 W hP
  obtain ⟨rfl, hA, tA, hB, tB⟩ := hP
  have a31 := hA.2.2.2
  have b31 := hB.2.2.2
  have hA0 := hA.mv X0.warmed.alike hh0
  have hB0 := hB.mv X0.warmed.alike hh0
  have c1 : Steps p.tables e below (s₁.setTop (entryFrame m #[.ref a, .ref b] 3)) (s₁.setTop (mkF m 0 #[.val (.ref a), .val (.ref b), .unset] [])) := entry rfl
  have c2 : Steps p.tables e below (s₁.setTop (entryFrame m #[.ref a, .ref b] 3)) (s₁.setTop (mkF m 4 #[.val (.ref a), .val (.ref b), .unset] [.int (Int32.ofNat B.slots.size), .int (Int32.ofNat A.slots.size)])) := c1.trans (by
    refine XS.aloadN X0.here hexec rfl (hb hbytes d0) rfl rfl ?_
    refine X0.alen hexec hA0 rfl rfl (hb hbytes d1) ?_
    refine XS.aloadN X0.here hexec rfl (hb hbytes d2) rfl rfl ?_
    refine X0.alen hexec hB0 rfl rfl (hb hbytes d3) ?_
    exact Steps.refl _)
  by_cases hs : A.slots.size = B.slots.size
  · have c3 : Steps p.tables e below (s₁.setTop (entryFrame m #[.ref a, .ref b] 3)) (s₁.setTop (mkF m 9 #[.val (.ref a), .val (.ref b), .val (.int 0)] [])) := c2.trans (by
      refine XS.icmpNo X0.here hexec rfl (hb hbytes d4) rfl (ii_ne_f (by rw [hs])) ?_
      refine iconstV X0.here hexec rfl 0 (hb hbytes d7) (by decide) ?_
      refine XS.istoreN X0.here hexec rfl (hb hbytes d8) rfl rfl ?_
      exact Steps.refl _)
    have loop : ∀ (r i : Nat), i + r = A.slots.size → (∀ j, j < i → yv A j = yv B j) → Steps p.tables e below (s₁.setTop (entryFrame m #[.ref a, .ref b] 3)) (s₁.setTop (mkF m 9 #[.val (.ref a), .val (.ref b), .val (.int (Int32.ofNat i))] [])) → ∃ (pc : Nat) (Ls : Array Slot) (v : Int32), (pc = 25 ∨ pc = 33) ∧ ((v = 1 ∧ EqC A B) ∨ (v = 0 ∧ ¬ EqC A B)) ∧ Steps p.tables e below (s₁.setTop (entryFrame m #[.ref a, .ref b] 3)) (s₁.setTop (mkF m pc Ls [.int v])) := by
      intro r
      induction r with
      | zero =>
        intro i hi he cl
        exact ⟨33, _, 1, Or.inr rfl, Or.inl ⟨rfl, hs, fun j hj => he j (by omega)⟩, cl.trans (by
          refine XS.iloadN X0.here hexec rfl (hb hbytes d9) rfl ?_
          refine XS.aloadN X0.here hexec rfl (hb hbytes d10) rfl rfl ?_
          refine X0.alen hexec hA0 rfl rfl (hb hbytes d11) ?_
          refine XS.icmpYes X0.here hexec rfl (pc0 := 12) rfl (hb hbytes d12) rfl (ii_ge_t (nlt32 (by omega) (by omega))) (by decide) rfl ?_
          refine iconstV X0.here hexec rfl 1 (hb hbytes d32) (by decide) ?_
          exact Steps.refl _)⟩
      | succ r ih =>
        intro i hi he cl
        have c4 : Steps p.tables e below (s₁.setTop (entryFrame m #[.ref a, .ref b] 3)) (s₁.setTop (mkF m 21 #[.val (.ref a), .val (.ref b), .val (.int (Int32.ofNat i))] [.int (yv B i), .int (yv A i)])) := cl.trans (by
          refine XS.iloadN X0.here hexec rfl (hb hbytes d9) rfl ?_
          refine XS.aloadN X0.here hexec rfl (hb hbytes d10) rfl rfl ?_
          refine X0.alen hexec hA0 rfl rfl (hb hbytes d11) ?_
          refine XS.icmpNo X0.here hexec rfl (hb hbytes d12) rfl (ii_ge_f (lt32 (by omega) (by omega))) ?_
          refine XS.aloadN X0.here hexec rfl (hb hbytes d15) rfl rfl ?_
          refine XS.iloadN X0.here hexec rfl (hb hbytes d16) rfl ?_
          refine X0.aget hexec hA0 rfl (yv_get hA tA (i := i) (by omega)) rfl rfl (hb hbytes d17) ?_
          refine XS.aloadN X0.here hexec rfl (hb hbytes d18) rfl rfl ?_
          refine XS.iloadN X0.here hexec rfl (hb hbytes d19) rfl ?_
          refine X0.aget hexec hB0 rfl (yv_get hB tB (i := i) (by omega)) rfl rfl (hb hbytes d20) ?_
          exact Steps.refl _)
        by_cases hv : yv A i = yv B i
        · have c5 : Steps p.tables e below (s₁.setTop (entryFrame m #[.ref a, .ref b] 3)) (s₁.setTop (mkF m 9 #[.val (.ref a), .val (.ref b), .val (.int (Int32.ofNat i + 1))] [])) := c4.trans (by
            refine XS.icmpYes X0.here hexec rfl (pc0 := 21) rfl (hb hbytes d21) rfl (ii_eq_t hv) (by decide) rfl ?_
            refine iincV X0.here hexec rfl 1 (hb hbytes d26) (by decide) rfl rfl ?_
            refine XS.goto X0.here hexec rfl (pc0 := 29) rfl (hb hbytes d29) (by decide) rfl ?_
            exact Steps.refl _)
          rw [succ32] at c5
          exact ih (i + 1) (by omega) (fun j hj => by
            by_cases e : j = i
            · rw [e]; exact hv
            · exact he j (by omega)) c5
        · exact ⟨25, _, 0, Or.inl rfl, Or.inr ⟨rfl, fun q => hv (q.2 i (by omega))⟩, c4.trans (by
            refine XS.icmpNo X0.here hexec rfl (hb hbytes d21) rfl (ii_eq_f hv) ?_
            refine iconstV X0.here hexec rfl 0 (hb hbytes d24) (by decide) ?_
            exact Steps.refl _)⟩
    obtain ⟨pc, Ls, v, hpc, hv, cz⟩ := loop A.slots.size 0 (by omega) (fun j hj => absurd hj (Nat.not_lt_zero j)) c3
    have nv : narrow .boolean (.int v) = .int v := by rcases hv with ⟨rfl, -⟩ | ⟨rfl, -⟩ <;> rfl
    rcases hpc with rfl | rfl
    · exact ⟨s₁, some (.int v), _, _, _, X0, rfl, rfl, rfl, (fun h => by cases h), ⟨v, rfl, hh0, hv⟩, fun fs hl => cz.trans (X0.ireturnOut hexec hret nv (Or.inr (Or.inl rfl)) (hb hbytes d25) hl)⟩
    · exact ⟨s₁, some (.int v), _, _, _, X0, rfl, rfl, rfl, (fun h => by cases h), ⟨v, rfl, hh0, hv⟩, fun fs hl => cz.trans (X0.ireturnOut hexec hret nv (Or.inr (Or.inl rfl)) (hb hbytes d33) hl)⟩
  · have c3 : Steps p.tables e below (s₁.setTop (entryFrame m #[.ref a, .ref b] 3)) (s₁.setTop (mkF m 35 #[.val (.ref a), .val (.ref b), .unset] [.int 0])) := c2.trans (by
      refine XS.icmpYes X0.here hexec rfl (pc0 := 4) rfl (hb hbytes d4) rfl (ii_ne_t (ne32 a31 b31 hs)) (by decide) rfl ?_
      refine iconstV X0.here hexec rfl 0 (hb hbytes d34) (by decide) ?_
      exact Steps.refl _)
    exact ⟨s₁, some (.int 0), _, _, _, X0, rfl, rfl, rfl, (fun h => by cases h), ⟨0, rfl, hh0, Or.inr ⟨rfl, fun q => hs q.1⟩⟩, fun fs hl => c3.trans (X0.ireturnOut hexec hret rfl (Or.inr (Or.inl rfl)) (hb hbytes d35) hl)⟩
end LEq
theorem Cod.ty {cd : Int32} {n : Nat} {f : Nat → Int32} {V : Cell} (h : Cod cd n f V) : Typed .byte V := fun i v hv => by
  have hi : i < V.slots.size := (Array.getElem?_eq_some_iff.mp hv).1
  rcases h with ⟨-, k1, k2⟩ | ⟨-, k1, k2, -⟩
  · rw [(k2 i (by omega)).1] at hv; cases hv; exact fits_lo8 _
  · rcases Nat.mod_two_eq_zero_or_one i with e | e
    · obtain ⟨j, rfl⟩ : ∃ j, i = 2 * j := ⟨i / 2, by omega⟩
      rw [(k2 j (by omega)).1] at hv; cases hv; exact fits_lo8 _
    · obtain ⟨j, rfl⟩ : ∃ j, i = 2 * j + 1 := ⟨i / 2, by omega⟩
      rw [(k2 j (by omega)).2] at hv; cases hv; exact fits_lo8 _
/-- the same text -/
def SameT (n : Nat) (f : Nat → Int32) (k : Nat) (g : Nat → Int32) : Prop := n = k ∧ ∀ j, j < n → f j = g j
theorem lo8_inj {x y : Int32} (h0 : ¬ x < 0) (h1 : ¬ 255 < x) (k0 : ¬ y < 0) (k1 : ¬ 255 < y) (h : lo8 x = lo8 y) : x = y := by
  rw [← lo8_mask h0 h1, ← lo8_mask k0 k1, h]
/-- arrays coded by one coder are equal just where the texts are -/
theorem Cod.eqv {cd : Int32} {n k : Nat} {f g : Nat → Int32} {V V' : Cell} (h : Cod cd n f V) (h' : Cod cd k g V') (hf : ∀ j, j < n → ¬ f j < 0 ∧ ¬ 65535 < f j) (hg : ∀ j, j < k → ¬ g j < 0 ∧ ¬ 65535 < g j) : EqC V V' ↔ SameT n f k g := by
  have yvv : ∀ {W : Cell} {i : Nat} {x : Int32}, W.slots[i]? = some (.int x) → yv W i = x := fun q => by unfold yv; rw [q]
  rcases h with ⟨rfl, k1, k2⟩ | ⟨rfl, k1, k2, -⟩
  · rcases h' with ⟨-, m1, m2⟩ | ⟨e, -⟩
    · constructor
      · rintro ⟨e1, e2⟩
        refine ⟨by omega, fun j hj => ?_⟩
        have q := e2 j (by omega)
        rw [yvv (k2 j hj).1, yvv (m2 j (by omega)).1] at q
        exact lo8_inj (hf j hj).1 (k2 j hj).2 (hg j (by omega)).1 (m2 j (by omega)).2 q
      · rintro ⟨rfl, e2⟩
        refine ⟨by omega, fun j hj => ?_⟩
        rw [yvv (k2 j (by omega)).1, yvv (m2 j (by omega)).1, e2 j (by omega)]
    · exact absurd e (by decide)
  · rcases h' with ⟨e, -⟩ | ⟨-, m1, m2, -⟩
    · exact absurd e (by decide)
    · constructor
      · rintro ⟨e1, e2⟩
        refine ⟨by omega, fun j hj => ?_⟩
        have q1 := e2 (2 * j) (by omega)
        have q2 := e2 (2 * j + 1) (by omega)
        rw [yvv (k2 j hj).1, yvv (m2 j (by omega)).1] at q1
        rw [yvv (k2 j hj).2, yvv (m2 j (by omega)).2] at q2
        rw [← pair_says (hf j hj).1 (hf j hj).2, ← pair_says (hg j (by omega)).1 (hg j (by omega)).2, q1, q2]
      · rintro ⟨rfl, e2⟩
        refine ⟨by omega, fun i hi => ?_⟩
        rcases Nat.mod_two_eq_zero_or_one i with e | e
        · obtain ⟨j, rfl⟩ : ∃ j, i = 2 * j := ⟨i / 2, by omega⟩
          rw [yvv (k2 j (by omega)).1, yvv (m2 j (by omega)).1, e2 j (by omega)]
        · obtain ⟨j, rfl⟩ : ∃ j, i = 2 * j + 1 := ⟨i / 2, by omega⟩
          rw [yvv (k2 j (by omega)).2, yvv (m2 j (by omega)).2, e2 j (by omega)]
/-- two codings differ: so do the texts -/
theorem Cod.dif {cd cd' : Int32} {n k : Nat} {f g : Nat → Int32} {V V' : Cell} (h : Cod cd n f V) (h' : Cod cd' k g V') (hne : ¬ cd = cd') : ¬ SameT n f k g := by
  rintro ⟨rfl, e⟩
  rcases h with ⟨rfl, -, k2⟩ | ⟨rfl, -, -, j, hj, hw⟩
  · rcases h' with ⟨rfl, -⟩ | ⟨-, -, -, j, hj, hw⟩
    · exact hne rfl
    · exact (k2 j hj).2 (by rw [e j hj]; exact hw)
  · rcases h' with ⟨-, -, m2⟩ | ⟨rfl, -⟩
    · exact (m2 j hj).2 (by rw [← e j hj]; exact hw)
    · exact hne rfl
/-- an object of exactly C is an instance of C -/
theorem cinst {p : Program} {l : Launch} {e : Env} {R : Room} {s : State} {m : MethodId} {args : Array Value} {below : List Frame} {meth : Method} {c : Code} {T : State} {locs : List Loc} {cells slots : Nat} (X : Stand p l e R s m args below meth c T locs cells slots) (hexec : p.tables.exec = Jvm.exec) {own C : String} {index : Nat} (hown : s.vm.findClass own = some m.cls) (hlink : (Cond.classLink own index C).before args s = true) {a : Addr} (hE : Exact C a T)
    {g : JFrame} (hg : g.method = m) {rest : List Value} (hstack : g.stack = .ref a :: rest) (hdg : decode c.code g.pc = .ok (.instanceof index, 3)) :
    ∃ T', Stand p l e R s m args below meth c T' locs cells slots ∧ T'.heap = T.heap ∧ ∀ target, Steps p.tables e below (T'.setTop { g with pc := g.pc + 3, stack := .int 1 :: rest }) target → Steps p.tables e below (T.setTop g) target := by
  obtain ⟨cB, h1, D, h2, h3, h4⟩ := hE
  have h1' : s.vm.findClass C = some cB := by rw [← X.warmed.alike.findClass]; exact h1
  obtain ⟨vm', X', st⟩ := X.instanceofYes hexec hown hlink h2 h4 h1' (by rw [h3]; exact Jvm.Free.SB.assignable_self _ _) hg hstack hdg
  exact ⟨_, X', rfl, st⟩
theorem cself {p : Program} {l : Launch} {e : Env} {R : Room} {s : State} {m : MethodId} {args : Array Value} {below : List Frame} {meth : Method} {c : Code} {T : State} {locs : List Loc} {cells slots : Nat} (X : Stand p l e R s m args below meth c T locs cells slots) (hexec : p.tables.exec = Jvm.exec) {own C : String} {index : Nat} (hown : s.vm.findClass own = some m.cls) (hlink : (Cond.classLink own index C).before args s = true) {a : Addr} (hE : Exact C a T)
    {g : JFrame} (hg : g.method = m) {rest : List Value} (hstack : g.stack = .ref a :: rest) (hdg : decode c.code g.pc = .ok (.checkcast index, 3)) :
    ∃ T', Stand p l e R s m args below meth c T' locs cells slots ∧ T'.heap = T.heap ∧ ∀ target, Steps p.tables e below (T'.setTop { g with pc := g.pc + 3, stack := .ref a :: rest }) target → Steps p.tables e below (T.setTop g) target := by
  obtain ⟨cB, h1, D, h2, h3, h4⟩ := hE
  have h1' : s.vm.findClass C = some cB := by rw [← X.warmed.alike.findClass]; exact h1
  obtain ⟨vm', X', st⟩ := X.checkcastYes hexec hown hlink h2 h4 h1' (by rw [h3]; exact Jvm.Free.SB.assignable_self _ _) hg hstack hdg
  exact ⟨_, X', rfl, fun t h => st t (by rw [← hstack] at h; exact h)⟩
namespace SEq
def yN : MethodName := ⟨"java/lang/String", "equals", "(Ljava/lang/Object;)Z"⟩
abbrev yB : ByteArray := jdk_42_method_66_code
theorem d0 : decode yB 0 = .ok (.aload_n 0, 1) := by decide +kernel
theorem d1 : decode yB 1 = .ok (.aload_n 1, 1) := by decide +kernel
theorem d2 : decode yB 2 = .ok (.if_acmp (.ne) 5, 3) := by decide +kernel
theorem d5 : decode yB 5 = .ok (.iconst 1, 1) := by decide +kernel
theorem d6 : decode yB 6 = .ok (.ireturn, 1) := by decide +kernel
theorem d7 : decode yB 7 = .ok (.aload_n 1, 1) := by decide +kernel
theorem d8 : decode yB 8 = .ok (.instanceof 10, 3) := by decide +kernel
theorem d11 : decode yB 11 = .ok (.ifCond (.eq) 43, 3) := by decide +kernel
theorem d14 : decode yB 14 = .ok (.aload_n 1, 1) := by decide +kernel
theorem d15 : decode yB 15 = .ok (.checkcast 10, 3) := by decide +kernel
theorem d18 : decode yB 18 = .ok (.astore_n 2, 1) := by decide +kernel
theorem d19 : decode yB 19 = .ok (.getstatic 38, 3) := by decide +kernel
theorem d22 : decode yB 22 = .ok (.ifCond (.eq) 14, 3) := by decide +kernel
theorem d25 : decode yB 25 = .ok (.aload_n 0, 1) := by decide +kernel
theorem d26 : decode yB 26 = .ok (.getfield 15, 3) := by decide +kernel
theorem d29 : decode yB 29 = .ok (.aload_n 2, 1) := by decide +kernel
theorem d30 : decode yB 30 = .ok (.getfield 15, 3) := by decide +kernel
theorem d33 : decode yB 33 = .ok (.if_icmp (.ne) 21, 3) := by decide +kernel
theorem d36 : decode yB 36 = .ok (.aload_n 0, 1) := by decide +kernel
theorem d37 : decode yB 37 = .ok (.getfield 9, 3) := by decide +kernel
theorem d40 : decode yB 40 = .ok (.aload_n 2, 1) := by decide +kernel
theorem d41 : decode yB 41 = .ok (.getfield 9, 3) := by decide +kernel
theorem d44 : decode yB 44 = .ok (.invokestatic 541, 3) := by decide +kernel
theorem d47 : decode yB 47 = .ok (.ifCond (.eq) 7, 3) := by decide +kernel
theorem d50 : decode yB 50 = .ok (.iconst 1, 1) := by decide +kernel
theorem d51 : decode yB 51 = .ok (.goto 4, 3) := by decide +kernel
theorem d54 : decode yB 54 = .ok (.iconst 0, 1) := by decide +kernel
theorem d55 : decode yB 55 = .ok (.ireturn, 1) := by decide +kernel
def site : List Cond := [.classLink "java/lang/String" 10 "java/lang/String", .fieldLink "java/lang/String" 38 "java/lang/String" "COMPACT_STRINGS" "Z", .fieldLink "java/lang/String" 15 "java/lang/String" "coder" "B", .fieldLink "java/lang/String" 9 "java/lang/String" "value" "[B", LEq.tab] ++ staticW "java/lang/String" 541 LEq.yN
def tab : Cond := tabOf yN yB 3 (some .boolean) site
def P (x t : Addr) (V : Cell) (cd : Int32) (n : Nat) (f : Nat → Int32) (y t' : Addr) (V' : Cell) (cd' : Int32) (k : Nat) (g : Nat → Int32) (z : Int32) (args : Array Value) (s : State) : Prop := args = #[.ref x, .ref y] ∧ Txt x t V cd n f s ∧ Txt y t' V' cd' k g s ∧ StaticIs s "java/lang/String" "COMPACT_STRINGS" "Z" (.int z) ∧ ¬ z = 0
/-- equals(Object) of two Strings: whether the texts are the same -/
theorem law (l : Launch) (x t : Addr) (V : Cell) (cd : Int32) (n : Nat) (f : Nat → Int32) (y t' : Addr) (V' : Cell) (cd' : Int32) (k : Nat) (g : Nat → Int32) (z : Int32) : Law l yN 2 1 1 14 yB 3 (some .boolean) site (P x t V cd n f y t' V' cd' k g z) (Says01 (SameT n f k g)) [] 0 0 := by
  refine Law.of_walk (plainFor_of_name (by decide +kernel)) (by decide +kernel) (by decide +kernel) (by decide) (fun _ _ h => by rw [h.1]; rfl) (fun _ U U' hal hh h => ⟨h.1, h.2.1.mv hal hh, h.2.2.1.mv hal hh, h.2.2.2.1.there hal hh, h.2.2.2.2⟩) (fun r U U' V V' h1 hal h2 h => Says01.mv r U U' V V' h1 hal h2 h) ?_
  intro p e s m args below meth c s₁ X0 hexec hbytes hml hret hlk hnm hown hh0 W hP
  obtain ⟨rfl, hx, hy, s1, hz⟩ := hP
  have c1 : Steps p.tables e below (s₁.setTop (entryFrame m #[.ref x, .ref y] 3)) (s₁.setTop (mkF m 2 #[.val (.ref x), .val (.ref y), .unset] [.ref y, .ref x])) := Steps.trans (entry rfl) (by
    show Steps p.tables e below (s₁.setTop (mkF m 0 #[.val (.ref x), .val (.ref y), .unset] [])) _
    refine XS.aloadN X0.here hexec rfl (hb hbytes d0) rfl rfl ?_
    refine XS.aloadN X0.here hexec rfl (hb hbytes d1) rfl rfl ?_
    exact Steps.refl _)
  by_cases hxy : x = y
  · have c2 : Steps p.tables e below (s₁.setTop (entryFrame m #[.ref x, .ref y] 3)) (s₁.setTop (mkF m 6 #[.val (.ref x), .val (.ref y), .unset] [.int 1])) := c1.trans (by
      refine acmpNo X0.here hexec rfl (hb hbytes d2) rfl rfl rfl (by simp [acmp, hxy]) ?_
      refine iconstV X0.here hexec rfl 1 (hb hbytes d5) (by decide) ?_
      exact Steps.refl _)
    subst hxy
    have ec : cd = cd' := by
      obtain ⟨D, fd, a1, a2, a3⟩ := hx.2.2.1
      obtain ⟨D', fd', b1, b2, b3⟩ := hy.2.2.1
      cases a1.symm.trans b1
      obtain ⟨q1, q2, q3, q4⟩ := a2.1
      obtain ⟨r1, r2, r3, r4⟩ := b2.1
      cases q4.symm.trans r4
      cases a3.symm.trans b3; rfl
    have et : t = t' := by
      obtain ⟨D, fd, a1, a2, a3⟩ := hx.2.1
      obtain ⟨D', fd', b1, b2, b3⟩ := hy.2.1
      cases a1.symm.trans b1
      obtain ⟨q1, q2, q3, q4⟩ := a2.1
      obtain ⟨r1, r2, r3, r4⟩ := b2.1
      cases q4.symm.trans r4
      cases a3.symm.trans b3; rfl
    subst ec et
    have ev : V = V' := by cases hx.2.2.2.1.1.symm.trans hy.2.2.2.1.1; rfl
    subst ev
    have hs : SameT n f k g := (Cod.eqv hx.2.2.2.2.1 hy.2.2.2.2.1 hx.2.2.2.2.2 hy.2.2.2.2.2).mp ⟨rfl, fun _ _ => rfl⟩
    exact ⟨s₁, some (.int 1), _, _, _, X0, rfl, rfl, rfl, (fun h => by cases h), ⟨1, rfl, hh0, Or.inl ⟨rfl, hs⟩⟩, fun fs hl => c2.trans (X0.ireturnOut hexec hret rfl (Or.inr (Or.inl rfl)) (hb hbytes d6) hl)⟩
  · have c2 : Steps p.tables e below (s₁.setTop (entryFrame m #[.ref x, .ref y] 3)) (s₁.setTop (mkF m 8 #[.val (.ref x), .val (.ref y), .unset] [.ref y])) := c1.trans (by
      refine acmpYes X0.here hexec rfl (pc0 := 2) rfl (hb hbytes d2) rfl rfl rfl (by simp [acmp, hxy]) (by decide) rfl ?_
      refine XS.aloadN X0.here hexec rfl (hb hbytes d7) rfl rfl ?_
      exact Steps.refl _)
    obtain ⟨T3, X3, q3, st3⟩ := cinst X0 hexec hown (wk W (.classLink "java/lang/String" 10 "java/lang/String")) (hy.mv X0.warmed.alike hh0).1 (g := (mkF m 8 #[.val (.ref x), .val (.ref y), .unset] [.ref y])) rfl (rest := []) rfl (hb hbytes d8)
    have hh3 := q3.trans hh0
    have c4 : Steps p.tables e below (s₁.setTop (entryFrame m #[.ref x, .ref y] 3)) (T3.setTop (mkF m 15 #[.val (.ref x), .val (.ref y), .unset] [.ref y])) := (c2.trans (st3 _ (Steps.refl _))).trans (by
      refine XS.ifNo X3.here hexec rfl (hb hbytes d11) rfl (i0_eq_f (by decide)) ?_
      refine XS.aloadN X3.here hexec rfl (hb hbytes d14) rfl rfl ?_
      exact Steps.refl _)
    obtain ⟨T5, X5, q5, st5⟩ := cself X3 hexec hown (wk W (.classLink "java/lang/String" 10 "java/lang/String")) (hy.mv X3.warmed.alike hh3).1 (g := (mkF m 15 #[.val (.ref x), .val (.ref y), .unset] [.ref y])) rfl (rest := []) rfl (hb hbytes d15)
    have hh5 := q5.trans hh3
    have c6 : Steps p.tables e below (s₁.setTop (entryFrame m #[.ref x, .ref y] 3)) (T5.setTop (mkF m 19 #[.val (.ref x), .val (.ref y), .val (.ref y)] [])) := (c4.trans (st5 _ (Steps.refl _))).trans (by
      refine XS.astoreN X5.here hexec rfl (hb hbytes d18) rfl rfl rfl ?_
      exact Steps.refl _)
    obtain ⟨T7, X7, q7, st7⟩ := X5.sget hexec hown (wk W (.fieldLink "java/lang/String" 38 "java/lang/String" "COMPACT_STRINGS" "Z")) s1 (fun _ _ h => by rw [hh5]; exact h) (g := (mkF m 19 #[.val (.ref x), .val (.ref y), .val (.ref y)] [])) rfl (hb hbytes d19)
    have hh7 := q7.trans hh5
    have c8 : Steps p.tables e below (s₁.setTop (entryFrame m #[.ref x, .ref y] 3)) (T7.setTop (mkF m 26 #[.val (.ref x), .val (.ref y), .val (.ref y)] [.ref x])) := (c6.trans (st7 _ (Steps.refl _))).trans (by
      refine XS.ifNo X7.here hexec rfl (hb hbytes d22) rfl (i0_eq_f hz) ?_
      refine XS.aloadN X7.here hexec rfl (hb hbytes d25) rfl rfl ?_
      exact Steps.refl _)
    obtain ⟨T9, X9, q9, st9⟩ := X7.hget hexec hown (wk W (.fieldLink "java/lang/String" 15 "java/lang/String" "coder" "B")) (hx.mv X7.warmed.alike hh7).2.2.1 (g := (mkF m 26 #[.val (.ref x), .val (.ref y), .val (.ref y)] [.ref x])) rfl (rest := []) rfl (hb hbytes d26)
    have hh9 := q9.trans hh7
    have c10 : Steps p.tables e below (s₁.setTop (entryFrame m #[.ref x, .ref y] 3)) (T9.setTop (mkF m 30 #[.val (.ref x), .val (.ref y), .val (.ref y)] [.ref y, .int cd])) := (c8.trans (st9 _ (Steps.refl _))).trans (by
      refine XS.aloadN X9.here hexec rfl (hb hbytes d29) rfl rfl ?_
      exact Steps.refl _)
    obtain ⟨T11, X11, q11, st11⟩ := X9.hget hexec hown (wk W (.fieldLink "java/lang/String" 15 "java/lang/String" "coder" "B")) (hy.mv X9.warmed.alike hh9).2.2.1 (g := (mkF m 30 #[.val (.ref x), .val (.ref y), .val (.ref y)] [.ref y, .int cd])) rfl (rest := [.int cd]) rfl (hb hbytes d30)
    have hh11 := q11.trans hh9
    have c12 : Steps p.tables e below (s₁.setTop (entryFrame m #[.ref x, .ref y] 3)) (T11.setTop (mkF m 33 #[.val (.ref x), .val (.ref y), .val (.ref y)] [.int cd', .int cd])) := c10.trans (st11 _ (Steps.refl _))
    by_cases hcd : cd = cd'
    · subst hcd
      have c13 : Steps p.tables e below (s₁.setTop (entryFrame m #[.ref x, .ref y] 3)) (T11.setTop (mkF m 37 #[.val (.ref x), .val (.ref y), .val (.ref y)] [.ref x])) := c12.trans (by
        refine XS.icmpNo X11.here hexec rfl (hb hbytes d33) rfl (ii_ne_f rfl) ?_
        refine XS.aloadN X11.here hexec rfl (hb hbytes d36) rfl rfl ?_
        exact Steps.refl _)
      obtain ⟨T14, X14, q14, st14⟩ := X11.hget hexec hown (wk W (.fieldLink "java/lang/String" 9 "java/lang/String" "value" "[B")) (hx.mv X11.warmed.alike hh11).2.1 (g := (mkF m 37 #[.val (.ref x), .val (.ref y), .val (.ref y)] [.ref x])) rfl (rest := []) rfl (hb hbytes d37)
      have hh14 := q14.trans hh11
      have c15 : Steps p.tables e below (s₁.setTop (entryFrame m #[.ref x, .ref y] 3)) (T14.setTop (mkF m 41 #[.val (.ref x), .val (.ref y), .val (.ref y)] [.ref y, .ref t])) := (c13.trans (st14 _ (Steps.refl _))).trans (by
        refine XS.aloadN X14.here hexec rfl (hb hbytes d40) rfl rfl ?_
        exact Steps.refl _)
      obtain ⟨T16, X16, q16, st16⟩ := X14.hget hexec hown (wk W (.fieldLink "java/lang/String" 9 "java/lang/String" "value" "[B")) (hy.mv X14.warmed.alike hh14).2.1 (g := (mkF m 41 #[.val (.ref x), .val (.ref y), .val (.ref y)] [.ref y, .ref t])) rfl (rest := [.ref t]) rfl (hb hbytes d41)
      have hh16 := q16.trans hh14
      have c17 : Steps p.tables e below (s₁.setTop (entryFrame m #[.ref x, .ref y] 3)) (T16.setTop (mkF m 44 #[.val (.ref x), .val (.ref y), .val (.ref y)] [.ref t', .ref t])) := c15.trans (st16 _ (Steps.refl _))
      obtain ⟨v18, T18, X18, E18, g18⟩ := X16.callS hexec (LEq.law l t V t' V') hown (wks W (staticW "java/lang/String" 541 LEq.yN)) (wk W LEq.tab) (W := 0) (Nat.le_of_ble_eq_true rfl) (Nat.le_of_ble_eq_true rfl) (Nat.le_refl _) (Nat.le_refl _) (g := (mkF m 44 #[.val (.ref x), .val (.ref y), .val (.ref y)] [.ref t', .ref t])) rfl (by rw [hml]; rfl) c17 (argsL := [.ref t, .ref t']) (rest := []) rfl rfl (by show 2 * 0 + 0 ≤ _; decide) (hb hbytes d44) (⟨rfl, hx.2.2.2.1.mv X16.warmed.alike hh16, hx.2.2.2.2.1.ty, hy.2.2.2.1.mv X16.warmed.alike hh16, hy.2.2.2.2.1.ty⟩)
      obtain ⟨v, rfl, q18, hv⟩ := E18
      have iff := Cod.eqv hx.2.2.2.2.1 hy.2.2.2.2.1 hx.2.2.2.2.2 hy.2.2.2.2.2
      rcases hv with ⟨rfl, he⟩ | ⟨rfl, he⟩
      · have c19 : Steps p.tables e below (s₁.setTop (entryFrame m #[.ref x, .ref y] 3)) (T18.setTop (mkF m 55 #[.val (.ref x), .val (.ref y), .val (.ref y)] [.int 1])) := Steps.trans g18 (by
          refine XS.ifNo X18.here hexec rfl (hb hbytes d47) rfl (i0_eq_f (by decide)) ?_
          refine iconstV X18.here hexec rfl 1 (hb hbytes d50) (by decide) ?_
          refine XS.goto X18.here hexec rfl (pc0 := 51) rfl (hb hbytes d51) (by decide) rfl ?_
          exact Steps.refl _)
        exact ⟨T18, some (.int 1), _, _, _, X18, rfl, rfl, rfl, (fun h => by cases h), ⟨1, rfl, q18.trans hh16, Or.inl ⟨rfl, iff.mp he⟩⟩, fun fs hl => c19.trans (X18.ireturnOut hexec hret rfl (Or.inr (Or.inl rfl)) (hb hbytes d55) hl)⟩
      · have c19 : Steps p.tables e below (s₁.setTop (entryFrame m #[.ref x, .ref y] 3)) (T18.setTop (mkF m 55 #[.val (.ref x), .val (.ref y), .val (.ref y)] [.int 0])) := Steps.trans g18 (by
          refine XS.ifYes X18.here hexec rfl (pc0 := 47) rfl (hb hbytes d47) rfl (i0_eq_t rfl) (by decide) rfl ?_
          refine iconstV X18.here hexec rfl 0 (hb hbytes d54) (by decide) ?_
          exact Steps.refl _)
        exact ⟨T18, some (.int 0), _, _, _, X18, rfl, rfl, rfl, (fun h => by cases h), ⟨0, rfl, q18.trans hh16, Or.inr ⟨rfl, fun q => he (iff.mpr q)⟩⟩, fun fs hl => c19.trans (X18.ireturnOut hexec hret rfl (Or.inr (Or.inl rfl)) (hb hbytes d55) hl)⟩
    · have c13 : Steps p.tables e below (s₁.setTop (entryFrame m #[.ref x, .ref y] 3)) (T11.setTop (mkF m 55 #[.val (.ref x), .val (.ref y), .val (.ref y)] [.int 0])) := c12.trans (by
        refine XS.icmpYes X11.here hexec rfl (pc0 := 33) rfl (hb hbytes d33) rfl (ii_ne_t hcd) (by decide) rfl ?_
        refine iconstV X11.here hexec rfl 0 (hb hbytes d54) (by decide) ?_
        exact Steps.refl _)
      exact ⟨T11, some (.int 0), _, _, _, X11, rfl, rfl, rfl, (fun h => by cases h), ⟨0, rfl, hh11, Or.inr ⟨rfl, Cod.dif hx.2.2.2.2.1 hy.2.2.2.2.1 hcd⟩⟩, fun fs hl => c13.trans (X11.ireturnOut hexec hret rfl (Or.inr (Or.inl rfl)) (hb hbytes d55) hl)⟩
theorem pays {l : Launch} {R : Room} {p : Program} {e : Env} {below : List Frame} {s : State} {sargs : Array Value} {len W : Nat} (x t : Addr) (V : Cell) (cd : Int32) (n : Nat) (f : Nat → Int32) (y t' : Addr) (V' : Cell) (cd' : Int32) (k : Nat) (g : Nat → Int32) (z : Int32) (htab : tab.before sargs s = true) (hfr : 2 ≤ R.frames) (hlo : W + 28 ≤ R.locals) :
    Back l R p e below s sargs yN len W (fun A₁ a₁ => A₁.cells + 0 ≤ R.cells ∧ A₁.slots + 0 ≤ R.slots ∧ P x t V cd n f y t' V' cd' k g z a₁ A₁.U) (fun A₁ _ v₁ B₁ => Says01 (SameT n f k g) v₁ A₁.U B₁.U ∧ B₁.locs = A₁.locs ++ [] ∧ B₁.cells = A₁.cells + 0 ∧ B₁.slots = A₁.slots + 0) :=
  (law l x t V cd n f y t' V' cd' k g z).pays htab hfr (by omega)
end SEq
end StrChars
namespace StrChars.Road
open Jvm Sem ClassFile Op Lib Jvm.Stand Jvm.Free Jvm.Free.XT
open Jvm.Lib.Cold (StaticIs)
/-- the words of String.equals(Object) -/
abbrev wordsEq : List Jvm.Cond := [.code SEq.yN SEq.yB 3 (some .boolean), .initialized ST, .classLink ST 10 ST, .fieldLink ST 38 ST "COMPACT_STRINGS" "Z", .fieldLink ST 15 ST "coder" "B", .fieldLink ST 9 ST "value" "[B", .methodLink ST 541 LEq.yN, .static LEq.yN, .code LEq.yN LEq.yB 3 (some .boolean), .initialized "java/lang/StringLatin1"]
theorem tabEq_of {a : Array Value} {s : State} (h : ∀ w ∈ wordsEq, w.before a s = true) : SEq.tab.before a s = true := by
  have hl : LEq.tab.before a s = true := unparts (wk h (.code LEq.yN LEq.yB 3 (some .boolean))) (wks h (.initialized LEq.yN.cls :: LEq.site))
  have q := consq hl h
  exact unparts (wk q (.code SEq.yN SEq.yB 3 (some .boolean))) (wks q (.initialized SEq.yN.cls :: SEq.site))
theorem movedEq {Z s : State} {a0 args : Array Value} (hZ : Z.Warmed39 s.vm) (hw : ∀ d ∈ wordsEq, d.before a0 Z = true) : ∀ d ∈ wordsEq, d.before args s = true := fun d hd => by
  have t : ∀ d ∈ wordsEq, (d.onTables && d.keepsFace) = true := by decide +kernel
  exact RoadKit.mv hZ (hw d hd) (t d hd)
/-- the road's facts of a String, as the laws ask it -/
theorem txt_of {Z U : State} {a0 : Array Value} {kI : Nat} (wi : (Jvm.Cond.instantiable ST kI).before a0 Z = true) (al : Z.vm.Alike U.vm) {x t : Addr} {kb : ClassId} {cs : List Int32} {cd N2 : Int32} {vs : List Value} (E : RoadKit.Exa Z U.heap x ST) (V : RoadKit.Fld Z U.heap x ST "value" "[B" (.ref t)) (C : RoadKit.Fld Z U.heap x ST "coder" "B" (.int cd)) (K : RoadKit.Arv Z U.heap t kb .byte N2 vs (.int 0)) (hc : CodA cs cd N2 vs) (hb : ∀ c ∈ cs, ¬ c < 0 ∧ ¬ (65535 : Int32) < c) (l2 : cs.length ≤ 4000) :
    ∃ A, Txt x t A cd cs.length (fun j => cs.getD j 0) U := by
  obtain ⟨A, K1, K2, K3, K4, K5, K6⟩ := K
  have hcod := hc.cod (by omega) K3 K5
  obtain ⟨D, fV, fC, hB, F1, F2, g1, g2, -, -⟩ := strObj wi al E V C
  exact ⟨A, ⟨_, hB.2.2.1, D, hB.1, rfl, by cases q : D.vm <;> first | rfl | exact absurd q (hB.2.1.2 _)⟩, Has.of hB F1 g1, Has.of hB F2 g2, ⟨K1.1, State.isArrayOf_alike al K1.2.1, K1.2.2, by rcases hcod with ⟨-, q, -⟩ | ⟨-, q, -⟩ <;> omega⟩, hcod, fun j hj => by
    have e : cs.getD j 0 = cs[j] := by simp [List.getD_eq_getElem?_getD, hj]
    show ¬ cs.getD j 0 < 0 ∧ ¬ 65535 < cs.getD j 0
    rw [e]; exact hb _ (List.getElem_mem _)⟩
theorem same_list (cs ds : List Int32) : SameT cs.length (fun j => cs.getD j 0) ds.length (fun j => ds.getD j 0) ↔ cs = ds := by
  constructor
  · rintro ⟨e, q⟩
    refine List.ext_getElem e fun j h1 h2 => ?_
    have := q j h1
    simpa [List.getD_eq_getElem?_getD, h1, h2] using this
  · rintro rfl
    exact ⟨rfl, fun _ _ => rfl⟩
/-- **equals(Object) OF TWO SUCH STRINGS**: 1 just where the chars are the same -/
theorem eqW {p : Program} {l : Launch} {e : Env} {R : Room} {s : State} {args : Array Value} {below : List Frame} {len W : Nat} {Z : State} {a0 : Array Value} {h : Heap} (hZ : Z.Warmed39 s.vm) (hw : ∀ d ∈ wordsEq, d.before a0 Z = true) {kI : Nat} (wi : (Jvm.Cond.instantiable ST kI).before a0 Z = true)
    {x t : Addr} {kb : ClassId} {cs : List Int32} {cd N2 : Int32} {vs : List Value} (E : RoadKit.Exa Z h x ST) (V : RoadKit.Fld Z h x ST "value" "[B" (.ref t)) (C : RoadKit.Fld Z h x ST "coder" "B" (.int cd)) (K : RoadKit.Arv Z h t kb .byte N2 vs (.int 0)) (hc : CodA cs cd N2 vs) (hb : ∀ c ∈ cs, ¬ c < 0 ∧ ¬ (65535 : Int32) < c) (l2 : cs.length ≤ 4000)
    {y t' : Addr} {kb' : ClassId} {ds : List Int32} {cd' N2' : Int32} {vs' : List Value} (E' : RoadKit.Exa Z h y ST) (V' : RoadKit.Fld Z h y ST "value" "[B" (.ref t')) (C' : RoadKit.Fld Z h y ST "coder" "B" (.int cd')) (K' : RoadKit.Arv Z h t' kb' .byte N2' vs' (.int 0)) (hc' : CodA ds cd' N2' vs') (hb' : ∀ c ∈ ds, ¬ c < 0 ∧ ¬ (65535 : Int32) < c) (l2' : ds.length ≤ 4000)
    {z : Int32} (S : RoadKit.Sta Z h ST "COMPACT_STRINGS" "Z" (.int z)) (hz : ¬ z = 0) (hfr : 2 ≤ R.frames) (hlo : W + 28 ≤ R.locals) :
    Back l R p e below s args (⟨"java/lang/String", "equals", "(Ljava/lang/Object;)Z"⟩ : MethodName) len W (fun P a => a = #[.ref x, .ref y] ∧ P.U.heap = h ∧ P.cells + 0 ≤ R.cells ∧ P.slots + 0 ≤ R.slots)
      (fun P _ v B => ∃ L, (((v = some (.int 1) ∧ cs = ds) ∨ (v = some (.int 0) ∧ ¬ cs = ds)) ∧ L = [] ∧ B.U.heap = h) ∧ B.locs = P.locs ++ L ∧ B.cells = P.cells + 0 ∧ B.slots = P.slots + 0) := by
  intro m meth c P g ig mk a X hg hsize hdg hW hn hp'
  obtain ⟨rfl, rfl, r1, r2⟩ := hp'
  have al : Z.vm.Alike P.U.vm := hZ.alike.trans X.warmed.alike
  obtain ⟨A, hx⟩ := txt_of wi al E V C K hc hb l2
  obtain ⟨A', hy⟩ := txt_of wi al E' V' C' K' hc' hb' l2'
  obtain ⟨v, B, X', ⟨⟨w, hv, hh, hq⟩, hl, hk, hs⟩, st⟩ := SEq.pays x t A cd cs.length (fun j => cs.getD j 0) y t' A' cd' ds.length (fun j => ds.getD j 0) z (tabEq_of (movedEq hZ hw)) hfr hlo m meth c P g ig mk _ X hg hsize hdg hW hn ⟨r1, r2, rfl, hx, hy, sta_is al S, hz⟩
  refine ⟨v, B, X', ⟨[], ⟨?_, rfl, hh⟩, hl, hk, hs⟩, st⟩
  rcases hq with ⟨rfl, q⟩ | ⟨rfl, q⟩
  · exact Or.inl ⟨hv, (same_list cs ds).mp q⟩
  · exact Or.inr ⟨hv, fun e => q ((same_list cs ds).mpr e)⟩
end StrChars.Road
namespace StrChars.Road
open Jvm Sem ClassFile Op Lib Jvm.Stand Jvm.Free Jvm.Free.XT
open Jvm.Lib.Cold (StaticIs)
/-- what backV says of its String, as the contracts of this text ask it: cs's low bytes, coder 0 -/
theorem codOf {cs : List Int32} {n : Nat} (hn : cs.length = n) (hb : ∀ c ∈ cs, ¬ 255 < c) : CodA cs 0 (Int32.ofNat n) ((cs.map lo8).map Value.int) := Or.inl ⟨rfl, by rw [hn], by simp [List.map_map, Function.comp_def], hb⟩
end StrChars.Road
end Jvm.Pilot.@@N@@
namespace Jvm.Pilot.@@N@@
open Jvm Jvm.ClassFile Sem Op Lib Jvm.Free Jvm.Stand Jvm.LawKit Jvm.RoadKit Bundle Jvm.Pilot.@@N@@.Jvm.D
section OwnKit
variable {p : Program} {l : Launch} {e : Env} {R : Room} {s : State} {m : MethodId} {args : Array Value} {below : List Frame} {meth : Method} {c : Code} {T T' : State} {Z : State} {a0 : Array Value} {h h' h2 : Heap} {k n k' n' : Nat} {Φ : Outcome → State → Prop} {Q : Option Value → Heap → Prop}
theorem nle {a b : Nat} (h : Nat.ble a b = true) : a ≤ b := Nat.le_of_ble_eq_true h
/-- from here the run returns, and what it leaves is as Φ says -/
def Ends (p : Program) (e : Env) (below : List Frame) (Φ : Outcome → State → Prop) (T : State) (f : JFrame) : Prop :=
  ∃ s₂ o, Steps p.tables e below (T.setTop f) s₂ ∧ s₂.status = .running ∧ Ended s₂ below o ∧ Φ o s₂
theorem Ends.go {f f' : JFrame} (st : ∀ t, Steps p.tables e below (T'.setTop f') t → Steps p.tables e below (T.setTop f) t) (K : Ends p e below Φ T' f') : Ends p e below Φ T f := by
  obtain ⟨s₂, o, h1, h2⟩ := K; exact ⟨s₂, o, st _ h1, h2⟩
theorem Ends.mono {f : JFrame} {Ψ : Outcome → State → Prop} (K : Ends p e below Φ T f) (q : ∀ o u, Φ o u → Ψ o u) : Ends p e below Ψ T f := by
  obtain ⟨s₂, o, h1, h2, h3, h4⟩ := K; exact ⟨s₂, o, h1, h2, h3, q _ _ h4⟩
/-- where a walk stands -/
def Now (p : Program) (l : Launch) (e : Env) (R : Room) (s : State) (m : MethodId) (args : Array Value) (below : List Frame) (meth : Method) (c : Code) (Z : State) (T : State) (h : Heap) (k n : Nat) : Prop :=
  ∃ locs, Stand p l e R s m args below meth c T locs k n ∧ T.heap = h ∧ Fr Z.heap.size locs ∧ Ext Z.heap s.heap
theorem Now.here (N : Now p l e R s m args below meth c Z T h k n) : At T m c below := by obtain ⟨_, X, _⟩ := N; exact X.here
theorem Now.ext (N : Now p l e R s m args below meth c Z T h k n) : Ext Z.heap h := by
  obtain ⟨L, X, eT, F, q⟩ := N
  obtain ⟨-, h1, -, -, -, h2⟩ := X.same
  have h1 : s.heap.size ≤ T.heap.size := h1
  subst eT
  refine ⟨Nat.le_trans q.1 h1, fun a cl hc => ?_⟩
  have hlt : a < Z.heap.size := (Array.getElem?_eq_some_iff.mp hc).1
  obtain ⟨c', e1, e2, e3, e4⟩ := h2 a cl (q.2 a cl hc)
  have e5 : c'.slots = cl.slots := Array.ext_getElem? fun i => e4 i fun hm => absurd hlt (Nat.not_lt.mpr (F _ hm))
  have e6 : c' = cl := by rw [e2, e5]
  rw [← e6]; exact e1
theorem Now.le (N : Now p l e R s m args below meth c Z T h k n) : Z.heap.size ≤ h.size := N.ext.1
theorem Now.le0 (N : Now p l e R s m args below meth c Z T h k n) : s.heap.size ≤ h.size := by
  obtain ⟨_, X, eT, _, q⟩ := N
  have r : s.heap.size ≤ T.heap.size := X.same.2.1
  rw [eT] at r; exact r
theorem Now.mono (N : Now p l e R s m args below meth c Z T h k n) (hk : k ≤ k') (hn : n ≤ n') : Now p l e R s m args below meth c Z T h k' n' := by
  obtain ⟨L, X, r⟩ := N; exact ⟨L, X.more hk hn, r⟩
/-- what a narrow contract promises -/
def PhiN (Z s : State) (Q : Option Value → Heap → Prop) (K N : Nat) : Outcome → State → Prop := fun o u => ∃ v L, o = .returned v ∧ (Q v u.heap ∧ Fr Z.heap.size L) ∧ FrameEnd s o u L K N
def MetN (l : Launch) (Z : State) (y : MethodName) (bytes : ByteArray) (maxL : Nat) (ret : Option FieldType) (ws : List Jvm.Cond) (rm : Room) (as' : Array Value) (h : Heap) (Q : Option Value → Heap → Prop) : Prop :=
  MetFree l y (head1 (Jvm.Cond.code y bytes maxL ret :: ws) rm) (fun a U => a = as' ∧ Z.Warmed39 U.vm ∧ U.heap = h) (fun _ _ _ _ _ => True) (fun _ U o U' => ∃ v L, o = .returned v ∧ (Q v U'.heap ∧ Fr Z.heap.size L) ∧ FrameEnd U o U' L rm.cells rm.slots)
theorem metN {y : MethodName} {bytes : ByteArray} {maxL : Nat} {ret : Option FieldType} {ws : List Jvm.Cond} {rm : Room} {as' : Array Value} {Ls : Array Slot} (hpl : plainFor y = true) (hn0 : Ext Z.heap h) (ef : ∀ m, entryFrame m as' maxL = mkF m 0 Ls [])
    (walk : ∀ (p : Program) (e : Env) (s : State) (m : MethodId) (below : List Frame) (meth : Method) (c : Code) (T : State), p.tables.exec = Jvm.exec → c.code = bytes → c.maxLocals = maxL → meth.sig.returnType = ret → meth.locks = false → s.vm.findClass y.cls = some m.cls → meth.name = y.name → Z.Warmed39 s.vm →
      Now p l e rm s m as' below meth c Z T h 0 0 → Ends p e below (PhiN Z s Q rm.cells rm.slots) T (mkF m 0 Ls [])) : MetN l Z y bytes maxL ret ws rm as' h Q := by
  refine MetFree.of_bodySF hpl hisR ?_
  intro p e s m args below meth c s₁ Bd hml0 hP hK
  obtain ⟨rfl, hZ, hh⟩ := hP
  have e0 : s₁.heap = h := by rw [← hh, Bd.state]; rfl
  have W := walk p e s m below meth c s₁ Bd.exec Bd.bytes hml0 Bd.returns Bd.notSynchronized (findClass_of_methodNamed Bd.named) (name_of_methodNamed Bd.named Bd.method).1 hZ ⟨[], Stand.of_body Bd, e0, Fr.nil _, hh ▸ hn0⟩
  rw [← ef] at W
  exact W
/-- the end of a narrow walk -/
theorem endN {v : Option Value} {f : JFrame} {K M : Nat} (N : Now p l e R s m args below meth c Z T h k n) (hlocks : meth.locks = false) (hv : meth.sig.returnType = none → v = none)
    (st : ∀ (locs : List Loc), Stand p l e R s m args below meth c T locs k n → ∀ fs, (∀ (f : JFrame) (acts : List Action), f.method = m → f.locked = none → f.entered = [] → (doReturn e (T.setTop f) acts v).1 = T.setFrames fs) → Steps p.tables e below (T.setTop f) (T.setFrames fs)) (hQ : Q v h) (hk : k ≤ K) (hn : n ≤ M) :
    Ends p e below (PhiN Z s Q K M) T f := by
  obtain ⟨L, X, eT, F, _⟩ := N
  obtain ⟨fs, hr, hrun, hended, hW, hsame⟩ := X.leave hv hlocks
  refine ⟨_, _, st L X fs hr, hrun, hended, _, L, rfl, ⟨?_, F⟩, ⟨_, rfl⟩, hW, hsame.mono hk hn⟩
  show Q v T.heap
  rw [eT]; exact hQ
section Ret
variable {pc : Nat} {Ls : Array Slot} {rest : List Value} {K M : Nat}
theorem retI {z : Int32} (N : Now p l e R s m args below meth c Z T h k n) (hx : p.tables.exec = Jvm.exec) (hlocks : meth.locks = false) (hret : meth.sig.returnType = some .int) (hd : decode c.code pc = .ok (.ireturn, 1)) (hQ : Q (some (.int z)) h) (hk : k ≤ K) (hn : n ≤ M) :
    Ends p e below (PhiN Z s Q K M) T (mkF m pc Ls (.int z :: rest)) :=
  endN N hlocks (fun q => by rw [hret] at q; cases q) (fun L X fs hr => retOut X hx hret rfl (Or.inl ⟨rfl, Or.inl rfl, z, rfl⟩) hd hr) hQ hk hn
theorem retJ {z : Int64} (N : Now p l e R s m args below meth c Z T h k n) (hx : p.tables.exec = Jvm.exec) (hlocks : meth.locks = false) (hret : meth.sig.returnType = some .long) (hd : decode c.code pc = .ok (.lreturn, 1)) (hQ : Q (some (.long z)) h) (hk : k ≤ K) (hn : n ≤ M) :
    Ends p e below (PhiN Z s Q K M) T (mkF m pc Ls (.long z :: rest)) :=
  endN N hlocks (fun q => by rw [hret] at q; cases q) (fun L X fs hr => retOut X hx hret rfl (Or.inr (Or.inl ⟨rfl, rfl, z, rfl⟩)) hd hr) hQ hk hn
theorem retA {v : Value} {t : FieldType} (N : Now p l e R s m args below meth c Z T h k n) (hx : p.tables.exec = Jvm.exec) (hlocks : meth.locks = false) (hret : meth.sig.returnType = some t) (ht : t.isReference = true) (hv : v.isRef = true) (hd : decode c.code pc = .ok (.areturn, 1)) (hQ : Q (some v) h) (hk : k ≤ K) (hn : n ≤ M) :
    Ends p e below (PhiN Z s Q K M) T (mkF m pc Ls (v :: rest)) :=
  endN N hlocks (fun q => by rw [hret] at q; cases q) (fun L X fs hr => retOut X hx hret (by cases v <;> first | (cases hv; done) | (cases t <;> first | (cases ht; done) | rfl)) (Or.inr (Or.inr (Or.inr (Or.inr ⟨rfl, ht, hv⟩)))) hd hr) hQ hk hn
theorem retZ {z : Int32} {t : FieldType} (N : Now p l e R s m args below meth c Z T h k n) (hx : p.tables.exec = Jvm.exec) (hlocks : meth.locks = false) (hret : meth.sig.returnType = some t) (ht : t = .boolean ∨ t = .byte ∨ t = .char ∨ t = .short) (hd : decode c.code pc = .ok (.ireturn, 1)) (hQ : Q (some (.int (nar t z))) h) (hk : k ≤ K) (hn : n ≤ M) :
    Ends p e below (PhiN Z s Q K M) T (mkF m pc Ls (.int z :: rest)) :=
  endN N hlocks (fun q => by rw [hret] at q; cases q) (fun L X fs hr => retN X hx hret ht hd hr) hQ hk hn
theorem retV (N : Now p l e R s m args below meth c Z T h k n) (hx : p.tables.exec = Jvm.exec) (hlocks : meth.locks = false) (hret : meth.sig.returnType = none) (hd : decode c.code pc = .ok (.return_, 1)) (hQ : Q none h) (hk : k ≤ K) (hn : n ≤ M) :
    Ends p e below (PhiN Z s Q K M) T (mkF m pc Ls []) :=
  endN N hlocks (fun _ => rfl) (fun L X fs hr => X.returnOut hx hret hd hr) hQ hk hn
end Ret
section Heap
variable {pc : Nat} {Ls : Array Slot} {st rest : List Value}
theorem gIrem {x y : Int32} {t : State} (N : Now p l e R s m args below meth c Z T h k n) (hx : p.tables.exec = Jvm.exec) (hd : decode c.code pc = .ok (.irem, 1)) (hy : y ≠ 0)
    (q : Steps p.tables e below (T.setTop (mkF m (pc + 1) Ls (.int (x % y) :: rest))) t) : Steps p.tables e below (T.setTop (mkF m pc Ls (.int y :: .int x :: rest))) t := by
  obtain ⟨L, X, _⟩ := N
  exact iremM X hx (g := mkF m pc Ls (.int y :: .int x :: rest)) rfl hd rfl hy q
/-- new C -/
theorem gNew {own C : String} {index q : Nat} (N : Now p l e R s m args below meth c Z T h k n) (hx : p.tables.exec = Jvm.exec) (hZ : Z.Warmed39 s.vm) (hown : s.vm.findClass own = some m.cls)
    (w : (Jvm.Cond.classLink own index C).before a0 Z = true) (wi : (Jvm.Cond.instantiable C q).before a0 Z = true) (wz : (Jvm.Cond.initialized C).before a0 Z = true) (hd : decode c.code pc = .ok (.new index, 3)) (hc : k + 1 ≤ R.cells) (hl : n + q ≤ R.slots)
    (K : ∀ T' h' a, a = h.size → Now p l e R s m args below meth c Z T' h' (k + 1) (n + q) → Ext h h' → Exa Z h' a C → (∀ {O nm d : String} {ty : FieldType}, Laid Z a0 C O nm d → parseFieldDescriptor d = some ty → Fld Z h' a O nm d (defaultValue ty)) → Ends p e below Φ T' (mkF m (pc + 3) Ls (.ref a :: st))) :
    Ends p e below Φ T (mkF m pc Ls st) := by
  obtain ⟨L, X, eT, F, hn0⟩ := N
  obtain ⟨T1, h1, X1, e1, E1, A1, D1, -, st1⟩ := newO X hx hZ hown w wi wz eT (g := mkF m pc Ls st) rfl hd hc hl
  exact Ends.go st1 (K T1 h1 h.size rfl ⟨L, X1, e1, F, hn0⟩ E1 A1 D1)
/-- newarray -/
theorem gArr {aty : ArrayType} {z : Int32} (cap : Nat) (N : Now p l e R s m args below meth c Z T h k n) (hx : p.tables.exec = Jvm.exec) (hZ : Z.Warmed39 s.vm) (w : (Jvm.Cond.arrayClass (newarray.typeOf aty)).before a0 Z = true) (hd : decode c.code pc = .ok (.newarray aty, 2)) (hz : ¬ z < 0)
    (hcap : z.toNatClampNeg ≤ cap) (hb : cap * 8 ≤ 536870912) (hc : k + 1 ≤ R.cells) (hl : n + cap ≤ R.slots)
    (K : ∀ T' h' a kA, a = h.size → Now p l e R s m args below meth c Z T' h' (k + 1) (n + cap) → Ext h h' → Arv Z h' a kA (newarray.typeOf aty) z [] (defaultValue (newarray.typeOf aty)) → Ends p e below Φ T' (mkF m (pc + 2) Ls (.ref a :: rest))) :
    Ends p e below Φ T (mkF m pc Ls (.int z :: rest)) := by
  obtain ⟨L, X, eT, F, hn0⟩ := N
  obtain ⟨T1, h1, kA, X1, e1, E1, A1, st1⟩ := newP X hx hZ w eT (g := mkF m pc Ls (.int z :: rest)) rfl hd rfl hz hcap hb hc hl
  exact Ends.go st1 (K T1 h1 h.size kA rfl ⟨L, X1, e1, F, hn0⟩ E1 (Arv.new A1 hz))
/-- castore into a known array -/
theorem gStC {a : Addr} {kA : ClassId} {z j x : Int32} {vs : List Value} {d : Value} (i : Nat) (N : Now p l e R s m args below meth c Z T h k n) (hx : p.tables.exec = Jvm.exec) (hZ : Z.Warmed39 s.vm) (V : Arv Z h a kA .char z vs d) (ha : Z.heap.size ≤ a) (hj : ¬ j < 0 ∧ j < z) (hi : j.toNatClampNeg = i) (hil : i < vs.length) (hd : decode c.code pc = .ok (.castore, 1))
    (K : ∀ T' h', Now p l e R s m args below meth c Z T' h' k n → Wr h h' a j.toNatClampNeg (.int (nar .char x)) → Arv Z h' a kA .char z (vs.set i (.int (nar .char x))) d → Ends p e below Φ T' (mkF m (pc + 1) Ls rest)) :
    Ends p e below Φ T (mkF m pc Ls (.int x :: .int j :: .ref a :: rest)) := by
  obtain ⟨L, X, eT, F, hn0⟩ := N
  obtain ⟨cl, A, q, S, M, H, U⟩ := V
  obtain ⟨T1, h1, X1, e1, W1, st1⟩ := stC X hx hZ eT A (j := j) (x := x) (inb_of S hj) (g := mkF m pc Ls (.int x :: .int j :: .ref a :: rest)) rfl rfl hd
  exact Ends.go st1 (K T1 h1 ⟨_, X1, e1, Fr.snoc X1 F ha, hn0⟩ W1 (Arv.set A q S M H U (fits_nar_char _) W1 i hi hil))
/-- getfield -/
theorem gGet {own R0 O nm d host : String} {index : Nat} {a : Addr} {v : Value} (N : Now p l e R s m args below meth c Z T h k n) (hx : p.tables.exec = Jvm.exec) (hZ : Z.Warmed39 s.vm) (hown : s.vm.findClass own = some m.cls)
    (w : (Jvm.Cond.fieldLink own index R0 nm d).before a0 Z = true ∨ (Jvm.Cond.fieldLinkNest own index R0 nm d host).before a0 Z = true) (via : Via Z R0 O nm d) (Fv : Fld Z h a O nm d v) (hd : decode c.code pc = .ok (.getfield index, 3))
    (K : ∀ T', Now p l e R s m args below meth c Z T' h k n → Ends p e below Φ T' (mkF m (pc + 3) Ls (v :: rest))) :
    Ends p e below Φ T (mkF m pc Ls (.ref a :: rest)) := by
  obtain ⟨L, X, eT, F, hn0⟩ := N
  obtain ⟨T1, X1, e1, st1⟩ := getF X hx hZ hown w via eT Fv (g := mkF m pc Ls (.ref a :: rest)) rfl rfl hd
  exact Ends.go st1 (K T1 ⟨_, X1, e1, F, hn0⟩)
/-- putfield -/
theorem gPut {own R0 O nm d host C : String} {index kk : Nat} {ty : FieldType} {a : Addr} {v old : Value} (N : Now p l e R s m args below meth c Z T h k n) (hx : p.tables.exec = Jvm.exec) (hZ : Z.Warmed39 s.vm) (hown : s.vm.findClass own = some m.cls)
    (w : (Jvm.Cond.fieldLink own index R0 nm d).before a0 Z = true ∨ (Jvm.Cond.fieldLinkNest own index R0 nm d host).before a0 Z = true) (via : Via Z R0 O nm d) (Fv : Fld Z h a O nm d old) (E : Exa Z h a C) (ha : Z.heap.size ≤ a)
    (L0 : (Jvm.Cond.lays C O nm d).before a0 Z = true ∨ ((Jvm.Cond.laysFinal C O nm d).before a0 Z = true ∧ own = O ∧ meth.name = "<init>")) (wi : (Jvm.Cond.instantiable C kk).before a0 Z = true) (hty : parseFieldDescriptor d = some ty) (hnr : narrow ty v = v) (hf : fits ty v = true) (hd : decode c.code pc = .ok (.putfield index, 3))
    (K : ∀ T' h', Now p l e R s m args below meth c Z T' h' k n → Wr h h' a (RoadKit.slotOf Z O nm d) v → Fld Z h' a O nm d v → Exa Z h' a C → Ends p e below Φ T' (mkF m (pc + 3) Ls rest)) :
    Ends p e below Φ T (mkF m pc Ls (v :: .ref a :: rest)) := by
  obtain ⟨L, X, eT, F, hn0⟩ := N
  obtain ⟨T1, h1, X1, e1, W1, st1⟩ := putF X hx hZ hown w via eT Fv E L0 wi hty hnr hf (g := mkF m pc Ls (v :: .ref a :: rest)) rfl rfl hd
  exact Ends.go st1 (K T1 h1 ⟨_, X1, e1, Fr.snoc X1 F ha, hn0⟩ W1 (Fv.same W1) (E.wr W1))
/-- getstatic -/
theorem gSta {own R0 O nm d : String} {index : Nat} {v : Value} (N : Now p l e R s m args below meth c Z T h k n) (hx : p.tables.exec = Jvm.exec) (hZ : Z.Warmed39 s.vm) (hown : s.vm.findClass own = some m.cls)
    (w : (Jvm.Cond.fieldLink own index R0 nm d).before a0 Z = true) (via : Via Z R0 O nm d) (Fv : Sta Z h O nm d v) (hd : decode c.code pc = .ok (.getstatic index, 3))
    (K : ∀ T', Now p l e R s m args below meth c Z T' h k n → Ends p e below Φ T' (mkF m (pc + 3) Ls (v :: st))) :
    Ends p e below Φ T (mkF m pc Ls st) := by
  obtain ⟨L, X, eT, F, hn0⟩ := N
  obtain ⟨T1, X1, e1, st1⟩ := getS (host := "") X hx hZ hown w via eT Fv (g := mkF m pc Ls st) rfl hd
  exact Ends.go st1 (K T1 ⟨_, X1, e1, F, hn0⟩)
/-- Object.<init> -/
theorem gInitO {own : String} {index : Nat} {a : Addr} (W : Nat) (N : Now p l e R s m args below meth c Z T h k n) (hx : p.tables.exec = Jvm.exec) (hZ : Z.Warmed39 s.vm) (hown : s.vm.findClass own = some m.cls)
    (w1 : (Jvm.Cond.methodLink own index Lib.objectInit).before a0 Z = true) (w2 : (Jvm.Cond.instanceMethod Lib.objectInit).before a0 Z = true) (w3 : (Jvm.Cond.code Lib.objectInit ⟨#[0xb1]⟩ 1 none).before a0 Z = true) (hd : decode c.code pc = .ok (.invokespecial index, 3)) (hsize : Ls.size = c.maxLocals) (hf : 1 ≤ R.frames) (hW : (rest.map fun v => v.category).sum ≤ W) (hl : W + 12 ≤ R.locals)
    (K : ∀ T', Now p l e R s m args below meth c Z T' h k n → Ends p e below Φ T' (mkF m (pc + 3) Ls rest)) :
    Ends p e below Φ T (mkF m pc Ls (.ref a :: rest)) := by
  obtain ⟨L, X, eT, F, hn0⟩ := N
  obtain ⟨T1, X1, e1, st1⟩ := initO X hx hZ hown w1 w2 w3 eT (g := mkF m pc Ls (.ref a :: rest)) rfl hsize rfl hd hf (W := W) (by show 2 * 0 + _ ≤ _; omega) hl
  exact Ends.go st1 (K T1 ⟨_, X1, e1, F, hn0⟩)
/-- ldc of an int -/
theorem gLdcI {own : String} {index : Nat} {v : Int32} (N : Now p l e R s m args below meth c Z T h k n) (hx : p.tables.exec = Jvm.exec) (hZ : Z.Warmed39 s.vm) (hown : s.vm.findClass own = some m.cls) (w : (Jvm.Cond.constant own index v).before a0 Z = true) (hd : decode c.code pc = .ok (.ldc index, 2))
    (K : Ends p e below Φ T (mkF m (pc + 2) Ls (.int v :: st))) : Ends p e below Φ T (mkF m pc Ls st) := by
  obtain ⟨L, X, eT, F, hn0⟩ := N
  exact Ends.go (fun t q => X.ldcI hx hown (mv hZ w) (g := mkF m pc Ls st) rfl hd q) K
theorem gLdcJ {own : String} {index : Nat} {v : Int64} (N : Now p l e R s m args below meth c Z T h k n) (hx : p.tables.exec = Jvm.exec) (hZ : Z.Warmed39 s.vm) (hown : s.vm.findClass own = some m.cls) (w : (Jvm.Cond.constantLong own index v).before a0 Z = true) (hd : decode c.code pc = .ok (.ldc2_w index, 3))
    (K : Ends p e below Φ T (mkF m (pc + 3) Ls (.long v :: st))) : Ends p e below Φ T (mkF m pc Ls st) := by
  obtain ⟨L, X, eT, F, hn0⟩ := N
  exact Ends.go (fun t q => X.ldc2J hx hown (mv hZ w) (g := mkF m pc Ls st) rfl hd q) K
theorem gLdcWI {own : String} {index : Nat} {v : Int32} (N : Now p l e R s m args below meth c Z T h k n) (hx : p.tables.exec = Jvm.exec) (hZ : Z.Warmed39 s.vm) (hown : s.vm.findClass own = some m.cls) (w : (Jvm.Cond.constant own index v).before a0 Z = true) (hd : decode c.code pc = .ok (.ldc_w index, 3))
    (K : Ends p e below Φ T (mkF m (pc + 3) Ls (.int v :: st))) : Ends p e below Φ T (mkF m pc Ls st) := by
  obtain ⟨L, X, eT, F, hn0⟩ := N
  exact Ends.go (fun t q => X.ldcWI hx hown (mv hZ w) (g := mkF m pc Ls st) rfl hd q) K
/-- lastore into a known array -/
theorem gStJ {a : Addr} {kA : ClassId} {z j : Int32} {x : Int64} {vs : List Value} {d : Value} (i : Nat) (N : Now p l e R s m args below meth c Z T h k n) (hx : p.tables.exec = Jvm.exec) (hZ : Z.Warmed39 s.vm) (V : Arv Z h a kA .long z vs d) (ha : Z.heap.size ≤ a) (hj : ¬ j < 0 ∧ j < z) (hi : j.toNatClampNeg = i) (hil : i < vs.length) (hd : decode c.code pc = .ok (.lastore, 1))
    (K : ∀ T' h', Now p l e R s m args below meth c Z T' h' k n → Wr h h' a j.toNatClampNeg (.long x) → Arv Z h' a kA .long z (vs.set i (.long x)) d → Ends p e below Φ T' (mkF m (pc + 1) Ls rest)) :
    Ends p e below Φ T (mkF m pc Ls (.long x :: .int j :: .ref a :: rest)) := by
  obtain ⟨L, X, eT, F, hn0⟩ := N
  obtain ⟨cl, A, q, S, M, H, U⟩ := V
  obtain ⟨T1, h1, X1, e1, W1, st1⟩ := stJ X hx hZ eT A (j := j) (x := x) (inb_of S hj) (g := mkF m pc Ls (.long x :: .int j :: .ref a :: rest)) rfl rfl hd
  exact Ends.go st1 (K T1 h1 ⟨_, X1, e1, Fr.snoc X1 F ha, hn0⟩ W1 (Arv.set A q S M H U rfl W1 i hi hil))
/-- arraylength -/
theorem gLen {a : Addr} {kA : ClassId} {ty : FieldType} {z : Int32} {vs : List Value} {d : Value} (N : Now p l e R s m args below meth c Z T h k n) (hx : p.tables.exec = Jvm.exec) (hZ : Z.Warmed39 s.vm) (V : Arv Z h a kA ty z vs d) (hd : decode c.code pc = .ok (.arraylength, 1))
    (K : Ends p e below Φ T (mkF m (pc + 1) Ls (.int z :: rest))) : Ends p e below Φ T (mkF m pc Ls (.ref a :: rest)) := by
  obtain ⟨L, X, eT, F, hn0⟩ := N
  obtain ⟨cl, A, q, S, M, H, U⟩ := V
  rw [← len_of S M] at K
  exact Ends.go (fun t q => X.arraylength hx (by rw [eT]; exact A.1) (State.isArrayOf_alike hZ.alike A.2.1) (g := mkF m pc Ls (.ref a :: rest)) rfl rfl hd t q) K
theorem gLdC {a : Addr} {kA : ClassId} {z j : Int32} {vs : List Value} {d v : Value} (N : Now p l e R s m args below meth c Z T h k n) (hx : p.tables.exec = Jvm.exec) (hZ : Z.Warmed39 s.vm) (V : Arv Z h a kA .char z vs d) (hj : ¬ j < 0 ∧ j < z) (hv : vs.getD j.toNatClampNeg d = v) (hd : decode c.code pc = .ok (.caload, 1))
    (K : Ends p e below Φ T (mkF m (pc + 1) Ls (v :: rest))) : Ends p e below Φ T (mkF m pc Ls (.int j :: .ref a :: rest)) := by
  obtain ⟨L, X, eT, F, hn0⟩ := N
  obtain ⟨cl, A, q, S, M, H, U⟩ := V
  exact Ends.go (fun t q => X.caload hx (by rw [eT]; exact A.1) (State.isArrayOf_alike hZ.alike A.2.1) A.2.2 (inb_of S hj) (H.at (inb_of S hj) hv) (g := mkF m pc Ls (.int j :: .ref a :: rest)) rfl rfl hd t q) K
theorem gLdJ {a : Addr} {kA : ClassId} {z j : Int32} {vs : List Value} {d v : Value} (N : Now p l e R s m args below meth c Z T h k n) (hx : p.tables.exec = Jvm.exec) (hZ : Z.Warmed39 s.vm) (V : Arv Z h a kA .long z vs d) (hj : ¬ j < 0 ∧ j < z) (hv : vs.getD j.toNatClampNeg d = v) (hd : decode c.code pc = .ok (.laload, 1))
    (K : Ends p e below Φ T (mkF m (pc + 1) Ls (v :: rest))) : Ends p e below Φ T (mkF m pc Ls (.int j :: .ref a :: rest)) := by
  obtain ⟨L, X, eT, F, hn0⟩ := N
  obtain ⟨cl, A, q, S, M, H, U⟩ := V
  exact Ends.go (fun t q => X.laload hx (by rw [eT]; exact A.1) (State.isArrayOf_alike hZ.alike A.2.1) A.2.2 (inb_of S hj) (H.at (inb_of S hj) hv) (g := mkF m pc Ls (.int j :: .ref a :: rest)) rfl rfl hd t q) K
theorem gLdB {a : Addr} {kA : ClassId} {z j : Int32} {vs : List Value} {d v : Value} (N : Now p l e R s m args below meth c Z T h k n) (hx : p.tables.exec = Jvm.exec) (hZ : Z.Warmed39 s.vm) (V : Arv Z h a kA .byte z vs d) (hj : ¬ j < 0 ∧ j < z) (hv : vs.getD j.toNatClampNeg d = v) (hd : decode c.code pc = .ok (.baload, 1))
    (K : Ends p e below Φ T (mkF m (pc + 1) Ls (v :: rest))) : Ends p e below Φ T (mkF m pc Ls (.int j :: .ref a :: rest)) := by
  obtain ⟨L, X, eT, F, hn0⟩ := N
  obtain ⟨cl, A, q, S, M, H, U⟩ := V
  exact Ends.go (fun t q => X.baloadBytes hx (by rw [eT]; exact A.1) (State.isArrayOf_alike hZ.alike A.2.1) A.2.2 (inb_of S hj) (H.at (inb_of S hj) hv) (g := mkF m pc Ls (.int j :: .ref a :: rest)) rfl rfl hd t q) K
theorem gLdI {a : Addr} {kA : ClassId} {z j : Int32} {vs : List Value} {d v : Value} (N : Now p l e R s m args below meth c Z T h k n) (hx : p.tables.exec = Jvm.exec) (hZ : Z.Warmed39 s.vm) (V : Arv Z h a kA .int z vs d) (hj : ¬ j < 0 ∧ j < z) (hv : vs.getD j.toNatClampNeg d = v) (hd : decode c.code pc = .ok (.iaload, 1))
    (K : Ends p e below Φ T (mkF m (pc + 1) Ls (v :: rest))) : Ends p e below Φ T (mkF m pc Ls (.int j :: .ref a :: rest)) := by
  obtain ⟨L, X, eT, F, hn0⟩ := N
  obtain ⟨cl, A, q, S, M, H, U⟩ := V
  exact Ends.go (fun t q => X.iaload hx (by rw [eT]; exact A.1) (State.isArrayOf_alike hZ.alike A.2.1) A.2.2 (inb_of S hj) (H.at (inb_of S hj) hv) (g := mkF m pc Ls (.int j :: .ref a :: rest)) rfl rfl hd t q) K
theorem gLdA {a : Addr} {kA : ClassId} {ty : FieldType} {z j : Int32} {vs : List Value} {d v : Value} (N : Now p l e R s m args below meth c Z T h k n) (hx : p.tables.exec = Jvm.exec) (hZ : Z.Warmed39 s.vm) (V : Arv Z h a kA ty z vs d) (hty : ty.isReference = true) (hj : ¬ j < 0 ∧ j < z) (hv : vs.getD j.toNatClampNeg d = v) (hd : decode c.code pc = .ok (.aaload, 1))
    (K : Ends p e below Φ T (mkF m (pc + 1) Ls (v :: rest))) : Ends p e below Φ T (mkF m pc Ls (.int j :: .ref a :: rest)) := by
  obtain ⟨L, X, eT, F, hn0⟩ := N
  obtain ⟨cl, A, q, S, M, H, U⟩ := V
  exact Ends.go (fun t q => X.aaload hx (by rw [eT]; exact A.1) (State.isArrayOf_alike hZ.alike A.2.1) hty A.2.2 (inb_of S hj) (H.at (inb_of S hj) hv) (g := mkF m pc Ls (.int j :: .ref a :: rest)) rfl rfl hd t q) K
/-- System.arraycopy between known arrays -/
theorem gCopy {own : String} {index W : Nat} {a b : Addr} {kA kB : ClassId} {ty ty' : FieldType} {z z' sp dp nn : Int32} {vs vd us : List Value} {d d' : Value} (N : Now p l e R s m args below meth c Z T h k n) (hx : p.tables.exec = Jvm.exec) (hZ : Z.Warmed39 s.vm) (hown : s.vm.findClass own = some m.cls)
    (w1 : (Jvm.Cond.methodLink own index Jvm.Stand.acN).before a0 Z = true) (w2 : (Jvm.Cond.native Jvm.Stand.acN).before a0 Z = true) (w3 : (Jvm.Cond.static Jvm.Stand.acN).before a0 Z = true) (w4 : (Jvm.Cond.initialized "java/lang/System").before a0 Z = true)
    (A : Arv Z h a kA ty z vs d) (B : Arv Z h b kB ty' z' vd d') (hty : (ty = ty' ∧ refKind ty = false) ∨ (refKind ty = true ∧ refKind ty' = true ∧ StoL Z h b us)) (h1 : ¬ sp < 0) (h2 : ¬ dp < 0) (h3 : ¬ nn < 0) (h4 : sp.toNatClampNeg + nn.toNatClampNeg ≤ z.toNatClampNeg) (h5 : dp.toNatClampNeg + nn.toNatClampNeg ≤ z'.toNatClampNeg)
    (hus : us = (List.range nn.toNatClampNeg).map fun i => vs.getD (sp.toNatClampNeg + i) d) (hl : dp.toNatClampNeg + nn.toNatClampNeg ≤ vd.length) (ge : Z.heap.size ≤ b) (hd : decode c.code pc = .ok (.invokestatic index, 3)) (hsize : Ls.size = c.maxLocals) (hf : 1 ≤ R.frames) (hW : (rest.map fun v => v.category).sum ≤ W) (hlo : W + (nativeFrameWords "java/lang/System" "arraycopy" 5 + 11) ≤ R.locals)
    (K : ∀ T' h', Now p l e R s m args below meth c Z T' h' k n → Keep h h' [b] → Arv Z h' b kB ty' z' (vd.take dp.toNatClampNeg ++ us ++ vd.drop (dp.toNatClampNeg + nn.toNatClampNeg)) d' → Ends p e below Φ T' (mkF m (pc + 3) Ls rest)) :
    Ends p e below Φ T (mkF m pc Ls (.int nn :: .int dp :: .ref b :: .int sp :: .ref a :: rest)) := by
  obtain ⟨L, X, eT, F, hn0⟩ := N
  obtain ⟨T1, h', L1, X1, e1, F1, K1, V1, st1⟩ := cpA X hx hZ hown w1 w2 w3 w4 eT A B hty h1 h2 h3 h4 h5 hus hl F ge (g := mkF m pc Ls (.int nn :: .int dp :: .ref b :: .int sp :: .ref a :: rest)) rfl hsize rfl hd hf (W := W) (by show 2 * 0 + _ ≤ _; omega) hlo
  exact Ends.go st1 (K T1 h' ⟨_, X1, e1, F1, hn0⟩ K1 V1)
/-- checkcast, instanceof: yes; of null -/
theorem gCast {own K0 : String} {index : Nat} {a : Addr} (N : Now p l e R s m args below meth c Z T h k n) (hx : p.tables.exec = Jvm.exec) (hZ : Z.Warmed39 s.vm) (hown : s.vm.findClass own = some m.cls) (w : (Jvm.Cond.classLink own index K0).before a0 Z = true) (I : Ins Z h a K0 true) (hd : decode c.code pc = .ok (.checkcast index, 3))
    (K : ∀ T', Now p l e R s m args below meth c Z T' h k n → Ends p e below Φ T' (mkF m (pc + 3) Ls (.ref a :: rest))) : Ends p e below Φ T (mkF m pc Ls (.ref a :: rest)) := by
  obtain ⟨L, X, eT, F, hn0⟩ := N
  obtain ⟨T1, X1, e1, st1⟩ := castY X hx hZ hown w eT I (g := mkF m pc Ls (.ref a :: rest)) rfl rfl hd
  exact Ends.go st1 (K T1 ⟨_, X1, e1, F, hn0⟩)
theorem gInst {own K0 : String} {index : Nat} {a : Addr} (N : Now p l e R s m args below meth c Z T h k n) (hx : p.tables.exec = Jvm.exec) (hZ : Z.Warmed39 s.vm) (hown : s.vm.findClass own = some m.cls) (w : (Jvm.Cond.classLink own index K0).before a0 Z = true) (I : Ins Z h a K0 true) (hd : decode c.code pc = .ok (.instanceof index, 3))
    (K : ∀ T', Now p l e R s m args below meth c Z T' h k n → Ends p e below Φ T' (mkF m (pc + 3) Ls (.int 1 :: rest))) : Ends p e below Φ T (mkF m pc Ls (.ref a :: rest)) := by
  obtain ⟨L, X, eT, F, hn0⟩ := N
  obtain ⟨T1, X1, e1, st1⟩ := instY X hx hZ hown w eT I (g := mkF m pc Ls (.ref a :: rest)) rfl rfl hd
  exact Ends.go st1 (K T1 ⟨_, X1, e1, F, hn0⟩)
theorem gInstNo {own K0 C : String} {index : Nat} {a : Addr} (N : Now p l e R s m args below meth c Z T h k n) (hx : p.tables.exec = Jvm.exec) (hZ : Z.Warmed39 s.vm) (hown : s.vm.findClass own = some m.cls) (w : (Jvm.Cond.classLink own index K0).before a0 Z = true) (E : Exa Z h a C) (F : ∃ c t, Z.vm.findClass C = some c ∧ Z.vm.findClass K0 = some t ∧ Z.vm.assignable c t = false) (hd : decode c.code pc = .ok (.instanceof index, 3))
    (K : ∀ T', Now p l e R s m args below meth c Z T' h k n → Ends p e below Φ T' (mkF m (pc + 3) Ls (.int 0 :: rest))) : Ends p e below Φ T (mkF m pc Ls (.ref a :: rest)) := by
  obtain ⟨L, X, eT, F0, hn0⟩ := N
  obtain ⟨T1, X1, e1, st1⟩ := instNo X hx hZ hown w eT E F (g := mkF m pc Ls (.ref a :: rest)) rfl rfl hd
  exact Ends.go st1 (K T1 ⟨_, X1, e1, F0, hn0⟩)
theorem gCastN {index : Nat} (N : Now p l e R s m args below meth c Z T h k n) (hx : p.tables.exec = Jvm.exec) (hd : decode c.code pc = .ok (.checkcast index, 3)) (K : Ends p e below Φ T (mkF m (pc + 3) Ls (.null :: rest))) : Ends p e below Φ T (mkF m pc Ls (.null :: rest)) := by
  obtain ⟨L, X, eT, F, hn0⟩ := N
  exact Ends.go (X.checkcastNull hx (g := mkF m pc Ls (.null :: rest)) rfl rfl hd) K
theorem gInstN {index : Nat} (N : Now p l e R s m args below meth c Z T h k n) (hx : p.tables.exec = Jvm.exec) (hd : decode c.code pc = .ok (.instanceof index, 3)) (K : Ends p e below Φ T (mkF m (pc + 3) Ls (.int 0 :: rest))) : Ends p e below Φ T (mkF m pc Ls (.null :: rest)) := by
  obtain ⟨L, X, eT, F, hn0⟩ := N
  exact Ends.go (X.instanceofNull hx (g := mkF m pc Ls (.null :: rest)) rfl rfl hd) K
end Heap
section Calls
variable {pc : Nat} {Ls : Array Slot} {st rest argsL : List Value} {own : String} {index W k1 n1 : Nat} {y : MethodName} {Pre : Pt → Array Value → Prop}
/-- what a payer gives back, as Back's Post -/
abbrev PostN (Q : Option Value → Heap → List Loc → Prop) (k1 n1 : Nat) : Pt → Array Value → Option Value → Pt → Prop := fun A _ v B => ∃ L, Q v B.U.heap L ∧ B.locs = A.locs ++ L ∧ B.cells = A.cells + k1 ∧ B.slots = A.slots + n1
abbrev PreN (R : Room) (as' : Array Value) (h : Heap) (k1 n1 : Nat) : Pt → Array Value → Prop := fun A a => a = as' ∧ A.U.heap = h ∧ A.cells + k1 ≤ R.cells ∧ A.slots + n1 ≤ R.slots
variable {Qc : Option Value → Heap → List Loc → Prop}
/-- a static call -/
theorem gStatic {bytes : ByteArray} {maxL : Nat} {ret : Option FieldType} (N : Now p l e R s m args below meth c Z T h k n) (hx : p.tables.exec = Jvm.exec) (hZ : Z.Warmed39 s.vm) (hown : s.vm.findClass own = some m.cls)
    (w1 : (Jvm.Cond.methodLink own index y).before a0 Z = true) (w2 : (Jvm.Cond.static y).before a0 Z = true) (w3 : (Jvm.Cond.initialized y.cls).before a0 Z = true) (w4 : (Jvm.Cond.code y bytes maxL ret).before a0 Z = true) (hy : y.cls ≠ "java/lang/invoke/MethodHandle" ∧ y.cls ≠ "java/lang/invoke/VarHandle")
    (B : Back l R p e below s args y 3 W (PreN R argsL.toArray h k1 n1) (PostN Qc k1 n1)) (hd : decode c.code pc = .ok (.invokestatic index, 3)) (hst : st = argsL.reverse ++ rest) (hsize : Ls.size = c.maxLocals) (hlen : ∀ sig, parseMethodDescriptor y.desc = some sig → argsL.length = sig.parameters.length) (hW : (rest.map fun v => v.category).sum ≤ W)
    (hc : k + k1 ≤ R.cells) (hs : n + n1 ≤ R.slots) (hQ : ∀ v h' L, Qc v h' L → Fr Z.heap.size L)
    (K : ∀ v T' h' L, Now p l e R s m args below meth c Z T' h' (k + k1) (n + n1) → Qc v h' L → Ends p e below Φ T' (mkF m (pc + 3) Ls (v.toList ++ rest))) :
    Ends p e below Φ T (mkF m pc Ls st) := by
  obtain ⟨L, X, eT, F, hn0⟩ := N
  obtain ⟨v, _, ⟨T1, L1, q1, q2⟩, -, X1, ⟨Lc, hq, l1, y1, z1⟩, st1⟩ := Jvm.LawKit.callS X hx (y := y) hown (mvT hZ w1) (mvT hZ w2) (mvT hZ w3) (mvT hZ w4) hy B (g := mkF m pc Ls st) rfl hsize (argsL := argsL) (rest := rest) hlen hst (by show 2 * 0 + _ ≤ _; omega) hd (fun _ _ => ⟨rfl, eT, hc, hs⟩)
  dsimp only [Pt.U, Pt.locs, Pt.cells, Pt.slots] at X1 l1 y1 z1 st1 hq
  subst l1 y1 z1
  have q := hQ _ _ _ hq
  exact Ends.go st1 (K v T1 _ Lc ⟨_, X1, rfl, Fr.app F q, hn0⟩ hq)
/-- a constructor -/
theorem gSpecial {bytes : ByteArray} {maxL : Nat} {a : Addr} (hy1 : y.name = "<init>") (N : Now p l e R s m args below meth c Z T h k n) (hx : p.tables.exec = Jvm.exec) (hZ : Z.Warmed39 s.vm) (hown : s.vm.findClass own = some m.cls)
    (w1 : (Jvm.Cond.methodLink own index y).before a0 Z = true) (w2 : (Jvm.Cond.instanceMethod y).before a0 Z = true) (w4 : (Jvm.Cond.code y bytes maxL none).before a0 Z = true) (hy : y.cls ≠ "java/lang/invoke/MethodHandle" ∧ y.cls ≠ "java/lang/invoke/VarHandle")
    (B : Back l R p e below s args y 3 W (PreN R (.ref a :: argsL).toArray h k1 n1) (PostN Qc k1 n1)) (hd : decode c.code pc = .ok (.invokespecial index, 3)) (hst : st = argsL.reverse ++ .ref a :: rest) (hsize : Ls.size = c.maxLocals) (hlen : ∀ sig, parseMethodDescriptor y.desc = some sig → argsL.length = sig.parameters.length) (hW : (rest.map fun v => v.category).sum ≤ W)
    (hc : k + k1 ≤ R.cells) (hs : n + n1 ≤ R.slots) (hQ : ∀ v h' L, Qc v h' L → Fr Z.heap.size L)
    (K : ∀ v T' h' L, Now p l e R s m args below meth c Z T' h' (k + k1) (n + n1) → Qc v h' L → Ends p e below Φ T' (mkF m (pc + 3) Ls (v.toList ++ rest))) :
    Ends p e below Φ T (mkF m pc Ls st) := by
  obtain ⟨L, X, eT, F, hn0⟩ := N
  obtain ⟨v, _, ⟨T1, L1, q1, q2⟩, -, X1, ⟨Lc, hq, l1, y1, z1⟩, st1⟩ := X.specialBack hx (y := y) hy1 hown (mvT hZ w1) (mvT hZ w2) (mvT hZ w4) hy B (g := mkF m pc Ls st) rfl hsize (Steps.refl _) (a := a) (argsL := argsL) (rest := rest) hlen hst (by show 2 * 0 + _ ≤ _; omega) hd (fun _ _ => ⟨rfl, eT, hc, hs⟩)
  dsimp only [Pt.U, Pt.locs, Pt.cells, Pt.slots] at X1 l1 y1 z1 st1 hq
  subst l1 y1 z1
  have q := hQ _ _ _ hq
  exact Ends.go (fun t r => st1.trans r) (K v T1 _ Lc ⟨_, X1, rfl, Fr.app F q, hn0⟩ hq)
/-- an instance method -/
theorem gVirtual {C : String} {z : MethodName} {b : Addr} (N : Now p l e R s m args below meth c Z T h k n) (hx : p.tables.exec = Jvm.exec) (hZ : Z.Warmed39 s.vm) (hown : s.vm.findClass own = some m.cls)
    (w1 : (Jvm.Cond.methodLink own index y).before a0 Z = true) (w2 : (Jvm.Cond.declares y).before a0 Z = true) (w3 : (Jvm.Cond.selects C y z).before a0 Z = true) (w4 : (Jvm.Cond.instanceMethod z).before a0 Z = true) (hy : y.cls ≠ "java/lang/invoke/MethodHandle" ∧ y.cls ≠ "java/lang/invoke/VarHandle")
    (hnf : NotFace s y) (E : Exa Z h b C)
    (B : Back l R p e below s args z 3 W (PreN R (.ref b :: argsL).toArray h k1 n1) (PostN Qc k1 n1)) (hd : decode c.code pc = .ok (.invokevirtual index, 3)) (hst : st = argsL.reverse ++ .ref b :: rest) (hsize : Ls.size = c.maxLocals) (hlen : ∀ sig, parseMethodDescriptor y.desc = some sig → argsL.length = sig.parameters.length) (hW : (rest.map fun v => v.category).sum ≤ W)
    (hc : k + k1 ≤ R.cells) (hs : n + n1 ≤ R.slots) (hQ : ∀ v h' L, Qc v h' L → Fr Z.heap.size L)
    (K : ∀ v T' h' L, Now p l e R s m args below meth c Z T' h' (k + k1) (n + n1) → Qc v h' L → Ends p e below Φ T' (mkF m (pc + 3) Ls (v.toList ++ rest))) :
    Ends p e below Φ T (mkF m pc Ls st) := by
  obtain ⟨L, X, eT, F, hn0⟩ := N
  obtain ⟨cq, kq, qa, qb, qc⟩ := isOf hZ eT E
  obtain ⟨v, _, ⟨T1, L1, q1, q2⟩, -, X1, ⟨Lc, hq, l1, y1, z1⟩, st1⟩ := X.virtualBack hx (y := y) (z := z) hown (mvT hZ w1) (mvT hZ w2) hnf (mvT hZ w3) (mvT hZ w4) hy B qa qc (g := mkF m pc Ls st) rfl hsize (Steps.refl _) (argsL := argsL) (rest := rest) hlen hst (by show 2 * 0 + _ ≤ _; omega) hd (fun _ _ => ⟨rfl, eT, hc, hs⟩)
  dsimp only [Pt.U, Pt.locs, Pt.cells, Pt.slots] at X1 l1 y1 z1 st1 hq
  subst l1 y1 z1
  have q := hQ _ _ _ hq
  exact Ends.go (fun t r => st1.trans r) (K v T1 _ Lc ⟨_, X1, rfl, Fr.app F q, hn0⟩ hq)
/-- a private instance method, by invokevirtual -/
theorem gPrivate {bytes : ByteArray} {maxL : Nat} {ret : Option FieldType} {b : Addr} {C : String} (N : Now p l e R s m args below meth c Z T h k n) (hx : p.tables.exec = Jvm.exec) (hZ : Z.Warmed39 s.vm) (hown : s.vm.findClass own = some m.cls)
    (w1 : (Jvm.Cond.methodLink own index y).before a0 Z = true) (w2 : (Jvm.Cond.instanceMethod y).before a0 Z = true) (w3 : (Jvm.Cond.selects y.cls y y).before a0 Z = true) (w4 : (Jvm.Cond.privateMethod y).before a0 Z = true) (w5 : (Jvm.Cond.code y bytes maxL ret).before a0 Z = true) (hy : y.cls ≠ "java/lang/invoke/MethodHandle" ∧ y.cls ≠ "java/lang/invoke/VarHandle")
    (E : Exa Z h b C)
    (B : Back l R p e below s args y 3 W (PreN R (.ref b :: argsL).toArray h k1 n1) (PostN Qc k1 n1)) (hd : decode c.code pc = .ok (.invokevirtual index, 3)) (hst : st = argsL.reverse ++ .ref b :: rest) (hsize : Ls.size = c.maxLocals) (hlen : ∀ sig, parseMethodDescriptor y.desc = some sig → argsL.length = sig.parameters.length) (hW : (rest.map fun v => v.category).sum ≤ W)
    (hc : k + k1 ≤ R.cells) (hs : n + n1 ≤ R.slots) (hQ : ∀ v h' L, Qc v h' L → Fr Z.heap.size L)
    (K : ∀ v T' h' L, Now p l e R s m args below meth c Z T' h' (k + k1) (n + n1) → Qc v h' L → Ends p e below Φ T' (mkF m (pc + 3) Ls (v.toList ++ rest))) :
    Ends p e below Φ T (mkF m pc Ls st) := by
  obtain ⟨L, X, eT, F, hn0⟩ := N
  obtain ⟨cell, hce, hob⟩ := E.cell
  obtain ⟨v, _, ⟨T1, L1, q1, q2⟩, -, X1, ⟨Lc, hq, l1, y1, z1⟩, st1⟩ := X.privateBack hx (y := y) hown (mvT hZ w1) (mvT hZ w2) (mvT hZ w3) (Cond.privateMethod_at (args := args) (mvP hZ w4)) (mvT hZ w5) hy B (g := mkF m pc Ls st) rfl hsize (Steps.refl _) (by rw [eT]; exact hce) hob (argsL := argsL) (rest := rest) hlen hst (by show 2 * 0 + _ ≤ _; omega) hd (fun _ _ => ⟨rfl, eT, hc, hs⟩)
  dsimp only [Pt.U, Pt.locs, Pt.cells, Pt.slots] at X1 l1 y1 z1 st1 hq
  subst l1 y1 z1
  have q := hQ _ _ _ hq
  exact Ends.go (fun t r => st1.trans r) (K v T1 _ Lc ⟨_, X1, rfl, Fr.app F q, hn0⟩ hq)
/-- an interface method -/
theorem gFace {C : String} {count : Nat} {z : MethodName} {b : Addr} (N : Now p l e R s m args below meth c Z T h k n) (hx : p.tables.exec = Jvm.exec) (hZ : Z.Warmed39 s.vm) (hown : s.vm.findClass own = some m.cls)
    (w1 : (Jvm.Cond.methodLink own index y).before a0 Z = true) (w2 : (Jvm.Cond.declares y).before a0 Z = true) (w3 : (Jvm.Cond.interfaceMethod y.cls y.cls y.name y.desc).before args s = true) (w4 : (Jvm.Cond.selects C y z).before a0 Z = true) (w5 : (Jvm.Cond.instanceMethod z).before a0 Z = true) (w6 : (Jvm.Cond.publicMethod z).before a0 Z = true) (w7 : (Jvm.Cond.unhidden C y.name y.desc).before a0 Z = true) (w8 : (Jvm.Cond.castable C y.cls).before a0 Z = true)
    (hy : y.cls ≠ "java/lang/invoke/MethodHandle" ∧ y.cls ≠ "java/lang/invoke/VarHandle") (E : Exa Z h b C)
    (B : Back l R p e below s args z 5 W (PreN R (.ref b :: argsL).toArray h k1 n1) (PostN Qc k1 n1)) (hd : decode c.code pc = .ok (.invokeinterface index count, 5)) (hst : st = argsL.reverse ++ .ref b :: rest) (hsize : Ls.size = c.maxLocals) (hlen : ∀ sig, parseMethodDescriptor y.desc = some sig → argsL.length = sig.parameters.length) (hW : (rest.map fun v => v.category).sum ≤ W)
    (hc : k + k1 ≤ R.cells) (hs : n + n1 ≤ R.slots) (hQ : ∀ v h' L, Qc v h' L → Fr Z.heap.size L)
    (K : ∀ v T' h' L, Now p l e R s m args below meth c Z T' h' (k + k1) (n + n1) → Qc v h' L → Ends p e below Φ T' (mkF m (pc + 5) Ls (v.toList ++ rest))) :
    Ends p e below Φ T (mkF m pc Ls st) := by
  obtain ⟨L, X, eT, F, hn0⟩ := N
  obtain ⟨cq, kq, qa, qb, qc⟩ := isOf hZ eT E
  obtain ⟨v, _, ⟨T1, L1, q1, q2⟩, -, X1, ⟨Lc, hq, l1, y1, z1⟩, st1⟩ := X.interfaceBack hx (xi := y) (y := z) hown (mvT hZ w1) (mvT hZ w2) w3 (mvT hZ w4) (mvT hZ w5) (mvT hZ w6) (mvT hZ w7) (mvT hZ w8) hy B qa qb qc (g := mkF m pc Ls st) rfl hsize (Steps.refl _) (argsL := argsL) (rest := rest) hlen hst (by show 2 * 0 + _ ≤ _; omega) hd (fun _ _ => ⟨rfl, eT, hc, hs⟩)
  dsimp only [Pt.U, Pt.locs, Pt.cells, Pt.slots] at X1 l1 y1 z1 st1 hq
  subst l1 y1 z1
  have q := hQ _ _ _ hq
  exact Ends.go (fun t r => st1.trans r) (K v T1 _ Lc ⟨_, X1, rfl, Fr.app F q, hn0⟩ hq)
/-- a contract as a payer -/
theorem MetN.back {bytes : ByteArray} {maxL : Nat} {ret : Option FieldType} {rm : Room} {len : Nat} {as' : Array Value} (hM : MetN l Z y bytes maxL ret [] rm as' h Q)
    (hZ : Z.Warmed39 s.vm) (wc : (Jvm.Cond.code y bytes maxL ret).before a0 Z = true) (wz : (Jvm.Cond.initialized y.cls).before a0 Z = true) (hf : rm.frames + 1 ≤ R.frames) (hl : W + (maxL + 11) + rm.locals ≤ R.locals) :
    Back l R p e below s args y len W (PreN R as' h rm.cells rm.slots) (PostN (fun v h' L => Q v h' ∧ Fr Z.heap.size L) rm.cells rm.slots) := backOf (Q := fun v h' L => Q v h' ∧ Fr Z.heap.size L) hM hZ wc wz hf hl
end Calls
end OwnKit
end Jvm.Pilot.@@N@@
namespace Jvm.Pilot.@@N@@
open Jvm Jvm.ClassFile Sem Op Lib Jvm.Free Jvm.Stand Jvm.LawKit Jvm.RoadKit Bundle Jvm.Pilot.@@N@@.Jvm.D
section OwnStr
variable {p : Program} {l : Launch} {e : Env} {R : Room} {s : State} {m : MethodId} {args : Array Value} {below : List Frame} {meth : Method} {c : Code} {T T' : State} {Z : State} {a0 : Array Value} {h h' h2 : Heap} {k n k' n' : Nat} {Φ : Outcome → State → Prop} {cs ds : List Int32} {a b : Addr}
/-- a String whose chars are cs, all below 256 -/
def Str (Z : State) (h : Heap) (a : Addr) (cs : List Int32) : Prop :=
  Exa Z h a "java/lang/String" ∧ Fld Z h a "java/lang/String" "coder" "B" (.int 0) ∧ (∃ t kb, Fld Z h a "java/lang/String" "value" "[B" (.ref t) ∧ Arv Z h t kb .byte (Int32.ofNat cs.length) ((cs.map fun c => c.toInt8.toInt32).map Value.int) (.int 0)) ∧ (∀ c ∈ cs, ¬ c < 0 ∧ ¬ (255 : Int32) < c) ∧ cs.length ≤ 4000
theorem Str.ext (S : Str Z h a cs) (E : Ext h h') : Str Z h' a cs := by
  obtain ⟨h1, h2, ⟨t, kb, h3, h4⟩, h5⟩ := S
  exact ⟨h1.ext E, h2.ext E, ⟨t, kb, h3.ext E, h4.ext E⟩, h5⟩
theorem Str.lt (S : Str Z h a cs) : a < h.size := S.1.lt
theorem up16 (h : ∀ c ∈ cs, ¬ c < 0 ∧ ¬ (255 : Int32) < c) : ∀ c ∈ cs, ¬ c < 0 ∧ ¬ (65535 : Int32) < c := fun c hc => ⟨(h c hc).1, fun q => (h c hc).2 (by rw [Int32.lt_iff_toInt_lt] at q ⊢; have e1 : (65535 : Int32).toInt = 65535 := rfl; have e2 : (255 : Int32).toInt = 255 := rfl; omega)⟩
/-- the two statics that String's methods read -/
def Jdk (Z : State) : Prop := (∃ z, Sta Z Z.heap "java/lang/String" "COMPACT_STRINGS" "Z" (.int z) ∧ ¬ z = 0) ∧ ∃ fm, Sta Z Z.heap "jdk/internal/util/Preconditions" "SIOOBE_FORMATTER" "Ljava/util/function/BiFunction;" fm ∧ fm.isRef = true
theorem ext_keep {x : Addr} (E : Ext h h') (K : Keep h' h2 [x]) (hx : h.size ≤ x) : Ext h h2 := ⟨Nat.le_trans E.1 K.1, fun a c q => K.2.1 a c (E.2 a c q) fun z => by
  cases List.mem_singleton.mp z
  exact absurd (Array.getElem?_eq_some_iff.mp q).1 (Nat.not_lt.mpr hx)⟩
theorem ext_wr {x : Addr} {sl : Nat} {v : Value} (E : Ext h h') (W : Wr h' h2 x sl v) (hx : h.size ≤ x) : Ext h h2 := ext_keep E (Keep.of_wr W) hx
theorem ext_trans (E : Ext h h') (F : Ext h' h2) : Ext h h2 := ⟨Nat.le_trans E.1 F.1, fun a c q => F.2 a c (E.2 a c q)⟩
theorem ext_refl (h : Heap) : Ext h h := ⟨Nat.le_refl _, fun _ _ q => q⟩
theorem Str.keepExa {x : Addr} {C : String} {q : Nat} (S : Str Z h a cs) (K : Keep h h' [x]) (E : Exa Z h x C) (hC : C ≠ "java/lang/String") (w : (Jvm.Cond.instantiable C q).before a0 Z = true) : Str Z h' a cs := by
  obtain ⟨h1, h2, ⟨t, kb, h3, h4⟩, h5⟩ := S
  have n1 : a ∉ [x] := ninS (fun e => (ne_exa E h1 hC) e.symm) nin0
  have n2 : t ∉ [x] := ninS (fun e => (Exa.neArv E h4 w) e.symm) nin0
  exact ⟨h1.keep K, h2.keep K n1, ⟨t, kb, h3.keep K n1, h4.keep K n2⟩, h5⟩
/-- new String(char[]) -/
theorem strNew {x b : Addr} {kC : ClassId} {d v0 c0 : Value} {len W : Nat} (hZ : Z.Warmed39 s.vm) (hw : ∀ d ∈ tables_1, d.before a0 Z = true) (G : Jdk Z) (O : Ext Z.heap h) (hx0 : Z.heap.size ≤ x) (E : Exa Z h x "java/lang/String") (V : Fld Z h x "java/lang/String" "value" "[B" v0) (Cd : Fld Z h x "java/lang/String" "coder" "B" c0)
    (K : Arv Z h b kC .char (Int32.ofNat cs.length) (cs.map Value.int) d) (l0 : 0 < cs.length) (l2 : cs.length ≤ 4000) (hp : ∀ c ∈ cs, ¬ c < 0 ∧ ¬ (255 : Int32) < c) (hfr : 4 ≤ R.frames) (hlo : W + 65 ≤ R.locals) :
    Back l R p e below s args (⟨"java/lang/String", "<init>", "([C)V"⟩ : MethodName) len W (PreN R #[.ref x, .ref b] h 1 cs.length) (PostN (fun v h' L => v = none ∧ Keep h h' [x] ∧ Str Z h' x cs ∧ Fr Z.heap.size L) 1 cs.length) := by
  obtain ⟨⟨z, S, hz⟩, -⟩ := G
  refine Back.mono (StrChars.Road.backV (W := W) hZ (fun d hd => hw d ((by decide +kernel : ∀ d ∈ StrChars.Road.words, d ∈ tables_1) d hd)) (kI := 4) (hw _ (by decide +kernel)) (cs := cs) (bs := cs.map (fun c => c.toInt8.toInt32)) (n := cs.length) hx0 O.1 E V Cd K (S.ext O) hz rfl rfl l0 l2 hp rfl hfr hlo) (fun P a q => q) (fun P a v B q r => ?_)
  obtain ⟨L, ⟨q1, q2, q3, q4, q5, t, kb, -, -, -, q6, q7⟩, r1⟩ := r
  exact ⟨L, ⟨q1, q3, ⟨q4, q5, ⟨t, kb, q6, q7⟩, hp, l2⟩, q2⟩, r1⟩
theorem strLen {len W : Nat} (hZ : Z.Warmed39 s.vm) (hw : ∀ d ∈ tables_1, d.before a0 Z = true) (G : Jdk Z) (O : Ext Z.heap h) (S : Str Z h a cs) (hfr : 2 ≤ R.frames) (hlo : W + 25 ≤ R.locals) :
    Back l R p e below s args (⟨"java/lang/String", "length", "()I"⟩ : MethodName) len W (PreN R #[.ref a] h 0 0) (PostN (fun v h' L => v = some (.int (Int32.ofNat cs.length)) ∧ L = [] ∧ h' = h) 0 0) := by
  obtain ⟨⟨z, Sz, hz⟩, -⟩ := G
  obtain ⟨E, Cd, ⟨t, kb, V, K⟩, hp, l2⟩ := S
  exact StrChars.Road.lenW (W := W) hZ (fun d hd => hw d ((by decide +kernel : ∀ d ∈ StrChars.Road.wordsLen, d ∈ tables_1) d hd)) (kI := 4) (hw _ (by decide +kernel)) E V Cd K (StrChars.Road.codOf rfl (fun c hc => (hp c hc).2)) (up16 hp) (Sz.ext O) hz l2 hfr hlo
theorem strEq {len W : Nat} (hZ : Z.Warmed39 s.vm) (hw : ∀ d ∈ tables_1, d.before a0 Z = true) (G : Jdk Z) (O : Ext Z.heap h) (S : Str Z h a cs) (S' : Str Z h b ds) (hfr : 2 ≤ R.frames) (hlo : W + 28 ≤ R.locals) :
    Back l R p e below s args (⟨"java/lang/String", "equals", "(Ljava/lang/Object;)Z"⟩ : MethodName) len W (PreN R #[.ref a, .ref b] h 0 0) (PostN (fun v h' L => v = some (.int (if cs = ds then 1 else 0)) ∧ L = [] ∧ h' = h) 0 0) := by
  obtain ⟨⟨z, Sz, hz⟩, -⟩ := G
  obtain ⟨E, Cd, ⟨t, kb, V, K⟩, hp, l2⟩ := S
  obtain ⟨E', Cd', ⟨t', kb', V', K'⟩, hp', l2'⟩ := S'
  refine Back.mono (StrChars.Road.eqW (W := W) hZ (fun d hd => hw d ((by decide +kernel : ∀ d ∈ StrChars.Road.wordsEq, d ∈ tables_1) d hd)) (kI := 4) (hw _ (by decide +kernel)) E V Cd K (StrChars.Road.codOf rfl (fun c hc => (hp c hc).2)) (up16 hp) l2 E' V' Cd' K' (StrChars.Road.codOf rfl (fun c hc => (hp' c hc).2)) (up16 hp') l2' (Sz.ext O) hz hfr hlo) (fun P a q => q) (fun P a v B q r => ?_)
  obtain ⟨L, ⟨q1, q2, q3⟩, r1⟩ := r
  refine ⟨L, ⟨?_, q2, q3⟩, r1⟩
  rcases q1 with ⟨rfl, q⟩ | ⟨rfl, q⟩
  · rw [if_pos q]
  · rw [if_neg q]
end OwnStr
end Jvm.Pilot.@@N@@
namespace Jvm.Pilot.@@N@@
open Jvm Jvm.ClassFile Sem Op Lib Jvm.Free Jvm.Stand Jvm.LawKit Jvm.RoadKit Bundle Jvm.Pilot.@@N@@.Jvm.D
section OwnWide
variable {p : Program} {l : Launch} {e : Env} {R : Room} {s : State} {m : MethodId} {args : Array Value} {below : List Frame} {meth : Method} {c : Code} {T T' : State} {Z : State} {a0 : Array Value} {h h' h2 : Heap} {k n k' n' : Nat} {Φ : Outcome → State → Prop} {Q : Option Value → Heap → Prop} {EL : List (String × Nat)} {vm0 vm1 : Vm} {cs : List Int32}
/-- the tables vm0 of a walk from s that may have interned; h: the heap -/
def Wd (Z s : State) (EL : List (String × Nat)) (vm0 : Vm) (h : Heap) : Prop := ∃ k0, s.Since vm0 k0 ∧ k0 ≤ h.size ∧ CHr Z EL s.vm s.heap vm0 h
theorem Wd.ext (w : Wd Z s EL vm0 h) (E : Ext h h') : Wd Z s EL vm0 h' := by
  obtain ⟨k0, h1, h2, h3⟩ := w; exact ⟨k0, h1, Nat.le_trans h2 E.1, h3.trans (CHr.ext E h3.1)⟩
theorem Wd.keep {ws : List Addr} (w : Wd Z s EL vm0 h) (K : Keep h h' ws) (hs : ∀ x ∈ ws, Safe Z EL vm0 h x) : Wd Z s EL vm0 h' := by
  obtain ⟨k0, h1, h2, h3⟩ := w; exact ⟨k0, h1, Nat.le_trans h2 K.1, h3.trans (CHr.keep K hs h3.1)⟩
theorem Wd.held (w : Wd Z s EL vm0 h) : CHv Z EL vm0 h := by obtain ⟨_, _, _, h3⟩ := w; exact h3.1
def PhiW (Z s : State) (EL : List (String × Nat)) (Q : Option Value → Heap → Prop) (K N : Nat) : Outcome → State → Prop := fun o u => ∃ v L, o = .returned v ∧ (Q v u.heap ∧ Fr Z.heap.size L) ∧ CHr Z EL s.vm s.heap u.vm u.heap ∧ ReturnedEndW s o u L K N
def MetW (l : Launch) (Z : State) (EL : List (String × Nat)) (y : MethodName) (bytes : ByteArray) (maxL : Nat) (ret : Option FieldType) (ws : List Jvm.Cond) (rm : Room) (as' : Array Value) (h : Heap) (Q : Option Value → Heap → Prop) : Prop :=
  MetFree l y (head1 (Jvm.Cond.code y bytes maxL ret :: ws) rm) (fun a U => a = as' ∧ Z.Warmed39 U.vm ∧ U.heap = h ∧ CHv Z EL U.vm h) (fun _ _ _ _ _ => True) (fun _ U o U' => ∃ v L, o = .returned v ∧ (Q v U'.heap ∧ Fr Z.heap.size L) ∧ CHr Z EL U.vm U.heap U'.vm U'.heap ∧ ReturnedEndW U o U' L rm.cells rm.slots)
theorem metW {y : MethodName} {bytes : ByteArray} {maxL : Nat} {ret : Option FieldType} {ws : List Jvm.Cond} {rm : Room} {as' : Array Value} {Ls : Array Slot} (hpl : plainFor y = true) (hn0 : Ext Z.heap h) (ef : ∀ m, entryFrame m as' maxL = mkF m 0 Ls [])
    (walk : ∀ (p : Program) (e : Env) (s : State) (m : MethodId) (below : List Frame) (meth : Method) (c : Code) (T : State) (vm0 : Vm), p.tables.exec = Jvm.exec → c.code = bytes → c.maxLocals = maxL → meth.sig.returnType = ret → meth.locks = false → (s.setVm vm0).vm.findClass y.cls = some m.cls → meth.name = y.name → Z.Warmed39 (s.setVm vm0).vm →
      Now p l e rm (s.setVm vm0) m as' below meth c Z T h 0 0 → Wd Z s EL vm0 h → Ends p e below (PhiW Z s EL Q rm.cells rm.slots) T (mkF m 0 Ls [])) : MetW l Z EL y bytes maxL ret ws rm as' h Q := by
  refine MetFree.of_bodySF hpl hisR ?_
  intro p e s m args below meth c s₁ Bd hml0 hP hK
  obtain ⟨rfl, hZ, hh, hC⟩ := hP
  have e0 : s₁.heap = h := by rw [← hh, Bd.state]; rfl
  have N0 : Now p l e rm (s.setVm s.vm) m args below meth c Z s₁ h 0 0 := ⟨[], Stand.of_body Bd, e0, Fr.nil _, hh ▸ hn0⟩
  have W0 : Wd Z s EL s.vm h := ⟨s.heap.size, (State.WarmedH.refl s).since _, by rw [hh]; exact Nat.le_refl _, by rw [hh]; exact CHr.refl hC⟩
  have W := walk p e s m below meth c s₁ s.vm Bd.exec Bd.bytes hml0 Bd.returns Bd.notSynchronized (findClass_of_methodNamed Bd.named) (name_of_methodNamed Bd.named Bd.method).1 hZ N0 W0
  rw [← ef] at W
  exact W
theorem endW {v : Option Value} {f : JFrame} {K M : Nat} (N : Now p l e R (s.setVm vm0) m args below meth c Z T h k n) (hZ : Z.Warmed39 (s.setVm vm0).vm) (hEL : EW Z a0 EL) (w : Wd Z s EL vm0 h) (hlocks : meth.locks = false) (hv : meth.sig.returnType = none → v = none)
    (st : ∀ (locs : List Loc), Stand p l e R (s.setVm vm0) m args below meth c T locs k n → ∀ fs, (∀ (f : JFrame) (acts : List Action), f.method = m → f.locked = none → f.entered = [] → (doReturn e (T.setTop f) acts v).1 = T.setFrames fs) → Steps p.tables e below (T.setTop f) (T.setFrames fs)) (hQ : Q v h) (hk : k ≤ K) (hn : n ≤ M) :
    Ends p e below (PhiW Z s EL Q K M) T f := by
  obtain ⟨L, X, eT, F, _⟩ := N
  obtain ⟨k0, h1, h2, h3⟩ := w
  subst eT
  obtain ⟨fs, hr, hrun, hended, hW⟩ := X.leaveW h1 h2 hv hlocks
  have A : CHr Z EL vm0 T.heap T.vm T.heap := CHv.at X hZ hEL h3.1
  exact ⟨_, _, st L X fs hr, hrun, hended, _, L, rfl, ⟨hQ, F⟩, h3.trans A, hW.1, hW.2.1, hW.2.2.1, hW.2.2.2.mono hk hn⟩
section Ret
variable {pc : Nat} {Ls : Array Slot} {rest : List Value} {K M : Nat}
theorem retZW {z : Int32} {t : FieldType} (N : Now p l e R (s.setVm vm0) m args below meth c Z T h k n) (hZ : Z.Warmed39 (s.setVm vm0).vm) (hEL : EW Z a0 EL) (w : Wd Z s EL vm0 h) (hx : p.tables.exec = Jvm.exec) (hlocks : meth.locks = false) (hret : meth.sig.returnType = some t) (ht : t = .boolean ∨ t = .byte ∨ t = .char ∨ t = .short) (hd : decode c.code pc = .ok (.ireturn, 1)) (hQ : Q (some (.int (nar t z))) h) (hk : k ≤ K) (hn : n ≤ M) :
    Ends p e below (PhiW Z s EL Q K M) T (mkF m pc Ls (.int z :: rest)) :=
  endW N hZ hEL w hlocks (fun q => by rw [hret] at q; cases q) (fun L X fs hr => retN X hx hret ht hd hr) hQ hk hn
theorem retAW {v : Value} {t : FieldType} (N : Now p l e R (s.setVm vm0) m args below meth c Z T h k n) (hZ : Z.Warmed39 (s.setVm vm0).vm) (hEL : EW Z a0 EL) (w : Wd Z s EL vm0 h) (hx : p.tables.exec = Jvm.exec) (hlocks : meth.locks = false) (hret : meth.sig.returnType = some t) (ht : t.isReference = true) (hv : v.isRef = true) (hd : decode c.code pc = .ok (.areturn, 1)) (hQ : Q (some v) h) (hk : k ≤ K) (hn : n ≤ M) :
    Ends p e below (PhiW Z s EL Q K M) T (mkF m pc Ls (v :: rest)) :=
  endW N hZ hEL w hlocks (fun q => by rw [hret] at q; cases q) (fun L X fs hr => retOut X hx hret (by cases v <;> first | (cases hv; done) | (cases t <;> first | (cases ht; done) | rfl)) (Or.inr (Or.inr (Or.inr (Or.inr ⟨rfl, ht, hv⟩)))) hd hr) hQ hk hn
theorem retVW (N : Now p l e R (s.setVm vm0) m args below meth c Z T h k n) (hZ : Z.Warmed39 (s.setVm vm0).vm) (hEL : EW Z a0 EL) (w : Wd Z s EL vm0 h) (hx : p.tables.exec = Jvm.exec) (hlocks : meth.locks = false) (hret : meth.sig.returnType = none) (hd : decode c.code pc = .ok (.return_, 1)) (hQ : Q none h) (hk : k ≤ K) (hn : n ≤ M) :
    Ends p e below (PhiW Z s EL Q K M) T (mkF m pc Ls []) :=
  endW N hZ hEL w hlocks (fun _ => rfl) (fun L X fs hr => X.returnOut hx hret hd hr) hQ hk hn
end Ret
section Steps
variable {pc : Nat} {Ls : Array Slot} {st rest argsL : List Value} {own : String} {index W k1 n1 : Nat} {y : MethodName}
/-- ldc of a String constant, its text read -/
theorem gLdcS {text : String} (q : Nat) (N : Now p l e R (s.setVm vm0) m args below meth c Z T h k n) (hx : p.tables.exec = Jvm.exec) (hZ : Z.Warmed39 (s.setVm vm0).vm) (hown : (s.setVm vm0).vm.findClass own = some m.cls) (w : (Jvm.Cond.stringLink own index text).before a0 Z = true) (wS : ∀ a ∈ Bundle.stringAtoms, a.before a0 Z = true)
    (hEL : EW Z a0 EL) (hmem : (own, index) ∈ EL) (wd : Wd Z s EL vm0 h) (ht : (∀ c ∈ text.toList, c.toNat < 256) ∧ text.toList.map (fun c => Value.int (Jvm.Lit.byteI c.toNat.toUInt16)) = (cs.map fun c => c.toInt8.toInt32).map Value.int) (hcs : ∀ c ∈ cs, ¬ c < 0 ∧ ¬ (255 : Int32) < c) (hlen : cs.length ≤ 4000)
    (hd : decode c.code pc = .ok (.ldc index, 2)) (hn : 4 * text.toList.length ≤ q) (hbig : q ≤ 536870912) (hc : k + 2 ≤ R.cells) (hl : n + (q + 4) ≤ R.slots)
    (K : ∀ vm1 T' h' a, Now p l e R (s.setVm vm1) m args below meth c Z T' h' (k + 2) (n + (q + 4)) → Ext h h' → Str Z h' a cs → Z.Warmed39 (s.setVm vm1).vm → (s.setVm vm1).vm.findClass own = some m.cls → Wd Z s EL vm1 h' → CHr Z EL vm0 h vm1 h' → Ends p e below Φ T' (mkF m (pc + 2) Ls (.ref a :: st))) :
    Ends p e below Φ T (mkF m pc Ls st) := by
  obtain ⟨L, X, eT, F, hO⟩ := N
  obtain ⟨k0, h1, h2, h3⟩ := wd
  have e1 : (Int32.ofNat cs.length).toInt = cs.length := len_toInt (by omega)
  have hz : ¬ (Int32.ofNat cs.length) < 0 := by
    rw [Int32.lt_iff_toInt_lt, e1]; have e0 : (0 : Int32).toInt = 0 := rfl
    omega
  have hl0 : (Int32.ofNat cs.length).toNatClampNeg = ((cs.map fun c => c.toInt8.toInt32).map Value.int).length := by simp only [Int32.toNatClampNeg, e1, List.length_map]; omega
  obtain ⟨a, T1, h1', kk, b, kb, X1, e1', E1, S1, k1', Z1, o1, A1, C1, V1, K1, -, -, R1, -, -, st1⟩ := ldcCH X hx hZ hown w wS eT h1 h2 hEL hmem h3.1 ht hz hl0 (g := mkF m pc Ls st) rfl hd hn hbig hc hl
  exact Ends.go st1 (K T1.vm T1 h1' a ⟨L, X1, e1', F, hO⟩ E1 ⟨A1, C1, ⟨b, kb, V1, K1⟩, hcs, hlen⟩ Z1 o1 ⟨kk, S1, k1', h3.trans R1⟩ R1)
/-- ldc of a String constant, opaque -/
theorem gLdcO {text : String} (q : Nat) (N : Now p l e R (s.setVm vm0) m args below meth c Z T h k n) (hx : p.tables.exec = Jvm.exec) (hZ : Z.Warmed39 (s.setVm vm0).vm) (hown : (s.setVm vm0).vm.findClass own = some m.cls) (w : (Jvm.Cond.stringLink own index text).before a0 Z = true) (wS : ∀ a ∈ Bundle.stringAtoms, a.before a0 Z = true)
    (hEL : EW Z a0 EL) (wd : Wd Z s EL vm0 h) (hd : decode c.code pc = .ok (.ldc index, 2)) (hn : 4 * text.toList.length ≤ q) (hbig : q ≤ 536870912) (hc : k + 2 ≤ R.cells) (hl : n + (q + 4) ≤ R.slots)
    (K : ∀ vm1 T' h' a, Now p l e R (s.setVm vm1) m args below meth c Z T' h' (k + 2) (n + (q + 4)) → Ext h h' → Z.Warmed39 (s.setVm vm1).vm → (s.setVm vm1).vm.findClass own = some m.cls → Wd Z s EL vm1 h' → Ends p e below Φ T' (mkF m (pc + 2) Ls (.ref a :: st))) :
    Ends p e below Φ T (mkF m pc Ls st) := by
  obtain ⟨L, X, eT, F, hO⟩ := N
  obtain ⟨k0, h1, h2, h3⟩ := wd
  obtain ⟨a, T1, h1', kk, X1, e1', E1, S1, k1', Z1, o1, R1, -, st1⟩ := ldcOH X hx hZ hown w wS eT h1 h2 hEL h3.1 (g := mkF m pc Ls st) rfl hd hn hbig hc hl
  exact Ends.go st1 (K T1.vm T1 h1' a ⟨L, X1, e1', F, hO⟩ E1 Z1 o1 ⟨kk, S1, k1', h3.trans R1⟩)
abbrev PostW (Z : State) (EL : List (String × Nat)) (vm0 : Vm) (h : Heap) (Q : Option Value → Heap → List Loc → Prop) (k1 n1 : Nat) : Pt → Array Value → Option Value → Pt → Prop := fun A _ v B => ∃ L, Q v B.U.heap L ∧ B.locs = A.locs ++ L ∧ B.cells = A.cells + k1 ∧ B.slots = A.slots + n1 ∧ CHr Z EL vm0 h B.U.vm B.U.heap
variable {Qc : Option Value → Heap → List Loc → Prop}
/-- a static call of a callee that may intern -/
theorem gStaticW {bytes : ByteArray} {maxL : Nat} {ret : Option FieldType} (N : Now p l e R (s.setVm vm0) m args below meth c Z T h k n) (hx : p.tables.exec = Jvm.exec) (hZ : Z.Warmed39 (s.setVm vm0).vm) (hown : (s.setVm vm0).vm.findClass own = some m.cls) (wd : Wd Z s EL vm0 h)
    (w1 : (Jvm.Cond.methodLink own index y).before a0 Z = true) (w2 : (Jvm.Cond.static y).before a0 Z = true) (w3 : (Jvm.Cond.initialized y.cls).before a0 Z = true) (w4 : (Jvm.Cond.code y bytes maxL ret).before a0 Z = true) (hy : y.cls ≠ "java/lang/invoke/MethodHandle" ∧ y.cls ≠ "java/lang/invoke/VarHandle")
    (B : BackS l R p e below (s.setVm vm0) args y 3 W (PreN R argsL.toArray h k1 n1) (PostW Z EL vm0 h Qc k1 n1)) (hd : decode c.code pc = .ok (.invokestatic index, 3)) (hst : st = argsL.reverse ++ rest) (hsize : Ls.size = c.maxLocals) (hlen : ∀ sig, parseMethodDescriptor y.desc = some sig → argsL.length = sig.parameters.length) (hW : (rest.map fun v => v.category).sum ≤ W)
    (hc : k + k1 ≤ R.cells) (hs : n + n1 ≤ R.slots) (hQ : ∀ v h' L, Qc v h' L → Fr Z.heap.size L)
    (K : ∀ v vm1 T' h' L, Now p l e R (s.setVm vm1) m args below meth c Z T' h' (k + k1) (n + n1) → Qc v h' L → Z.Warmed39 (s.setVm vm1).vm → (s.setVm vm1).vm.findClass own = some m.cls → Wd Z s EL vm1 h' → Ends p e below Φ T' (mkF m (pc + 3) Ls (v.toList ++ rest))) :
    Ends p e below Φ T (mkF m pc Ls st) := by
  obtain ⟨L, X, eT, F, hO⟩ := N
  obtain ⟨k0, h1, h2, h3⟩ := wd
  obtain ⟨v, _, ⟨T1, L1, q1, q2⟩, -, X1, S1, g1, ⟨Lc, hq, l1, y1, z1, C1⟩, st1⟩ := callSS X hx (y := y) hown (mvT hZ w1) (mvT hZ w2) (mvT hZ w3) (mvT hZ w4) hy B (g := mkF m pc Ls st) rfl hsize (argsL := argsL) (rest := rest) hlen hst (by show 2 * 0 + _ ≤ _; omega) hd (fun _ _ => ⟨rfl, eT, hc, hs⟩)
  dsimp only [Pt.U, Pt.locs, Pt.cells, Pt.slots] at X1 l1 y1 z1 st1 hq S1 g1 C1
  subst l1 y1 z1
  have q := hQ _ _ _ hq
  have hh : k0 ≤ T1.heap.size := Nat.le_trans h2 (eT ▸ g1)
  exact Ends.go (fun t r => st1.trans r) (K v T1.vm T1 _ Lc ⟨_, X1, rfl, Fr.app F q, hO⟩ hq (State.Warmed39.trans (t := s.setVm vm0) hZ S1.1) (by rw [show (s.setVm T1.vm).vm = T1.vm from rfl, S1.1.alike.findClass]; exact hown) ⟨_, h1.trans S1 hh, Nat.le_refl _, h3.trans C1⟩)
/-- a constructor that may intern -/
theorem gSpecialW {bytes : ByteArray} {maxL : Nat} {a : Addr} (hy1 : y.name = "<init>") (N : Now p l e R (s.setVm vm0) m args below meth c Z T h k n) (hx : p.tables.exec = Jvm.exec) (hZ : Z.Warmed39 (s.setVm vm0).vm) (hown : (s.setVm vm0).vm.findClass own = some m.cls) (wd : Wd Z s EL vm0 h)
    (w1 : (Jvm.Cond.methodLink own index y).before a0 Z = true) (w2 : (Jvm.Cond.instanceMethod y).before a0 Z = true) (w4 : (Jvm.Cond.code y bytes maxL none).before a0 Z = true) (hy : y.cls ≠ "java/lang/invoke/MethodHandle" ∧ y.cls ≠ "java/lang/invoke/VarHandle")
    (B : BackS l R p e below (s.setVm vm0) args y 3 W (PreN R (.ref a :: argsL).toArray h k1 n1) (PostW Z EL vm0 h Qc k1 n1)) (hd : decode c.code pc = .ok (.invokespecial index, 3)) (hst : st = argsL.reverse ++ .ref a :: rest) (hsize : Ls.size = c.maxLocals) (hlen : ∀ sig, parseMethodDescriptor y.desc = some sig → argsL.length = sig.parameters.length) (hW : (rest.map fun v => v.category).sum ≤ W)
    (hc : k + k1 ≤ R.cells) (hs : n + n1 ≤ R.slots) (hQ : ∀ v h' L, Qc v h' L → Fr Z.heap.size L)
    (K : ∀ v vm1 T' h' L, Now p l e R (s.setVm vm1) m args below meth c Z T' h' (k + k1) (n + n1) → Qc v h' L → Z.Warmed39 (s.setVm vm1).vm → (s.setVm vm1).vm.findClass own = some m.cls → Wd Z s EL vm1 h' → Ends p e below Φ T' (mkF m (pc + 3) Ls (v.toList ++ rest))) :
    Ends p e below Φ T (mkF m pc Ls st) := by
  obtain ⟨L, X, eT, F, hO⟩ := N
  obtain ⟨k0, h1, h2, h3⟩ := wd
  obtain ⟨v, _, ⟨T1, L1, q1, q2⟩, -, X1, S1, g1, ⟨Lc, hq, l1, y1, z1, C1⟩, st1⟩ := X.specialBackS hx (y := y) hy1 hown (mvT hZ w1) (mvT hZ w2) (mvT hZ w4) hy B (g := mkF m pc Ls st) rfl hsize (Steps.refl _) (a := a) (argsL := argsL) (rest := rest) hlen hst (by show 2 * 0 + _ ≤ _; omega) hd (fun _ _ => ⟨rfl, eT, hc, hs⟩)
  dsimp only [Pt.U, Pt.locs, Pt.cells, Pt.slots] at X1 l1 y1 z1 st1 hq S1 g1 C1
  subst l1 y1 z1
  have q := hQ _ _ _ hq
  have hh : k0 ≤ T1.heap.size := Nat.le_trans h2 (eT ▸ g1)
  exact Ends.go (fun t r => st1.trans r) (K v T1.vm T1 _ Lc ⟨_, X1, rfl, Fr.app F q, hO⟩ hq (State.Warmed39.trans (t := s.setVm vm0) hZ S1.1) (by rw [show (s.setVm T1.vm).vm = T1.vm from rfl, S1.1.alike.findClass]; exact hown) ⟨_, h1.trans S1 hh, Nat.le_refl _, h3.trans C1⟩)
/-- an instance method that may intern -/
theorem gVirtualW {C : String} {z : MethodName} {b : Addr} (N : Now p l e R (s.setVm vm0) m args below meth c Z T h k n) (hx : p.tables.exec = Jvm.exec) (hZ : Z.Warmed39 (s.setVm vm0).vm) (hown : (s.setVm vm0).vm.findClass own = some m.cls) (wd : Wd Z s EL vm0 h)
    (w1 : (Jvm.Cond.methodLink own index y).before a0 Z = true) (w2 : (Jvm.Cond.declares y).before a0 Z = true) (w3 : (Jvm.Cond.selects C y z).before a0 Z = true) (w4 : (Jvm.Cond.instanceMethod z).before a0 Z = true) (hy : y.cls ≠ "java/lang/invoke/MethodHandle" ∧ y.cls ≠ "java/lang/invoke/VarHandle")
    (hnf : NotFace (s.setVm vm0) y) (E : Exa Z h b C)
    (B : BackS l R p e below (s.setVm vm0) args z 3 W (PreN R (.ref b :: argsL).toArray h k1 n1) (PostW Z EL vm0 h Qc k1 n1)) (hd : decode c.code pc = .ok (.invokevirtual index, 3)) (hst : st = argsL.reverse ++ .ref b :: rest) (hsize : Ls.size = c.maxLocals) (hlen : ∀ sig, parseMethodDescriptor y.desc = some sig → argsL.length = sig.parameters.length) (hW : (rest.map fun v => v.category).sum ≤ W)
    (hc : k + k1 ≤ R.cells) (hs : n + n1 ≤ R.slots) (hQ : ∀ v h' L, Qc v h' L → Fr Z.heap.size L)
    (K : ∀ v vm1 T' h' L, Now p l e R (s.setVm vm1) m args below meth c Z T' h' (k + k1) (n + n1) → Qc v h' L → Z.Warmed39 (s.setVm vm1).vm → (s.setVm vm1).vm.findClass own = some m.cls → Wd Z s EL vm1 h' → Ends p e below Φ T' (mkF m (pc + 3) Ls (v.toList ++ rest))) :
    Ends p e below Φ T (mkF m pc Ls st) := by
  obtain ⟨L, X, eT, F, hO⟩ := N
  obtain ⟨k0, h1, h2, h3⟩ := wd
  obtain ⟨cq, kq, qa, qb, qc⟩ := isOf hZ eT E
  obtain ⟨v, _, ⟨T1, L1, q1, q2⟩, -, X1, S1, g1, ⟨Lc, hq, l1, y1, z1, C1⟩, st1⟩ := X.virtualBackS hx (y := y) (z := z) hown (mvT hZ w1) (mvT hZ w2) hnf (mvT hZ w3) (mvT hZ w4) hy B qa qc (g := mkF m pc Ls st) rfl hsize (Steps.refl _) (argsL := argsL) (rest := rest) hlen hst (by show 2 * 0 + _ ≤ _; omega) hd (fun _ _ => ⟨rfl, eT, hc, hs⟩)
  dsimp only [Pt.U, Pt.locs, Pt.cells, Pt.slots] at X1 l1 y1 z1 st1 hq S1 g1 C1
  subst l1 y1 z1
  have q := hQ _ _ _ hq
  have hh : k0 ≤ T1.heap.size := Nat.le_trans h2 (eT ▸ g1)
  exact Ends.go (fun t r => st1.trans r) (K v T1.vm T1 _ Lc ⟨_, X1, rfl, Fr.app F q, hO⟩ hq (State.Warmed39.trans (t := s.setVm vm0) hZ S1.1) (by rw [show (s.setVm T1.vm).vm = T1.vm from rfl, S1.1.alike.findClass]; exact hown) ⟨_, h1.trans S1 hh, Nat.le_refl _, h3.trans C1⟩)
theorem MetW.back {bytes : ByteArray} {maxL : Nat} {ret : Option FieldType} {rm : Room} {len : Nat} {as' : Array Value} (hM : MetW l Z EL y bytes maxL ret [] rm as' h Q)
    (hZ : Z.Warmed39 (s.setVm vm0).vm) (wc : (Jvm.Cond.code y bytes maxL ret).before a0 Z = true) (wz : (Jvm.Cond.initialized y.cls).before a0 Z = true) (hf : rm.frames + 1 ≤ R.frames) (hl : W + (maxL + 11) + rm.locals ≤ R.locals) (hEL : EW Z a0 EL) (wd : Wd Z s EL vm0 h) :
    BackS l R p e below (s.setVm vm0) args y len W (PreN R as' h rm.cells rm.slots) (PostW Z EL vm0 h (fun v h' L => Q v h' ∧ Fr Z.heap.size L) rm.cells rm.slots) := backOfSH (Q := fun v h' L => Q v h' ∧ Fr Z.heap.size L) hM hZ wc wz hf hl hEL wd.held
end Steps
end OwnWide
end Jvm.Pilot.@@N@@
namespace Jvm.Pilot.@@N@@
open Jvm Jvm.ClassFile Sem Op Lib Jvm.Free Jvm.Stand Jvm.LawKit Jvm.RoadKit Bundle Jvm.Pilot.@@N@@.Jvm.D
abbrev ownEL : List (String × Nat) := []
theorem elw {Z : State} {a0 : Array Value} (hw : ∀ d ∈ tables_1, d.before a0 Z = true) : EW Z a0 ownEL := EW.nil
theorem satoms {Z : State} {a0 : Array Value} (hw : ∀ d ∈ tables_1, d.before a0 Z = true) : ∀ a ∈ Bundle.stringAtoms, a.before a0 Z = true := fun d hd => hw d ((by decide +kernel : ∀ d ∈ Bundle.stringAtoms, d ∈ tables_1) d hd)
theorem safe_nil {Z : State} {vm : Vm} {h : Heap} {x : Addr} : Safe Z ownEL vm h x := fun B => by obtain ⟨p, hp, -⟩ := B; cases hp
theorem fr_nil {Z : State} {L : List Loc} (q : L = []) : Fr Z.heap.size L := q ▸ Fr.nil _
theorem hp_nil : ∀ c ∈ ([] : List Int32), ¬ c < 0 ∧ ¬ (255 : Int32) < c := fun _ q => nomatch q
theorem hp_cons {c : Int32} {cs : List Int32} (h : ¬ c < 0 ∧ ¬ (255 : Int32) < c) (r : ∀ c ∈ cs, ¬ c < 0 ∧ ¬ (255 : Int32) < c) : ∀ c' ∈ c :: cs, ¬ c' < 0 ∧ ¬ (255 : Int32) < c' := fun c' q => (List.mem_cons.mp q).elim (fun e => e ▸ h) (r c')
theorem all256 {Q : Int32 → Prop} (hQ : ∀ k : Fin 256, Q (Int32.ofNat k.val)) {c : Int32} (h : ¬ c < 0 ∧ ¬ (255 : Int32) < c) : Q c := by
  have e0 : (0 : Int32).toInt = 0 := rfl
  have e255 : (255 : Int32).toInt = 255 := rfl
  rw [Int32.lt_iff_toInt_lt, Int32.lt_iff_toInt_lt] at h
  have hk : c.toInt.toNat < 256 := by omega
  have e : Int32.ofNat c.toInt.toNat = c := Int32.toInt_inj.mp (by rw [show (Int32.ofNat c.toInt.toNat).toInt = (c.toInt.toNat : Int) from len_toInt (by omega)]; omega)
  have q := hQ ⟨c.toInt.toNat, hk⟩
  rw [e] at q; exact q
theorem and255 (x : Int32) : ¬ (x &&& (255 : Int32)) < 0 ∧ ¬ (255 : Int32) < (x &&& (255 : Int32)) := by
  have q := c_and x (255 : Int32) (by decide)
  have e7 : (255 : Int32).toInt = 255 := rfl
  have e0 : (0 : Int32).toInt = 0 := rfl
  rw [Int32.lt_iff_toInt_lt, Int32.lt_iff_toInt_lt]; omega
theorem nar_ok {c : Int32} (h : ¬ c < 0 ∧ ¬ (255 : Int32) < c) : nar .char c = c := all256 (Q := fun c => nar .char c = c) (by decide +kernel) h
theorem byte_ok {c : Int32} (h : ¬ c < 0 ∧ ¬ (255 : Int32) < c) : nar .char (nar .char (c.toInt8.toInt32 &&& (255 : Int32))) = c := all256 (Q := fun c => nar .char (nar .char (c.toInt8.toInt32 &&& (255 : Int32))) = c) (by decide +kernel) h
def tabA : List Int32 := [1207963663, 1207963663, 1207963663, 1207963663, 1207963663, 1207963663, 1207963663, 1207963663, 1207963663, 1476411407, 1342193679, 1476411407, 1610629135, 1342193679, 1207963663, 1207963663, 1207963663, 1207963663, 1207963663, 1207963663, 1207963663, 1207963663, 1207963663, 1207963663, 1207963663, 1207963663, 1207963663, 1207963663, 1342193679, 1342193679, 1342193679, 1476411407, 1610629132, 1744830488, 1744830488, 671088664, 671113242, 671088664, 1744830488, 1744830488, -402653163, -402653162, 1744830488, 536870937, 939524120, 536870932, 939524120, 939524120, 402667017, 402667017, 402667017, 402667017, 402667017, 402667017, 402667017, 402667017, 402667017, 402667017, 939524120, 1744830488, -402653159, 1744830489, -402653159, 1744830488, 1744830488, 8552417, 8552417, 8552417, 8552417, 8552417, 8552417, 8552417, 8552417, 8552417, 8552417, 8552417, 8552417, 8552417, 8552417, 8552417, 8552417, 8552417, 8552417, 8552417, 8552417, 8552417, 8552417, 8552417, 8552417, 8552417, 8552417, -402653163, 1744830488, -402653162, 1744830491, 1744850967, 1744830491, 8486882, 8486882, 8486882, 8486882, 8486882, 8486882, 8486882, 8486882, 8486882, 8486882, 8486882, 8486882, 8486882, 8486882, 8486882, 8486882, 8486882, 8486882, 8486882, 8486882, 8486882, 8486882, 8486882, 8486882, 8486882, 8486882, -402653163, 1744830489, -402653162, 1744830489, 1207963663, 1207963663, 1207963663, 1207963663, 1207963663, 1207963663, 1342181391, 1207963663, 1207963663, 1207963663, 1207963663, 1207963663, 1207963663, 1207963663, 1207963663, 1207963663, 1207963663, 1207963663, 1207963663, 1207963663, 1207963663, 1207963663, 1207963663, 1207963663, 1207963663, 1207963663, 1207963663, 1207963663, 1207963663, 1207963663, 1207963663, 1207963663, 1207963663, 939524108, 1744830488, 671113242, 671113242, 671113242, 671113242, 1744830492, 1744830488, 1744830491, 1744830492, 28677, -402653155, 1744830489, 1207963664, 1744830492, 1744830491, 671088668, 671088665, 402654731, 402654731, 1744830491, 134049794, 1744830488, 1744830488, 1744830491, 402654475, 28677, -402653154, 1744832523, 1744832523, 1744832523, 1744830488, 8548353, 8548353, 8548353, 8548353, 8548353, 8548353, 8548353, 8548353, 8548353, 8548353, 8548353, 8548353, 8548353, 8548353, 8548353, 8548353, 8548353, 8548353, 8548353, 8548353, 8548353, 8548353, 8548353, 1744830489, 8548353, 8548353, 8548353, 8548353, 8548353, 8548353, 8548353, 134049794, 8482818, 8482818, 8482818, 8482818, 8482818, 8482818, 8482818, 8482818, 8482818, 8482818, 8482818, 8482818, 8482818, 8482818, 8482818, 8482818, 8482818, 8482818, 8482818, 8482818, 8482818, 8482818, 8482818, 1744830489, 8482818, 8482818, 8482818, 8482818, 8482818, 8482818, 8482818, 102592514]
def pr (c : Int32) : Int32 := tabA.getD c.toNatClampNeg 0
theorem map_getD (l : List Int32) (i : Nat) : (l.map Value.int).getD i (.int 0) = .int (l.getD i 0) := by
  rw [List.getD_eq_getElem?_getD, List.getD_eq_getElem?_getD, List.getElem?_map]; cases l[i]? <;> rfl
def Solid (cs : List Int32) : Prop := ∃ c r, cs = c :: r ∧ ¬ c = (32 : Int32) ∧ ¬ c = (9 : Int32) ∧ ¬ (pr c &&& (28672 : Int32)) = (16384 : Int32)
def Cdl (Z : State) : Prop := (∃ ci, Sta Z Z.heap "java/lang/CharacterDataLatin1" "instance" "Ljava/lang/CharacterDataLatin1;" (.ref ci) ∧ Exa Z Z.heap ci "java/lang/CharacterDataLatin1") ∧ ∃ aa kA, Sta Z Z.heap "java/lang/CharacterDataLatin1" "A" "[I" (.ref aa) ∧ Arv Z Z.heap aa kA .int (256 : Int32) (tabA.map Value.int) (.int 0)
theorem hasL_of {c : Cell} : ∀ (vs : List Value) (i : Nat), (∀ j, j < vs.length → c.slots[i + j]? = some (vs.getD j (.int 0))) → HasL c i vs
  | [], _, _ => trivial
  | v :: r, i, H => ⟨H 0 (Nat.succ_pos _), hasL_of r (i + 1) fun j hj => by have q := H (j + 1) (Nat.succ_lt_succ hj); rw [show i + 1 + j = i + (j + 1) from by omega]; exact q⟩
theorem len_ok {args : Array Value} {s : State} {t : Term} {x : Addr} {cl : Cell} {z : Int32} (h : (Term.length t).eval args s none [] s = some (.int z)) (ht : t.eval args s none [] s = some (.ref x)) (ha : s.arrayAt? x = some cl) : cl.slots.size < 2 ^ 31 ∧ cl.slots.size.toInt32 = z := by
  simp [Term.eval, ht, ha] at h; exact h
theorem tab_words : ∀ k : Fin 256, jdkStatics_1[17 + k.val]? = some (Jvm.Cond.eq (Term.elem (Term.static "java/lang/CharacterDataLatin1" "A" "[I") (Term.int (Int32.ofNat k.val))) (Term.int (tabA.getD k.val 0))) := by decide +kernel
theorem cdl_start {s : State} {args : Array Value} (hf : Fit s) (hsets : ∀ d ∈ jdkStatics_1, d.before args s = true) : Cdl s := by
  have x1 := Cond.before_iff.mp (hsets _ (List.mem_of_getElem? (i := 11) rfl))
  obtain ⟨ci, e1⟩ := exa_v x1
  have x2 := Cond.before_iff.mp (hsets _ (List.mem_of_getElem? (i := 14) rfl))
  obtain ⟨aa, e2⟩ := arr_v x2
  obtain ⟨cl, A⟩ := Arr.start e2 x2
  have x3 := eqv_i (Term.int_eval 256) (Cond.before_iff.mp (hsets _ (List.mem_of_getElem? (i := 16) rfl)))
  obtain ⟨l1, l2⟩ := len_ok x3 e2 (Arr.fin (.refl _) A)
  refine ⟨⟨ci, Sta.start e1 (Or.inl (hsets _ (List.mem_of_getElem? (i := 10) rfl))), Exa.start e1 x1⟩, aa, cl.cls, Sta.start e2 (Or.inl (hsets _ (List.mem_of_getElem? (i := 13) rfl))), Arv.start hf A l1 l2 (by decide) (by decide +kernel) (hasL_of _ 0 fun j hj => ?_)⟩
  have hj : j < 256 := by have q : (tabA.map Value.int).length = 256 := by decide +kernel
                          omega
  have y1 := eqv_i (Term.int_eval _) (Cond.before_iff.mp (hsets _ (List.mem_of_getElem? (tab_words ⟨j, hj⟩))))
  have y2 := (elem_in y1 e2 (Term.int_eval _) A.1).2
  rw [map_getD, Nat.zero_add]
  have e9 : (Int32.ofNat j).toNatClampNeg = j := by
    have q : (Int32.ofNat j).toInt = j := len_toInt (by omega)
    simp only [Int32.toNatClampNeg, q]; omega
  rw [e9] at y2; exact y2
theorem not_cv {Z : State} {a0 : Array Value} (hw : ∀ d ∈ tables_1, d.before a0 Z = true) : ∃ c t, Z.vm.findClass "java/lang/String" = some c ∧ Z.vm.findClass "com/example/acre/acre/model/CodedValue" = some t ∧ Z.vm.assignable c t = false := by
  have w := (hw _ (List.mem_of_getElem? (i := 138) rfl))
  obtain ⟨o, ko, o1, o2, o3, o4, o5⟩ := Cond.noSuperclass_spec (hw _ (List.mem_of_getElem? (i := 139) rfl))
  obtain ⟨c, h0⟩ := found_sup w
  obtain ⟨pp, k, kp, h1, h2, h3, h4, h5, -, h7⟩ := Cond.superclass_spec h0 w
  obtain ⟨t, kt, g0, g2, g5, g7, -⟩ := Cond.instantiable_spec (hw _ (List.mem_of_getElem? (i := 5) rfl))
  cases o1.symm.trans h1
  have n1 := ids_ne h0 g0 (by decide)
  have n2 := ids_ne o1 g0 (by decide)
  have g8 : kt.isInterface = false := by cases q : kt.isInterface with | false => rfl | true => rw [q] at g7; cases g7
  refine ⟨c, t, h0, g0, ?_⟩
  show Z.vm.assignableAux (255 + 1) c t = false
  have n3 : ∀ fuel, Z.vm.isSubclassAux fuel o t = false := fun fuel => by
    cases fuel with
    | zero => rfl
    | succ f => simp [Vm.isSubclassAux, n2, o2, o3]
  have n4 : ∀ fuel, Z.vm.isSubclassAux fuel c t = false := fun fuel => by
    cases fuel with
    | zero => rfl
    | succ f => simp [Vm.isSubclassAux, n1, h2, h4, n3]
  simp [Vm.assignableAux, n1, h2, g2, h5, g5, g8, Vm.isSubclass, n4]
def CVb (Z : State) (h : Heap) (x : Addr) (cs ss : List Int32) : Prop := Exa Z h x "com/example/acre/acre/model/CodedValue" ∧ ∃ a b, Fld Z h x "com/example/acre/acre/model/CodedValue" "code" "Ljava/lang/String;" (.ref a) ∧ Fld Z h x "com/example/acre/acre/model/CodedValue" "codeSystem" "Ljava/lang/String;" (.ref b) ∧ Str Z h a cs ∧ Str Z h b ss
theorem CVb.ext {Z : State} {h h' : Heap} {x : Addr} {cs ss : List Int32} (V : CVb Z h x cs ss) (E : Ext h h') : CVb Z h' x cs ss := by
  obtain ⟨v1, a, b, v2, v3, v4, v5⟩ := V
  exact ⟨v1.ext E, a, b, v2.ext E, v3.ext E, v4.ext E, v5.ext E⟩
theorem sn_code_codeSystem {Z : State} {a0 : Array Value} (hw : ∀ d ∈ tables_1, d.before a0 Z = true) : RoadKit.slotOf Z "com/example/acre/acre/model/CodedValue" "code" "Ljava/lang/String;" ≠ RoadKit.slotOf Z "com/example/acre/acre/model/CodedValue" "codeSystem" "Ljava/lang/String;" := slot_ne (C := "com/example/acre/acre/model/CodedValue") (t := (.object "java/lang/String")) (t' := (.object "java/lang/String")) (Or.inr (hw _ (List.mem_of_getElem? (i := 111) rfl))) (Or.inr (hw _ (List.mem_of_getElem? (i := 113) rfl))) (by decide) (by decide) (by decide)
theorem sn_code_displayName {Z : State} {a0 : Array Value} (hw : ∀ d ∈ tables_1, d.before a0 Z = true) : RoadKit.slotOf Z "com/example/acre/acre/model/CodedValue" "code" "Ljava/lang/String;" ≠ RoadKit.slotOf Z "com/example/acre/acre/model/CodedValue" "displayName" "Ljava/lang/String;" := slot_ne (C := "com/example/acre/acre/model/CodedValue") (t := (.object "java/lang/String")) (t' := (.object "java/lang/String")) (Or.inr (hw _ (List.mem_of_getElem? (i := 111) rfl))) (Or.inr (hw _ (List.mem_of_getElem? (i := 115) rfl))) (by decide) (by decide) (by decide)
theorem sn_codeSystem_code {Z : State} {a0 : Array Value} (hw : ∀ d ∈ tables_1, d.before a0 Z = true) : RoadKit.slotOf Z "com/example/acre/acre/model/CodedValue" "codeSystem" "Ljava/lang/String;" ≠ RoadKit.slotOf Z "com/example/acre/acre/model/CodedValue" "code" "Ljava/lang/String;" := slot_ne (C := "com/example/acre/acre/model/CodedValue") (t := (.object "java/lang/String")) (t' := (.object "java/lang/String")) (Or.inr (hw _ (List.mem_of_getElem? (i := 113) rfl))) (Or.inr (hw _ (List.mem_of_getElem? (i := 111) rfl))) (by decide) (by decide) (by decide)
theorem sn_codeSystem_displayName {Z : State} {a0 : Array Value} (hw : ∀ d ∈ tables_1, d.before a0 Z = true) : RoadKit.slotOf Z "com/example/acre/acre/model/CodedValue" "codeSystem" "Ljava/lang/String;" ≠ RoadKit.slotOf Z "com/example/acre/acre/model/CodedValue" "displayName" "Ljava/lang/String;" := slot_ne (C := "com/example/acre/acre/model/CodedValue") (t := (.object "java/lang/String")) (t' := (.object "java/lang/String")) (Or.inr (hw _ (List.mem_of_getElem? (i := 113) rfl))) (Or.inr (hw _ (List.mem_of_getElem? (i := 115) rfl))) (by decide) (by decide) (by decide)
theorem sn_displayName_code {Z : State} {a0 : Array Value} (hw : ∀ d ∈ tables_1, d.before a0 Z = true) : RoadKit.slotOf Z "com/example/acre/acre/model/CodedValue" "displayName" "Ljava/lang/String;" ≠ RoadKit.slotOf Z "com/example/acre/acre/model/CodedValue" "code" "Ljava/lang/String;" := slot_ne (C := "com/example/acre/acre/model/CodedValue") (t := (.object "java/lang/String")) (t' := (.object "java/lang/String")) (Or.inr (hw _ (List.mem_of_getElem? (i := 115) rfl))) (Or.inr (hw _ (List.mem_of_getElem? (i := 111) rfl))) (by decide) (by decide) (by decide)
theorem sn_displayName_codeSystem {Z : State} {a0 : Array Value} (hw : ∀ d ∈ tables_1, d.before a0 Z = true) : RoadKit.slotOf Z "com/example/acre/acre/model/CodedValue" "displayName" "Ljava/lang/String;" ≠ RoadKit.slotOf Z "com/example/acre/acre/model/CodedValue" "codeSystem" "Ljava/lang/String;" := slot_ne (C := "com/example/acre/acre/model/CodedValue") (t := (.object "java/lang/String")) (t' := (.object "java/lang/String")) (Or.inr (hw _ (List.mem_of_getElem? (i := 115) rfl))) (Or.inr (hw _ (List.mem_of_getElem? (i := 113) rfl))) (by decide) (by decide) (by decide)
theorem d1_0 : decode method_7_code 0 = .ok (.iload_n 1, 1) := by decide +kernel
theorem d1_1 : decode method_7_code 1 = .ok (.iconst 3, 1) := by decide +kernel
theorem d1_2 : decode method_7_code 2 = .ok (.iand, 1) := by decide +kernel
theorem d1_3 : decode method_7_code 3 = .ok (.ifCond .ne 5, 3) := by decide +kernel
theorem d1_6 : decode method_7_code 6 = .ok (.iload_n 0, 1) := by decide +kernel
theorem d1_7 : decode method_7_code 7 = .ok (.ireturn, 1) := by decide +kernel
theorem d1_8 : decode method_7_code 8 = .ok (.iload_n 0, 1) := by decide +kernel
theorem d1_9 : decode method_7_code 9 = .ok (.iload_n 1, 1) := by decide +kernel
theorem d1_10 : decode method_7_code 10 = .ok (.iconst 2, 1) := by decide +kernel
theorem d1_11 : decode method_7_code 11 = .ok (.iushr, 1) := by decide +kernel
theorem d1_12 : decode method_7_code 12 = .ok (.ixor, 1) := by decide +kernel
theorem d1_13 : decode method_7_code 13 = .ok (.ireturn, 1) := by decide +kernel
def f_par (p0 : Int32) (p1 : Int32) : Int32 := (if (p1 &&& (3 : Int32)) = 0 then p0 else (p0 ^^^ (XT.ushr p1 (2 : Int32))))
set_option maxRecDepth 65536 in
set_option maxHeartbeats 40000000 in
theorem rm1 (l : Launch) (Z : State) (a0 : Array Value) (hw : ∀ d ∈ tables_1, d.before a0 Z = true) (p0 : Int32) (p1 : Int32) (h0 : Heap) (Z0 : Ext Z.heap h0) :
    MetN l Z (⟨"com/example/acre/acre/model/CodedValueEqualsPinLaw", "partner", "(II)I"⟩ : MethodName) method_7_code 2 (some .int) [] ({ frames := 0, cells := 0, slots := 0, locals := 0 } : Room) #[(.int p0), (.int p1)] h0 (fun v h => v = some (.int (f_par p0 p1)) ∧ h = h0) := by
  refine metN (by first | exact plainFor_of_name (by first | (simp [plainName, overriddenIn]; done) | decide +kernel) | decide +kernel) Z0 (Ls := #[.val (.int p0), .val (.int p1)]) (fun m => by first | (simp [entryFrame, mkF, argsToLocals, Value.category]; done) | rfl) ?_
  intro p e s m below meth c T0 hx hby hml hret hlk hown hnm hZ N0
  refine Ends.go (f' := (mkF m 1 #[.val (.int p0), .val (.int p1)] [(.int p1)])) (fun t k => XS.iloadN N0.here hx rfl (hb hby d1_0) rfl k) ?_
  refine Ends.go (f' := (mkF m 2 #[.val (.int p0), .val (.int p1)] [(.int (3 : Int32)), (.int p1)])) (fun t k => XS.iconst N0.here hx rfl (hb hby d1_1) k) ?_
  refine Ends.go (f' := (mkF m 3 #[.val (.int p0), .val (.int p1)] [(.int (p1 &&& (3 : Int32)))])) (fun t k => XS.iand N0.here hx rfl (hb hby d1_2) rfl k) ?_
  by_cases c1 : (p1 &&& (3 : Int32)) = 0
  · refine Ends.go (f' := (mkF m 6 #[.val (.int p0), .val (.int p1)] [])) (fun t k => XS.ifNo N0.here hx rfl (hb hby d1_3) rfl (XT.i0_ne_f c1) k) ?_
    refine Ends.go (f' := (mkF m 7 #[.val (.int p0), .val (.int p1)] [(.int p0)])) (fun t k => XS.iloadN N0.here hx rfl (hb hby d1_6) rfl k) ?_
    exact retI N0 hx hlk hret (hb hby d1_7) ⟨by simp only [f_par, if_pos c1], rfl⟩ (nle rfl) (nle rfl)
  · refine Ends.go (f' := (mkF m 8 #[.val (.int p0), .val (.int p1)] [])) (fun t k => XS.ifYes N0.here hx rfl (pc0 := 3) (pc' := 8) rfl (hb hby d1_3) rfl (XT.i0_ne_t c1) (by decide) (by decide) k) ?_
    refine Ends.go (f' := (mkF m 9 #[.val (.int p0), .val (.int p1)] [(.int p0)])) (fun t k => XS.iloadN N0.here hx rfl (hb hby d1_8) rfl k) ?_
    refine Ends.go (f' := (mkF m 10 #[.val (.int p0), .val (.int p1)] [(.int p1), (.int p0)])) (fun t k => XS.iloadN N0.here hx rfl (hb hby d1_9) rfl k) ?_
    refine Ends.go (f' := (mkF m 11 #[.val (.int p0), .val (.int p1)] [(.int (2 : Int32)), (.int p1), (.int p0)])) (fun t k => XS.iconst N0.here hx rfl (hb hby d1_10) k) ?_
    refine Ends.go (f' := (mkF m 12 #[.val (.int p0), .val (.int p1)] [(.int (XT.ushr p1 (2 : Int32))), (.int p0)])) (fun t k => XT.iushr N0.here hx rfl (hb hby d1_11) rfl k) ?_
    refine Ends.go (f' := (mkF m 13 #[.val (.int p0), .val (.int p1)] [(.int (p0 ^^^ (XT.ushr p1 (2 : Int32))))])) (fun t k => XT.ixor N0.here hx rfl (hb hby d1_12) rfl k) ?_
    exact retI N0 hx hlk hret (hb hby d1_13) ⟨by simp only [f_par, if_neg c1], rfl⟩ (nle rfl) (nle rfl)
theorem d3_0 : decode method_4_code 0 = .ok (.iconst 1, 1) := by decide +kernel
theorem d3_1 : decode method_4_code 1 = .ok (.iload_n 0, 1) := by decide +kernel
theorem d3_2 : decode method_4_code 2 = .ok (.bipush 16, 2) := by decide +kernel
theorem d3_4 : decode method_4_code 4 = .ok (.iushr, 1) := by decide +kernel
theorem d3_5 : decode method_4_code 5 = .ok (.iconst 1, 1) := by decide +kernel
theorem d3_6 : decode method_4_code 6 = .ok (.iand, 1) := by decide +kernel
theorem d3_7 : decode method_4_code 7 = .ok (.iadd, 1) := by decide +kernel
theorem d3_8 : decode method_4_code 8 = .ok (.ireturn, 1) := by decide +kernel
def f_len (p0 : Int32) : Int32 := ((1 : Int32) + ((XT.ushr p0 (16 : Int32)) &&& (1 : Int32)))
set_option maxRecDepth 65536 in
set_option maxHeartbeats 40000000 in
theorem rm3 (l : Launch) (Z : State) (a0 : Array Value) (hw : ∀ d ∈ tables_1, d.before a0 Z = true) (p0 : Int32) (h0 : Heap) (Z0 : Ext Z.heap h0) :
    MetN l Z (⟨"com/example/acre/acre/model/CodedValueEqualsPinLaw", "len", "(I)I"⟩ : MethodName) method_4_code 1 (some .int) [] ({ frames := 0, cells := 0, slots := 0, locals := 0 } : Room) #[(.int p0)] h0 (fun v h => v = some (.int (f_len p0)) ∧ h = h0) := by
  refine metN (by first | exact plainFor_of_name (by first | (simp [plainName, overriddenIn]; done) | decide +kernel) | decide +kernel) Z0 (Ls := #[.val (.int p0)]) (fun m => by first | (simp [entryFrame, mkF, argsToLocals, Value.category]; done) | rfl) ?_
  intro p e s m below meth c T0 hx hby hml hret hlk hown hnm hZ N0
  refine Ends.go (f' := (mkF m 1 #[.val (.int p0)] [(.int (1 : Int32))])) (fun t k => XS.iconst N0.here hx rfl (hb hby d3_0) k) ?_
  refine Ends.go (f' := (mkF m 2 #[.val (.int p0)] [(.int p0), (.int (1 : Int32))])) (fun t k => XS.iloadN N0.here hx rfl (hb hby d3_1) rfl k) ?_
  refine Ends.go (f' := (mkF m 4 #[.val (.int p0)] [(.int (16 : Int32)), (.int p0), (.int (1 : Int32))])) (fun t k => XS.bipush N0.here hx rfl (hb hby d3_2) k) ?_
  refine Ends.go (f' := (mkF m 5 #[.val (.int p0)] [(.int (XT.ushr p0 (16 : Int32))), (.int (1 : Int32))])) (fun t k => XT.iushr N0.here hx rfl (hb hby d3_4) rfl k) ?_
  refine Ends.go (f' := (mkF m 6 #[.val (.int p0)] [(.int (1 : Int32)), (.int (XT.ushr p0 (16 : Int32))), (.int (1 : Int32))])) (fun t k => XS.iconst N0.here hx rfl (hb hby d3_5) k) ?_
  refine Ends.go (f' := (mkF m 7 #[.val (.int p0)] [(.int ((XT.ushr p0 (16 : Int32)) &&& (1 : Int32))), (.int (1 : Int32))])) (fun t k => XS.iand N0.here hx rfl (hb hby d3_6) rfl k) ?_
  refine Ends.go (f' := (mkF m 8 #[.val (.int p0)] [(.int ((1 : Int32) + ((XT.ushr p0 (16 : Int32)) &&& (1 : Int32))))])) (fun t k => XS.iadd N0.here hx rfl (hb hby d3_7) rfl k) ?_
  exact retI N0 hx hlk hret (hb hby d3_8) ⟨rfl, rfl⟩ (nle rfl) (nle rfl)
theorem d4_0 : decode method_2_code 0 = .ok (.iload_n 0, 1) := by decide +kernel
theorem d4_1 : decode method_2_code 1 = .ok (.sipush 255, 3) := by decide +kernel
theorem d4_4 : decode method_2_code 4 = .ok (.iand, 1) := by decide +kernel
theorem d4_5 : decode method_2_code 5 = .ok (.istore_n 1, 1) := by decide +kernel
theorem d4_6 : decode method_2_code 6 = .ok (.iload_n 1, 1) := by decide +kernel
theorem d4_7 : decode method_2_code 7 = .ok (.bipush 32, 2) := by decide +kernel
theorem d4_9 : decode method_2_code 9 = .ok (.if_icmp .gt 10, 3) := by decide +kernel
theorem d4_12 : decode method_2_code 12 = .ok (.iload_n 1, 1) := by decide +kernel
theorem d4_13 : decode method_2_code 13 = .ok (.bipush 64, 2) := by decide +kernel
theorem d4_15 : decode method_2_code 15 = .ok (.iadd, 1) := by decide +kernel
theorem d4_16 : decode method_2_code 16 = .ok (.goto 4, 3) := by decide +kernel
theorem d4_19 : decode method_2_code 19 = .ok (.iload_n 1, 1) := by decide +kernel
theorem d4_20 : decode method_2_code 20 = .ok (.i2c, 1) := by decide +kernel
theorem d4_21 : decode method_2_code 21 = .ok (.ireturn, 1) := by decide +kernel
def f_fc (p0 : Int32) : Int32 := (if (32 : Int32) < (p0 &&& (255 : Int32)) then (nar .char (nar .char (p0 &&& (255 : Int32)))) else (nar .char (nar .char ((p0 &&& (255 : Int32)) + (64 : Int32)))))
set_option maxRecDepth 65536 in
set_option maxHeartbeats 40000000 in
theorem rm4 (l : Launch) (Z : State) (a0 : Array Value) (hw : ∀ d ∈ tables_1, d.before a0 Z = true) (p0 : Int32) (h0 : Heap) (Z0 : Ext Z.heap h0) :
    MetN l Z (⟨"com/example/acre/acre/model/CodedValueEqualsPinLaw", "firstChar", "(I)C"⟩ : MethodName) method_2_code 2 (some .char) [] ({ frames := 0, cells := 0, slots := 0, locals := 0 } : Room) #[(.int p0)] h0 (fun v h => v = some (.int (f_fc p0)) ∧ h = h0) := by
  refine metN (by first | exact plainFor_of_name (by first | (simp [plainName, overriddenIn]; done) | decide +kernel) | decide +kernel) Z0 (Ls := #[.val (.int p0), .unset]) (fun m => by first | (simp [entryFrame, mkF, argsToLocals, Value.category]; done) | rfl) ?_
  intro p e s m below meth c T0 hx hby hml hret hlk hown hnm hZ N0
  refine Ends.go (f' := (mkF m 1 #[.val (.int p0), .unset] [(.int p0)])) (fun t k => XS.iloadN N0.here hx rfl (hb hby d4_0) rfl k) ?_
  refine Ends.go (f' := (mkF m 4 #[.val (.int p0), .unset] [(.int (255 : Int32)), (.int p0)])) (fun t k => XS.sipush N0.here hx rfl (hb hby d4_1) k) ?_
  refine Ends.go (f' := (mkF m 5 #[.val (.int p0), .unset] [(.int (p0 &&& (255 : Int32)))])) (fun t k => XS.iand N0.here hx rfl (hb hby d4_4) rfl k) ?_
  refine Ends.go (f' := (mkF m 6 #[.val (.int p0), .val (.int (p0 &&& (255 : Int32)))] [])) (fun t k => XS.istoreN N0.here hx rfl (hb hby d4_5) rfl (l' := #[.val (.int p0), .val (.int (p0 &&& (255 : Int32)))]) rfl k) ?_
  refine Ends.go (f' := (mkF m 7 #[.val (.int p0), .val (.int (p0 &&& (255 : Int32)))] [(.int (p0 &&& (255 : Int32)))])) (fun t k => XS.iloadN N0.here hx rfl (hb hby d4_6) rfl k) ?_
  refine Ends.go (f' := (mkF m 9 #[.val (.int p0), .val (.int (p0 &&& (255 : Int32)))] [(.int (32 : Int32)), (.int (p0 &&& (255 : Int32)))])) (fun t k => XS.bipush N0.here hx rfl (hb hby d4_7) k) ?_
  by_cases c1 : (32 : Int32) < (p0 &&& (255 : Int32))
  · refine Ends.go (f' := (mkF m 19 #[.val (.int p0), .val (.int (p0 &&& (255 : Int32)))] [])) (fun t k => XS.icmpYes N0.here hx rfl (pc0 := 9) (pc' := 19) rfl (hb hby d4_9) rfl (XT.ii_gt_t c1) (by decide) (by decide) k) ?_
    refine Ends.go (f' := (mkF m 20 #[.val (.int p0), .val (.int (p0 &&& (255 : Int32)))] [(.int (p0 &&& (255 : Int32)))])) (fun t k => XS.iloadN N0.here hx rfl (hb hby d4_19) rfl k) ?_
    refine Ends.go (f' := (mkF m 21 #[.val (.int p0), .val (.int (p0 &&& (255 : Int32)))] [(.int (nar .char (p0 &&& (255 : Int32))))])) (fun t k => XT.i2c N0.here hx rfl (hb hby d4_20) rfl k) ?_
    exact retZ N0 hx hlk hret (by simp) (hb hby d4_21) ⟨by simp only [f_fc, if_pos c1], rfl⟩ (nle rfl) (nle rfl)
  · refine Ends.go (f' := (mkF m 12 #[.val (.int p0), .val (.int (p0 &&& (255 : Int32)))] [])) (fun t k => XS.icmpNo N0.here hx rfl (hb hby d4_9) rfl (XT.ii_gt_f c1) k) ?_
    refine Ends.go (f' := (mkF m 13 #[.val (.int p0), .val (.int (p0 &&& (255 : Int32)))] [(.int (p0 &&& (255 : Int32)))])) (fun t k => XS.iloadN N0.here hx rfl (hb hby d4_12) rfl k) ?_
    refine Ends.go (f' := (mkF m 15 #[.val (.int p0), .val (.int (p0 &&& (255 : Int32)))] [(.int (64 : Int32)), (.int (p0 &&& (255 : Int32)))])) (fun t k => XS.bipush N0.here hx rfl (hb hby d4_13) k) ?_
    refine Ends.go (f' := (mkF m 16 #[.val (.int p0), .val (.int (p0 &&& (255 : Int32)))] [(.int ((p0 &&& (255 : Int32)) + (64 : Int32)))])) (fun t k => XS.iadd N0.here hx rfl (hb hby d4_15) rfl k) ?_
    refine Ends.go (f' := (mkF m 20 #[.val (.int p0), .val (.int (p0 &&& (255 : Int32)))] [(.int ((p0 &&& (255 : Int32)) + (64 : Int32)))])) (fun t k => XS.goto N0.here hx rfl (pc0 := 16) (pc' := 20) rfl (hb hby d4_16) (by decide) (by decide) k) ?_
    refine Ends.go (f' := (mkF m 21 #[.val (.int p0), .val (.int (p0 &&& (255 : Int32)))] [(.int (nar .char ((p0 &&& (255 : Int32)) + (64 : Int32))))])) (fun t k => XT.i2c N0.here hx rfl (hb hby d4_20) rfl k) ?_
    exact retZ N0 hx hlk hret (by simp) (hb hby d4_21) ⟨by simp only [f_fc, if_neg c1], rfl⟩ (nle rfl) (nle rfl)
theorem d28_0 : decode method_3_code 0 = .ok (.iload_n 0, 1) := by decide +kernel
theorem d28_1 : decode method_3_code 1 = .ok (.bipush 8, 2) := by decide +kernel
theorem d28_3 : decode method_3_code 3 = .ok (.iushr, 1) := by decide +kernel
theorem d28_4 : decode method_3_code 4 = .ok (.sipush 255, 3) := by decide +kernel
theorem d28_7 : decode method_3_code 7 = .ok (.iand, 1) := by decide +kernel
theorem d28_8 : decode method_3_code 8 = .ok (.i2c, 1) := by decide +kernel
theorem d28_9 : decode method_3_code 9 = .ok (.ireturn, 1) := by decide +kernel
def f_sc (p0 : Int32) : Int32 := (nar .char (nar .char ((XT.ushr p0 (8 : Int32)) &&& (255 : Int32))))
set_option maxRecDepth 65536 in
set_option maxHeartbeats 40000000 in
theorem rm28 (l : Launch) (Z : State) (a0 : Array Value) (hw : ∀ d ∈ tables_1, d.before a0 Z = true) (p0 : Int32) (h0 : Heap) (Z0 : Ext Z.heap h0) :
    MetN l Z (⟨"com/example/acre/acre/model/CodedValueEqualsPinLaw", "secondChar", "(I)C"⟩ : MethodName) method_3_code 1 (some .char) [] ({ frames := 0, cells := 0, slots := 0, locals := 0 } : Room) #[(.int p0)] h0 (fun v h => v = some (.int (f_sc p0)) ∧ h = h0) := by
  refine metN (by first | exact plainFor_of_name (by first | (simp [plainName, overriddenIn]; done) | decide +kernel) | decide +kernel) Z0 (Ls := #[.val (.int p0)]) (fun m => by first | (simp [entryFrame, mkF, argsToLocals, Value.category]; done) | rfl) ?_
  intro p e s m below meth c T0 hx hby hml hret hlk hown hnm hZ N0
  refine Ends.go (f' := (mkF m 1 #[.val (.int p0)] [(.int p0)])) (fun t k => XS.iloadN N0.here hx rfl (hb hby d28_0) rfl k) ?_
  refine Ends.go (f' := (mkF m 3 #[.val (.int p0)] [(.int (8 : Int32)), (.int p0)])) (fun t k => XS.bipush N0.here hx rfl (hb hby d28_1) k) ?_
  refine Ends.go (f' := (mkF m 4 #[.val (.int p0)] [(.int (XT.ushr p0 (8 : Int32)))])) (fun t k => XT.iushr N0.here hx rfl (hb hby d28_3) rfl k) ?_
  refine Ends.go (f' := (mkF m 7 #[.val (.int p0)] [(.int (255 : Int32)), (.int (XT.ushr p0 (8 : Int32)))])) (fun t k => XS.sipush N0.here hx rfl (hb hby d28_4) k) ?_
  refine Ends.go (f' := (mkF m 8 #[.val (.int p0)] [(.int ((XT.ushr p0 (8 : Int32)) &&& (255 : Int32)))])) (fun t k => XS.iand N0.here hx rfl (hb hby d28_7) rfl k) ?_
  refine Ends.go (f' := (mkF m 9 #[.val (.int p0)] [(.int (nar .char ((XT.ushr p0 (8 : Int32)) &&& (255 : Int32))))])) (fun t k => XT.i2c N0.here hx rfl (hb hby d28_8) rfl k) ?_
  exact retZ N0 hx hlk hret (by simp) (hb hby d28_9) ⟨rfl, rfl⟩ (nle rfl) (nle rfl)
theorem d25_0 : decode method_6_code 0 = .ok (.iload_n 0, 1) := by decide +kernel
theorem d25_1 : decode method_6_code 1 = .ok (.invokestatic 7, 3) := by decide +kernel
theorem d25_4 : decode method_6_code 4 = .ok (.iload_n 1, 1) := by decide +kernel
theorem d25_5 : decode method_6_code 5 = .ok (.invokestatic 7, 3) := by decide +kernel
theorem d25_8 : decode method_6_code 8 = .ok (.if_icmp .eq 5, 3) := by decide +kernel
theorem d25_11 : decode method_6_code 11 = .ok (.iconst 0, 1) := by decide +kernel
theorem d25_12 : decode method_6_code 12 = .ok (.ireturn, 1) := by decide +kernel
theorem d25_13 : decode method_6_code 13 = .ok (.iload_n 0, 1) := by decide +kernel
theorem d25_14 : decode method_6_code 14 = .ok (.invokestatic 15, 3) := by decide +kernel
theorem d25_17 : decode method_6_code 17 = .ok (.iload_n 1, 1) := by decide +kernel
theorem d25_18 : decode method_6_code 18 = .ok (.invokestatic 15, 3) := by decide +kernel
theorem d25_21 : decode method_6_code 21 = .ok (.if_icmp .eq 5, 3) := by decide +kernel
theorem d25_24 : decode method_6_code 24 = .ok (.iconst 0, 1) := by decide +kernel
theorem d25_25 : decode method_6_code 25 = .ok (.ireturn, 1) := by decide +kernel
theorem d25_26 : decode method_6_code 26 = .ok (.iload_n 0, 1) := by decide +kernel
theorem d25_27 : decode method_6_code 27 = .ok (.invokestatic 7, 3) := by decide +kernel
theorem d25_30 : decode method_6_code 30 = .ok (.iconst 1, 1) := by decide +kernel
theorem d25_31 : decode method_6_code 31 = .ok (.if_icmp .ne 5, 3) := by decide +kernel
theorem d25_34 : decode method_6_code 34 = .ok (.iconst 1, 1) := by decide +kernel
theorem d25_35 : decode method_6_code 35 = .ok (.ireturn, 1) := by decide +kernel
theorem d25_36 : decode method_6_code 36 = .ok (.iload_n 0, 1) := by decide +kernel
theorem d25_37 : decode method_6_code 37 = .ok (.invokestatic 22, 3) := by decide +kernel
theorem d25_40 : decode method_6_code 40 = .ok (.iload_n 1, 1) := by decide +kernel
theorem d25_41 : decode method_6_code 41 = .ok (.invokestatic 22, 3) := by decide +kernel
theorem d25_44 : decode method_6_code 44 = .ok (.if_icmp .ne 7, 3) := by decide +kernel
theorem d25_47 : decode method_6_code 47 = .ok (.iconst 1, 1) := by decide +kernel
theorem d25_48 : decode method_6_code 48 = .ok (.goto 4, 3) := by decide +kernel
theorem d25_51 : decode method_6_code 51 = .ok (.iconst 0, 1) := by decide +kernel
theorem d25_52 : decode method_6_code 52 = .ok (.ireturn, 1) := by decide +kernel
def f_same (p0 : Int32) (p1 : Int32) : Int32 := (if (f_len p0) = (f_len p1) then (if (f_fc p0) = (f_fc p1) then (if (f_len p0) = (1 : Int32) then (nar .boolean (1 : Int32)) else (if (f_sc p0) = (f_sc p1) then (nar .boolean (1 : Int32)) else (nar .boolean (0 : Int32)))) else (nar .boolean (0 : Int32))) else (nar .boolean (0 : Int32)))
set_option maxRecDepth 65536 in
set_option maxHeartbeats 40000000 in
theorem rm25 (l : Launch) (Z : State) (a0 : Array Value) (hw : ∀ d ∈ tables_1, d.before a0 Z = true) (p0 : Int32) (p1 : Int32) (h0 : Heap) (Z0 : Ext Z.heap h0) :
    MetN l Z (⟨"com/example/acre/acre/model/CodedValueEqualsPinLaw", "sameText", "(II)Z"⟩ : MethodName) method_6_code 2 (some .boolean) [] ({ frames := 1, cells := 0, slots := 0, locals := 14 } : Room) #[(.int p0), (.int p1)] h0 (fun v h => v = some (.int (f_same p0 p1)) ∧ h = h0) := by
  refine metN (by first | exact plainFor_of_name (by first | (simp [plainName, overriddenIn]; done) | decide +kernel) | decide +kernel) Z0 (Ls := #[.val (.int p0), .val (.int p1)]) (fun m => by first | (simp [entryFrame, mkF, argsToLocals, Value.category]; done) | rfl) ?_
  intro p e s m below meth c T0 hx hby hml hret hlk hown hnm hZ N0
  refine Ends.go (f' := (mkF m 1 #[.val (.int p0), .val (.int p1)] [(.int p0)])) (fun t k => XS.iloadN N0.here hx rfl (hb hby d25_0) rfl k) ?_
  refine gStatic (W := 0) (argsL := [(.int p0)]) (rest := []) N0 hx hZ hown (hw _ (List.mem_of_getElem? (i := 10) rfl)) (hw _ (List.mem_of_getElem? (i := 11) rfl)) (hw _ (List.mem_of_getElem? (i := 2) rfl)) (hw _ (List.mem_of_getElem? (i := 12) rfl)) (by decide) ((rm3 l Z a0 hw p0 h0 N0.ext).back (W := 0) hZ (hw _ (List.mem_of_getElem? (i := 12) rfl)) (hw _ (List.mem_of_getElem? (i := 2) rfl)) (nle rfl) (nle rfl)) (hb hby d25_1) rfl (by rw [hml]; rfl) (lenOf (by decide +kernel : parseMethodDescriptor "(I)I" = some ⟨[.int], (some .int)⟩) rfl) (nle rfl) (nle rfl) (nle rfl) (fun _ _ _ q => q.2) ?_
  rintro _ T1 _ _ N2 ⟨⟨rfl, e_h⟩, -⟩; rw [e_h] at N2; clear e_h
  show Ends p e below _ T1 (mkF m 4 #[.val (.int p0), .val (.int p1)] [(.int (f_len p0))])
  refine Ends.go (f' := (mkF m 5 #[.val (.int p0), .val (.int p1)] [(.int p1), (.int (f_len p0))])) (fun t k => XS.iloadN N2.here hx rfl (hb hby d25_4) rfl k) ?_
  refine gStatic (W := 1) (argsL := [(.int p1)]) (rest := [(.int (f_len p0))]) N2 hx hZ hown (hw _ (List.mem_of_getElem? (i := 10) rfl)) (hw _ (List.mem_of_getElem? (i := 11) rfl)) (hw _ (List.mem_of_getElem? (i := 2) rfl)) (hw _ (List.mem_of_getElem? (i := 12) rfl)) (by decide) ((rm3 l Z a0 hw p1 h0 N2.ext).back (W := 1) hZ (hw _ (List.mem_of_getElem? (i := 12) rfl)) (hw _ (List.mem_of_getElem? (i := 2) rfl)) (nle rfl) (nle rfl)) (hb hby d25_5) rfl (by rw [hml]; rfl) (lenOf (by decide +kernel : parseMethodDescriptor "(I)I" = some ⟨[.int], (some .int)⟩) rfl) (nle rfl) (nle rfl) (nle rfl) (fun _ _ _ q => q.2) ?_
  rintro _ T6 _ _ N7 ⟨⟨rfl, e_h⟩, -⟩; rw [e_h] at N7; clear e_h
  show Ends p e below _ T6 (mkF m 8 #[.val (.int p0), .val (.int p1)] [(.int (f_len p1)), (.int (f_len p0))])
  by_cases c11 : (f_len p0) = (f_len p1)
  · refine Ends.go (f' := (mkF m 13 #[.val (.int p0), .val (.int p1)] [])) (fun t k => XS.icmpYes N7.here hx rfl (pc0 := 8) (pc' := 13) rfl (hb hby d25_8) rfl (XT.ii_eq_t c11) (by decide) (by decide) k) ?_
    refine Ends.go (f' := (mkF m 14 #[.val (.int p0), .val (.int p1)] [(.int p0)])) (fun t k => XS.iloadN N7.here hx rfl (hb hby d25_13) rfl k) ?_
    refine gStatic (W := 0) (argsL := [(.int p0)]) (rest := []) N7 hx hZ hown (hw _ (List.mem_of_getElem? (i := 17) rfl)) (hw _ (List.mem_of_getElem? (i := 18) rfl)) (hw _ (List.mem_of_getElem? (i := 2) rfl)) (hw _ (List.mem_of_getElem? (i := 19) rfl)) (by decide) ((rm4 l Z a0 hw p0 h0 N7.ext).back (W := 0) hZ (hw _ (List.mem_of_getElem? (i := 19) rfl)) (hw _ (List.mem_of_getElem? (i := 2) rfl)) (nle rfl) (nle rfl)) (hb hby d25_14) rfl (by rw [hml]; rfl) (lenOf (by decide +kernel : parseMethodDescriptor "(I)C" = some ⟨[.int], (some .char)⟩) rfl) (nle rfl) (nle rfl) (nle rfl) (fun _ _ _ q => q.2) ?_
    rintro _ T12 _ _ N13 ⟨⟨rfl, e_h⟩, -⟩; rw [e_h] at N13; clear e_h
    show Ends p e below _ T12 (mkF m 17 #[.val (.int p0), .val (.int p1)] [(.int (f_fc p0))])
    refine Ends.go (f' := (mkF m 18 #[.val (.int p0), .val (.int p1)] [(.int p1), (.int (f_fc p0))])) (fun t k => XS.iloadN N13.here hx rfl (hb hby d25_17) rfl k) ?_
    refine gStatic (W := 1) (argsL := [(.int p1)]) (rest := [(.int (f_fc p0))]) N13 hx hZ hown (hw _ (List.mem_of_getElem? (i := 17) rfl)) (hw _ (List.mem_of_getElem? (i := 18) rfl)) (hw _ (List.mem_of_getElem? (i := 2) rfl)) (hw _ (List.mem_of_getElem? (i := 19) rfl)) (by decide) ((rm4 l Z a0 hw p1 h0 N13.ext).back (W := 1) hZ (hw _ (List.mem_of_getElem? (i := 19) rfl)) (hw _ (List.mem_of_getElem? (i := 2) rfl)) (nle rfl) (nle rfl)) (hb hby d25_18) rfl (by rw [hml]; rfl) (lenOf (by decide +kernel : parseMethodDescriptor "(I)C" = some ⟨[.int], (some .char)⟩) rfl) (nle rfl) (nle rfl) (nle rfl) (fun _ _ _ q => q.2) ?_
    rintro _ T17 _ _ N18 ⟨⟨rfl, e_h⟩, -⟩; rw [e_h] at N18; clear e_h
    show Ends p e below _ T17 (mkF m 21 #[.val (.int p0), .val (.int p1)] [(.int (f_fc p1)), (.int (f_fc p0))])
    by_cases c22 : (f_fc p0) = (f_fc p1)
    · refine Ends.go (f' := (mkF m 26 #[.val (.int p0), .val (.int p1)] [])) (fun t k => XS.icmpYes N18.here hx rfl (pc0 := 21) (pc' := 26) rfl (hb hby d25_21) rfl (XT.ii_eq_t c22) (by decide) (by decide) k) ?_
      refine Ends.go (f' := (mkF m 27 #[.val (.int p0), .val (.int p1)] [(.int p0)])) (fun t k => XS.iloadN N18.here hx rfl (hb hby d25_26) rfl k) ?_
      refine gStatic (W := 0) (argsL := [(.int p0)]) (rest := []) N18 hx hZ hown (hw _ (List.mem_of_getElem? (i := 10) rfl)) (hw _ (List.mem_of_getElem? (i := 11) rfl)) (hw _ (List.mem_of_getElem? (i := 2) rfl)) (hw _ (List.mem_of_getElem? (i := 12) rfl)) (by decide) ((rm3 l Z a0 hw p0 h0 N18.ext).back (W := 0) hZ (hw _ (List.mem_of_getElem? (i := 12) rfl)) (hw _ (List.mem_of_getElem? (i := 2) rfl)) (nle rfl) (nle rfl)) (hb hby d25_27) rfl (by rw [hml]; rfl) (lenOf (by decide +kernel : parseMethodDescriptor "(I)I" = some ⟨[.int], (some .int)⟩) rfl) (nle rfl) (nle rfl) (nle rfl) (fun _ _ _ q => q.2) ?_
      rintro _ T23 _ _ N24 ⟨⟨rfl, e_h⟩, -⟩; rw [e_h] at N24; clear e_h
      show Ends p e below _ T23 (mkF m 30 #[.val (.int p0), .val (.int p1)] [(.int (f_len p0))])
      refine Ends.go (f' := (mkF m 31 #[.val (.int p0), .val (.int p1)] [(.int (1 : Int32)), (.int (f_len p0))])) (fun t k => XS.iconst N24.here hx rfl (hb hby d25_30) k) ?_
      by_cases c28 : (f_len p0) = (1 : Int32)
      · refine Ends.go (f' := (mkF m 34 #[.val (.int p0), .val (.int p1)] [])) (fun t k => XS.icmpNo N24.here hx rfl (hb hby d25_31) rfl (XT.ii_ne_f c28) k) ?_
        refine Ends.go (f' := (mkF m 35 #[.val (.int p0), .val (.int p1)] [(.int (1 : Int32))])) (fun t k => XS.iconst N24.here hx rfl (hb hby d25_34) k) ?_
        exact retZ N24 hx hlk hret (by simp) (hb hby d25_35) ⟨by simp only [f_same, if_pos c11, if_pos c22, if_pos c28], rfl⟩ (nle rfl) (nle rfl)
      · refine Ends.go (f' := (mkF m 36 #[.val (.int p0), .val (.int p1)] [])) (fun t k => XS.icmpYes N24.here hx rfl (pc0 := 31) (pc' := 36) rfl (hb hby d25_31) rfl (XT.ii_ne_t c28) (by decide) (by decide) k) ?_
        refine Ends.go (f' := (mkF m 37 #[.val (.int p0), .val (.int p1)] [(.int p0)])) (fun t k => XS.iloadN N24.here hx rfl (hb hby d25_36) rfl k) ?_
        refine gStatic (W := 0) (argsL := [(.int p0)]) (rest := []) N24 hx hZ hown (hw _ (List.mem_of_getElem? (i := 135) rfl)) (hw _ (List.mem_of_getElem? (i := 136) rfl)) (hw _ (List.mem_of_getElem? (i := 2) rfl)) (hw _ (List.mem_of_getElem? (i := 137) rfl)) (by decide) ((rm28 l Z a0 hw p0 h0 N24.ext).back (W := 0) hZ (hw _ (List.mem_of_getElem? (i := 137) rfl)) (hw _ (List.mem_of_getElem? (i := 2) rfl)) (nle rfl) (nle rfl)) (hb hby d25_37) rfl (by rw [hml]; rfl) (lenOf (by decide +kernel : parseMethodDescriptor "(I)C" = some ⟨[.int], (some .char)⟩) rfl) (nle rfl) (nle rfl) (nle rfl) (fun _ _ _ q => q.2) ?_
        rintro _ T29 _ _ N30 ⟨⟨rfl, e_h⟩, -⟩; rw [e_h] at N30; clear e_h
        show Ends p e below _ T29 (mkF m 40 #[.val (.int p0), .val (.int p1)] [(.int (f_sc p0))])
        refine Ends.go (f' := (mkF m 41 #[.val (.int p0), .val (.int p1)] [(.int p1), (.int (f_sc p0))])) (fun t k => XS.iloadN N30.here hx rfl (hb hby d25_40) rfl k) ?_
        refine gStatic (W := 1) (argsL := [(.int p1)]) (rest := [(.int (f_sc p0))]) N30 hx hZ hown (hw _ (List.mem_of_getElem? (i := 135) rfl)) (hw _ (List.mem_of_getElem? (i := 136) rfl)) (hw _ (List.mem_of_getElem? (i := 2) rfl)) (hw _ (List.mem_of_getElem? (i := 137) rfl)) (by decide) ((rm28 l Z a0 hw p1 h0 N30.ext).back (W := 1) hZ (hw _ (List.mem_of_getElem? (i := 137) rfl)) (hw _ (List.mem_of_getElem? (i := 2) rfl)) (nle rfl) (nle rfl)) (hb hby d25_41) rfl (by rw [hml]; rfl) (lenOf (by decide +kernel : parseMethodDescriptor "(I)C" = some ⟨[.int], (some .char)⟩) rfl) (nle rfl) (nle rfl) (nle rfl) (fun _ _ _ q => q.2) ?_
        rintro _ T34 _ _ N35 ⟨⟨rfl, e_h⟩, -⟩; rw [e_h] at N35; clear e_h
        show Ends p e below _ T34 (mkF m 44 #[.val (.int p0), .val (.int p1)] [(.int (f_sc p1)), (.int (f_sc p0))])
        by_cases c39 : (f_sc p0) = (f_sc p1)
        · refine Ends.go (f' := (mkF m 47 #[.val (.int p0), .val (.int p1)] [])) (fun t k => XS.icmpNo N35.here hx rfl (hb hby d25_44) rfl (XT.ii_ne_f c39) k) ?_
          refine Ends.go (f' := (mkF m 48 #[.val (.int p0), .val (.int p1)] [(.int (1 : Int32))])) (fun t k => XS.iconst N35.here hx rfl (hb hby d25_47) k) ?_
          refine Ends.go (f' := (mkF m 52 #[.val (.int p0), .val (.int p1)] [(.int (1 : Int32))])) (fun t k => XS.goto N35.here hx rfl (pc0 := 48) (pc' := 52) rfl (hb hby d25_48) (by decide) (by decide) k) ?_
          exact retZ N35 hx hlk hret (by simp) (hb hby d25_52) ⟨by simp only [f_same, if_pos c11, if_pos c22, if_neg c28, if_pos c39], rfl⟩ (nle rfl) (nle rfl)
        · refine Ends.go (f' := (mkF m 51 #[.val (.int p0), .val (.int p1)] [])) (fun t k => XS.icmpYes N35.here hx rfl (pc0 := 44) (pc' := 51) rfl (hb hby d25_44) rfl (XT.ii_ne_t c39) (by decide) (by decide) k) ?_
          refine Ends.go (f' := (mkF m 52 #[.val (.int p0), .val (.int p1)] [(.int (0 : Int32))])) (fun t k => XS.iconst N35.here hx rfl (hb hby d25_51) k) ?_
          exact retZ N35 hx hlk hret (by simp) (hb hby d25_52) ⟨by simp only [f_same, if_pos c11, if_pos c22, if_neg c28, if_neg c39], rfl⟩ (nle rfl) (nle rfl)
    · refine Ends.go (f' := (mkF m 24 #[.val (.int p0), .val (.int p1)] [])) (fun t k => XS.icmpNo N18.here hx rfl (hb hby d25_21) rfl (XT.ii_eq_f c22) k) ?_
      refine Ends.go (f' := (mkF m 25 #[.val (.int p0), .val (.int p1)] [(.int (0 : Int32))])) (fun t k => XS.iconst N18.here hx rfl (hb hby d25_24) k) ?_
      exact retZ N18 hx hlk hret (by simp) (hb hby d25_25) ⟨by simp only [f_same, if_pos c11, if_neg c22], rfl⟩ (nle rfl) (nle rfl)
  · refine Ends.go (f' := (mkF m 11 #[.val (.int p0), .val (.int p1)] [])) (fun t k => XS.icmpNo N7.here hx rfl (hb hby d25_8) rfl (XT.ii_eq_f c11) k) ?_
    refine Ends.go (f' := (mkF m 12 #[.val (.int p0), .val (.int p1)] [(.int (0 : Int32))])) (fun t k => XS.iconst N7.here hx rfl (hb hby d25_11) k) ?_
    exact retZ N7 hx hlk hret (by simp) (hb hby d25_12) ⟨by simp only [f_same, if_neg c11], rfl⟩ (nle rfl) (nle rfl)
theorem fc_ok (x : Int32) : (¬ f_fc x < 0 ∧ ¬ (255 : Int32) < f_fc x) ∧ ¬ f_fc x < (33 : Int32) := by
  unfold f_fc
  exact all256 (Q := fun v => (¬ (if (32 : Int32) < v then nar .char (nar .char v) else nar .char (nar .char (v + (64 : Int32)))) < 0 ∧ ¬ (255 : Int32) < (if (32 : Int32) < v then nar .char (nar .char v) else nar .char (nar .char (v + (64 : Int32))))) ∧ ¬ (if (32 : Int32) < v then nar .char (nar .char v) else nar .char (nar .char (v + (64 : Int32)))) < (33 : Int32)) (by decide +kernel) (and255 x)
theorem sc_ok (x : Int32) : ¬ f_sc x < 0 ∧ ¬ (255 : Int32) < f_sc x := by
  unfold f_sc
  exact all256 (Q := fun v => ¬ nar .char (nar .char v) < 0 ∧ ¬ (255 : Int32) < nar .char (nar .char v)) (by decide +kernel) (and255 _)
theorem len12 (x : Int32) : f_len x = 1 ∨ f_len x = 2 := by
  unfold f_len
  have q := c_and (XT.ushr x (16 : Int32)) (1 : Int32) (by decide)
  have e1 : (1 : Int32).toInt = 1 := rfl
  have q2 : ((XT.ushr x (16 : Int32)) &&& (1 : Int32)).toInt = 0 ∨ ((XT.ushr x (16 : Int32)) &&& (1 : Int32)).toInt = 1 := by omega
  rcases q2 with q2 | q2
  · rw [show ((XT.ushr x (16 : Int32)) &&& (1 : Int32)) = 0 from Int32.toInt_inj.mp q2]; exact Or.inl rfl
  · rw [show ((XT.ushr x (16 : Int32)) &&& (1 : Int32)) = 1 from Int32.toInt_inj.mp q2]; exact Or.inr rfl
def txt (x : Int32) : List Int32 := if f_len x = (1 : Int32) then [f_fc x] else [f_fc x, f_sc x]
theorem solid33 {c : Int32} (h : ¬ c < 0 ∧ ¬ (255 : Int32) < c) : ¬ c < (33 : Int32) → ¬ c = (32 : Int32) ∧ ¬ c = (9 : Int32) ∧ ¬ (pr c &&& (28672 : Int32)) = (16384 : Int32) := all256 (Q := fun c => ¬ c < (33 : Int32) → ¬ c = (32 : Int32) ∧ ¬ c = (9 : Int32) ∧ ¬ (pr c &&& (28672 : Int32)) = (16384 : Int32)) (by decide +kernel) h
theorem txt_solid (x : Int32) : Solid (txt x) := by
  have q := solid33 (fc_ok x).1 (fc_ok x).2
  unfold txt
  split
  · exact ⟨_, _, rfl, q⟩
  · exact ⟨_, _, rfl, q⟩
theorem same_iff (x y : Int32) : ¬ f_same x y = 0 ↔ txt x = txt y := by
  have e1 : nar .boolean (1 : Int32) = 1 := by decide
  have e0 : nar .boolean (0 : Int32) = 0 := by decide
  unfold f_same txt
  rw [e1, e0]
  rcases len12 x with hx | hx <;> rcases len12 y with hy | hy <;> rw [hx, hy] <;> simp <;> (try split) <;> simp_all
theorem d2_0 : decode method_5_code 0 = .ok (.iload_n 0, 1) := by decide +kernel
theorem d2_1 : decode method_5_code 1 = .ok (.invokestatic 7, 3) := by decide +kernel
theorem d2_4 : decode method_5_code 4 = .ok (.iconst 1, 1) := by decide +kernel
theorem d2_5 : decode method_5_code 5 = .ok (.if_icmp .ne 21, 3) := by decide +kernel
theorem d2_8 : decode method_5_code 8 = .ok (.new 13, 3) := by decide +kernel
theorem d2_11 : decode method_5_code 11 = .ok (.dup, 1) := by decide +kernel
theorem d2_12 : decode method_5_code 12 = .ok (.iconst 1, 1) := by decide +kernel
theorem d2_13 : decode method_5_code 13 = .ok (.newarray .char, 2) := by decide +kernel
theorem d2_15 : decode method_5_code 15 = .ok (.dup, 1) := by decide +kernel
theorem d2_16 : decode method_5_code 16 = .ok (.iconst 0, 1) := by decide +kernel
theorem d2_17 : decode method_5_code 17 = .ok (.iload_n 0, 1) := by decide +kernel
theorem d2_18 : decode method_5_code 18 = .ok (.invokestatic 15, 3) := by decide +kernel
theorem d2_21 : decode method_5_code 21 = .ok (.castore, 1) := by decide +kernel
theorem d2_22 : decode method_5_code 22 = .ok (.invokespecial 19, 3) := by decide +kernel
theorem d2_25 : decode method_5_code 25 = .ok (.areturn, 1) := by decide +kernel
theorem d2_26 : decode method_5_code 26 = .ok (.new 13, 3) := by decide +kernel
theorem d2_29 : decode method_5_code 29 = .ok (.dup, 1) := by decide +kernel
theorem d2_30 : decode method_5_code 30 = .ok (.iconst 2, 1) := by decide +kernel
theorem d2_31 : decode method_5_code 31 = .ok (.newarray .char, 2) := by decide +kernel
theorem d2_33 : decode method_5_code 33 = .ok (.dup, 1) := by decide +kernel
theorem d2_34 : decode method_5_code 34 = .ok (.iconst 0, 1) := by decide +kernel
theorem d2_35 : decode method_5_code 35 = .ok (.iload_n 0, 1) := by decide +kernel
theorem d2_36 : decode method_5_code 36 = .ok (.invokestatic 15, 3) := by decide +kernel
theorem d2_39 : decode method_5_code 39 = .ok (.castore, 1) := by decide +kernel
theorem d2_40 : decode method_5_code 40 = .ok (.dup, 1) := by decide +kernel
theorem d2_41 : decode method_5_code 41 = .ok (.iconst 1, 1) := by decide +kernel
theorem d2_42 : decode method_5_code 42 = .ok (.iload_n 0, 1) := by decide +kernel
theorem d2_43 : decode method_5_code 43 = .ok (.invokestatic 22, 3) := by decide +kernel
theorem d2_46 : decode method_5_code 46 = .ok (.castore, 1) := by decide +kernel
theorem d2_47 : decode method_5_code 47 = .ok (.invokespecial 19, 3) := by decide +kernel
theorem d2_50 : decode method_5_code 50 = .ok (.areturn, 1) := by decide +kernel
set_option maxRecDepth 65536 in
set_option maxHeartbeats 40000000 in
theorem rmText (l : Launch) (Z : State) (a0 : Array Value) (hw : ∀ d ∈ tables_1, d.before a0 Z = true) (p0 : Int32) (h0 : Heap) (Z0 : Ext Z.heap h0) (G : Jdk Z) :
    MetN l Z (⟨"com/example/acre/acre/model/CodedValueEqualsPinLaw", "text", "(I)Ljava/lang/String;"⟩ : MethodName) method_5_code 1 (some (.object "java/lang/String")) [] ({ frames := 4, cells := 3, slots := 8, locals := 66 } : Room) #[(.int p0)] h0 (fun v h => ∃ a, v = some (.ref a) ∧ Ext h0 h ∧ Str Z h a (txt p0)) := by
  refine metN (by first | exact plainFor_of_name (by first | (simp [plainName, overriddenIn]; done) | decide +kernel) | decide +kernel) Z0 (Ls := #[.val (.int p0)]) (fun m => by first | (simp [entryFrame, mkF, argsToLocals, Value.category]; done) | rfl) ?_
  intro p e s m below meth c T0 hx hby hml hret hlk hown hnm hZ N0
  refine Ends.go (f' := (mkF m 1 #[.val (.int p0)] [(.int p0)])) (fun t k => XS.iloadN N0.here hx rfl (hb hby d2_0) rfl k) ?_
  refine gStatic (W := 0) (argsL := [(.int p0)]) (rest := []) N0 hx hZ hown (hw _ (List.mem_of_getElem? (i := 10) rfl)) (hw _ (List.mem_of_getElem? (i := 11) rfl)) (hw _ (List.mem_of_getElem? (i := 2) rfl)) (hw _ (List.mem_of_getElem? (i := 12) rfl)) (by decide) ((rm3 l Z a0 hw p0 h0 N0.ext).back (W := 0) hZ (hw _ (List.mem_of_getElem? (i := 12) rfl)) (hw _ (List.mem_of_getElem? (i := 2) rfl)) (nle rfl) (nle rfl)) (hb hby d2_1) rfl (by rw [hml]; rfl) (lenOf (by decide +kernel : parseMethodDescriptor "(I)I" = some ⟨[.int], (some .int)⟩) rfl) (nle rfl) (nle rfl) (nle rfl) (fun _ _ _ q => q.2) ?_
  rintro _ T1 _ _ N2 ⟨⟨rfl, e_h⟩, -⟩; rw [e_h] at N2; clear e_h
  show Ends p e below _ T1 (mkF m 4 #[.val (.int p0)] [(.int (f_len p0))])
  refine Ends.go (f' := (mkF m 5 #[.val (.int p0)] [(.int (1 : Int32)), (.int (f_len p0))])) (fun t k => XS.iconst N2.here hx rfl (hb hby d2_4) k) ?_
  by_cases l1 : (f_len p0) = (1 : Int32)
  · refine Ends.go (f' := (mkF m 8 #[.val (.int p0)] [])) (fun t k => XS.icmpNo N2.here hx rfl (hb hby d2_5) rfl (XT.ii_ne_f l1) k) ?_
    refine gNew (a0 := a0) N2 hx hZ hown (hw _ (List.mem_of_getElem? (i := 13) rfl)) (hw _ (List.mem_of_getElem? (i := 14) rfl)) (hw _ (List.mem_of_getElem? (i := 15) rfl)) (hb hby d2_8) (nle rfl) (nle rfl) ?_
    intro T6 h7 a8 ea9 N10 E11 A12 D13
    have g14 : h0.size ≤ a8 := by rw [ea9]; exact (ext_refl h0).1
    have g15 : Z.heap.size ≤ a8 := by rw [ea9]; exact N2.le
    have X16 : Ext h0 h7 := ext_trans (ext_refl h0) E11
    show Ends p e below _ T6 (mkF m 11 #[.val (.int p0)] [(.ref a8)])
    refine Ends.go (f' := (mkF m 12 #[.val (.int p0)] [(.ref a8), (.ref a8)])) (fun t k => XS.dup N10.here hx rfl (hb hby d2_11) rfl rfl k) ?_
    refine Ends.go (f' := (mkF m 13 #[.val (.int p0)] [(.int (1 : Int32)), (.ref a8), (.ref a8)])) (fun t k => XS.iconst N10.here hx rfl (hb hby d2_12) k) ?_
    refine gArr 1 N10 hx hZ (hw _ (List.mem_of_getElem? (i := 16) rfl)) (hb hby d2_13) (by decide) (nle rfl) (nle rfl) (nle rfl) (nle rfl) ?_
    intro T17 h18 b19 kA20 eb21 N22 E23 V24
    have g25 : h0.size ≤ b19 := by rw [eb21]; exact X16.1
    have g26 : h7.size ≤ b19 := by rw [eb21]; exact (ext_refl h7).1
    have g27 : Z.heap.size ≤ b19 := by rw [eb21]; exact N10.le
    have X28 : Ext h0 h18 := ext_trans X16 E23
    have X29 : Ext h7 h18 := ext_trans (ext_refl h7) E23
    have V30 : Arv Z h18 b19 kA20 .char (1 : Int32) [(.int (0 : Int32))] (.int (0 : Int32)) := V24.pad (pad_rep [] (.int (0 : Int32)) 1)
    show Ends p e below _ T17 (mkF m 15 #[.val (.int p0)] [(.ref b19), (.ref a8), (.ref a8)])
    refine Ends.go (f' := (mkF m 16 #[.val (.int p0)] [(.ref b19), (.ref b19), (.ref a8), (.ref a8)])) (fun t k => XS.dup N22.here hx rfl (hb hby d2_15) rfl rfl k) ?_
    refine Ends.go (f' := (mkF m 17 #[.val (.int p0)] [(.int (0 : Int32)), (.ref b19), (.ref b19), (.ref a8), (.ref a8)])) (fun t k => XS.iconst N22.here hx rfl (hb hby d2_16) k) ?_
    refine Ends.go (f' := (mkF m 18 #[.val (.int p0)] [(.int p0), (.int (0 : Int32)), (.ref b19), (.ref b19), (.ref a8), (.ref a8)])) (fun t k => XS.iloadN N22.here hx rfl (hb hby d2_17) rfl k) ?_
    refine gStatic (W := 5) (argsL := [(.int p0)]) (rest := [(.int (0 : Int32)), (.ref b19), (.ref b19), (.ref a8), (.ref a8)]) N22 hx hZ hown (hw _ (List.mem_of_getElem? (i := 17) rfl)) (hw _ (List.mem_of_getElem? (i := 18) rfl)) (hw _ (List.mem_of_getElem? (i := 2) rfl)) (hw _ (List.mem_of_getElem? (i := 19) rfl)) (by decide) ((rm4 l Z a0 hw p0 h18 N22.ext).back (W := 5) hZ (hw _ (List.mem_of_getElem? (i := 19) rfl)) (hw _ (List.mem_of_getElem? (i := 2) rfl)) (nle rfl) (nle rfl)) (hb hby d2_18) rfl (by rw [hml]; rfl) (lenOf (by decide +kernel : parseMethodDescriptor "(I)C" = some ⟨[.int], (some .char)⟩) rfl) (nle rfl) (nle rfl) (nle rfl) (fun _ _ _ q => q.2) ?_
    rintro _ T31 _ _ N32 ⟨⟨rfl, e_h⟩, -⟩; rw [e_h] at N32; clear e_h
    show Ends p e below _ T31 (mkF m 21 #[.val (.int p0)] [(.int (f_fc p0)), (.int (0 : Int32)), (.ref b19), (.ref b19), (.ref a8), (.ref a8)])
    refine gStC 0 N32 hx hZ V30 g27 (by decide) rfl (nle rfl) (hb hby d2_21) ?_
    intro T36 h37 N38 W39 V40
    rw [nar_ok (fc_ok p0).1] at V40
    have V41 : Arv Z h37 b19 kA20 .char (1 : Int32) [(.int (f_fc p0))] (.int (0 : Int32)) := V40
    have X42 : Ext h0 h37 := ext_wr X28 W39 g25
    have X43 : Ext h7 h37 := ext_wr X29 W39 g26
    show Ends p e below _ T36 (mkF m 22 #[.val (.int p0)] [(.ref b19), (.ref a8), (.ref a8)])
    refine gSpecial (W := 1) (y := (⟨"java/lang/String", "<init>", "([C)V"⟩ : MethodName)) (a := a8) (argsL := [(.ref b19)]) (rest := [(.ref a8)]) rfl N38 hx hZ hown (hw _ (List.mem_of_getElem? (i := 20) rfl)) (hw _ (List.mem_of_getElem? (i := 21) rfl)) (hw _ (List.mem_of_getElem? (i := 22) rfl)) (by decide) (strNew (W := 1) (cs := [(f_fc p0)]) hZ hw G N38.ext g15 (A12.ext X43) ((D13 (Or.inr (hw _ (List.mem_of_getElem? (i := 45) rfl))) (ty := .array .byte) (by decide)).ext X43) ((D13 (Or.inr (hw _ (List.mem_of_getElem? (i := 43) rfl))) (ty := .byte) (by decide)).ext X43) V41 (nle rfl) (nle rfl) (hp_cons (fc_ok p0).1 hp_nil) (nle rfl) (nle rfl)) (hb hby d2_22) rfl (by rw [hml]; rfl) (lenOf (by decide +kernel : parseMethodDescriptor "([C)V" = some ⟨[(.array .char)], none⟩) rfl) (nle rfl) (nle rfl) (nle rfl) (fun _ _ _ q => q.2.2.2) ?_
    rintro _ T44 h45 L46 N47 ⟨rfl, K48, S49, -⟩
    have X50 : Ext h0 h45 := ext_keep X42 K48 g14
    show Ends p e below _ T44 (mkF m 25 #[.val (.int p0)] [(.ref a8)])
    have q9 : txt p0 = [(f_fc p0)] := by simp only [txt, if_pos l1]
    exact retA N47 hx hlk hret rfl rfl (hb hby d2_25) ⟨_, rfl, X50, by rw [q9]; exact S49⟩ (nle rfl) (nle rfl)
  · refine Ends.go (f' := (mkF m 26 #[.val (.int p0)] [])) (fun t k => XS.icmpYes N2.here hx rfl (pc0 := 5) (pc' := 26) rfl (hb hby d2_5) rfl (XT.ii_ne_t l1) (by decide) (by decide) k) ?_
    refine gNew (a0 := a0) N2 hx hZ hown (hw _ (List.mem_of_getElem? (i := 13) rfl)) (hw _ (List.mem_of_getElem? (i := 14) rfl)) (hw _ (List.mem_of_getElem? (i := 15) rfl)) (hb hby d2_26) (nle rfl) (nle rfl) ?_
    intro T51 h52 a53 ea54 N55 E56 A57 D58
    have g59 : h0.size ≤ a53 := by rw [ea54]; exact (ext_refl h0).1
    have g60 : Z.heap.size ≤ a53 := by rw [ea54]; exact N2.le
    have X61 : Ext h0 h52 := ext_trans (ext_refl h0) E56
    show Ends p e below _ T51 (mkF m 29 #[.val (.int p0)] [(.ref a53)])
    refine Ends.go (f' := (mkF m 30 #[.val (.int p0)] [(.ref a53), (.ref a53)])) (fun t k => XS.dup N55.here hx rfl (hb hby d2_29) rfl rfl k) ?_
    refine Ends.go (f' := (mkF m 31 #[.val (.int p0)] [(.int (2 : Int32)), (.ref a53), (.ref a53)])) (fun t k => XS.iconst N55.here hx rfl (hb hby d2_30) k) ?_
    refine gArr 2 N55 hx hZ (hw _ (List.mem_of_getElem? (i := 16) rfl)) (hb hby d2_31) (by decide) (nle rfl) (nle rfl) (nle rfl) (nle rfl) ?_
    intro T62 h63 b64 kA65 eb66 N67 E68 V69
    have g70 : h0.size ≤ b64 := by rw [eb66]; exact X61.1
    have g71 : h52.size ≤ b64 := by rw [eb66]; exact (ext_refl h52).1
    have g72 : Z.heap.size ≤ b64 := by rw [eb66]; exact N55.le
    have X73 : Ext h0 h63 := ext_trans X61 E68
    have X74 : Ext h52 h63 := ext_trans (ext_refl h52) E68
    have V75 : Arv Z h63 b64 kA65 .char (2 : Int32) [(.int (0 : Int32)), (.int (0 : Int32))] (.int (0 : Int32)) := V69.pad (pad_rep [] (.int (0 : Int32)) 2)
    show Ends p e below _ T62 (mkF m 33 #[.val (.int p0)] [(.ref b64), (.ref a53), (.ref a53)])
    refine Ends.go (f' := (mkF m 34 #[.val (.int p0)] [(.ref b64), (.ref b64), (.ref a53), (.ref a53)])) (fun t k => XS.dup N67.here hx rfl (hb hby d2_33) rfl rfl k) ?_
    refine Ends.go (f' := (mkF m 35 #[.val (.int p0)] [(.int (0 : Int32)), (.ref b64), (.ref b64), (.ref a53), (.ref a53)])) (fun t k => XS.iconst N67.here hx rfl (hb hby d2_34) k) ?_
    refine Ends.go (f' := (mkF m 36 #[.val (.int p0)] [(.int p0), (.int (0 : Int32)), (.ref b64), (.ref b64), (.ref a53), (.ref a53)])) (fun t k => XS.iloadN N67.here hx rfl (hb hby d2_35) rfl k) ?_
    refine gStatic (W := 5) (argsL := [(.int p0)]) (rest := [(.int (0 : Int32)), (.ref b64), (.ref b64), (.ref a53), (.ref a53)]) N67 hx hZ hown (hw _ (List.mem_of_getElem? (i := 17) rfl)) (hw _ (List.mem_of_getElem? (i := 18) rfl)) (hw _ (List.mem_of_getElem? (i := 2) rfl)) (hw _ (List.mem_of_getElem? (i := 19) rfl)) (by decide) ((rm4 l Z a0 hw p0 h63 N67.ext).back (W := 5) hZ (hw _ (List.mem_of_getElem? (i := 19) rfl)) (hw _ (List.mem_of_getElem? (i := 2) rfl)) (nle rfl) (nle rfl)) (hb hby d2_36) rfl (by rw [hml]; rfl) (lenOf (by decide +kernel : parseMethodDescriptor "(I)C" = some ⟨[.int], (some .char)⟩) rfl) (nle rfl) (nle rfl) (nle rfl) (fun _ _ _ q => q.2) ?_
    rintro _ T76 _ _ N77 ⟨⟨rfl, e_h⟩, -⟩; rw [e_h] at N77; clear e_h
    show Ends p e below _ T76 (mkF m 39 #[.val (.int p0)] [(.int (f_fc p0)), (.int (0 : Int32)), (.ref b64), (.ref b64), (.ref a53), (.ref a53)])
    refine gStC 0 N77 hx hZ V75 g72 (by decide) rfl (nle rfl) (hb hby d2_39) ?_
    intro T81 h82 N83 W84 V85
    rw [nar_ok (fc_ok p0).1] at V85
    have V86 : Arv Z h82 b64 kA65 .char (2 : Int32) [(.int (f_fc p0)), (.int (0 : Int32))] (.int (0 : Int32)) := V85
    have X87 : Ext h0 h82 := ext_wr X73 W84 g70
    have X88 : Ext h52 h82 := ext_wr X74 W84 g71
    show Ends p e below _ T81 (mkF m 40 #[.val (.int p0)] [(.ref b64), (.ref a53), (.ref a53)])
    refine Ends.go (f' := (mkF m 41 #[.val (.int p0)] [(.ref b64), (.ref b64), (.ref a53), (.ref a53)])) (fun t k => XS.dup N83.here hx rfl (hb hby d2_40) rfl rfl k) ?_
    refine Ends.go (f' := (mkF m 42 #[.val (.int p0)] [(.int (1 : Int32)), (.ref b64), (.ref b64), (.ref a53), (.ref a53)])) (fun t k => XS.iconst N83.here hx rfl (hb hby d2_41) k) ?_
    refine Ends.go (f' := (mkF m 43 #[.val (.int p0)] [(.int p0), (.int (1 : Int32)), (.ref b64), (.ref b64), (.ref a53), (.ref a53)])) (fun t k => XS.iloadN N83.here hx rfl (hb hby d2_42) rfl k) ?_
    refine gStatic (W := 5) (argsL := [(.int p0)]) (rest := [(.int (1 : Int32)), (.ref b64), (.ref b64), (.ref a53), (.ref a53)]) N83 hx hZ hown (hw _ (List.mem_of_getElem? (i := 135) rfl)) (hw _ (List.mem_of_getElem? (i := 136) rfl)) (hw _ (List.mem_of_getElem? (i := 2) rfl)) (hw _ (List.mem_of_getElem? (i := 137) rfl)) (by decide) ((rm28 l Z a0 hw p0 h82 N83.ext).back (W := 5) hZ (hw _ (List.mem_of_getElem? (i := 137) rfl)) (hw _ (List.mem_of_getElem? (i := 2) rfl)) (nle rfl) (nle rfl)) (hb hby d2_43) rfl (by rw [hml]; rfl) (lenOf (by decide +kernel : parseMethodDescriptor "(I)C" = some ⟨[.int], (some .char)⟩) rfl) (nle rfl) (nle rfl) (nle rfl) (fun _ _ _ q => q.2) ?_
    rintro _ T89 _ _ N90 ⟨⟨rfl, e_h⟩, -⟩; rw [e_h] at N90; clear e_h
    show Ends p e below _ T89 (mkF m 46 #[.val (.int p0)] [(.int (f_sc p0)), (.int (1 : Int32)), (.ref b64), (.ref b64), (.ref a53), (.ref a53)])
    refine gStC 1 N90 hx hZ V86 g72 (by decide) rfl (nle rfl) (hb hby d2_46) ?_
    intro T94 h95 N96 W97 V98
    rw [nar_ok (sc_ok p0)] at V98
    have V99 : Arv Z h95 b64 kA65 .char (2 : Int32) [(.int (f_fc p0)), (.int (f_sc p0))] (.int (0 : Int32)) := V98
    have X100 : Ext h0 h95 := ext_wr X87 W97 g70
    have X101 : Ext h52 h95 := ext_wr X88 W97 g71
    show Ends p e below _ T94 (mkF m 47 #[.val (.int p0)] [(.ref b64), (.ref a53), (.ref a53)])
    refine gSpecial (W := 1) (y := (⟨"java/lang/String", "<init>", "([C)V"⟩ : MethodName)) (a := a53) (argsL := [(.ref b64)]) (rest := [(.ref a53)]) rfl N96 hx hZ hown (hw _ (List.mem_of_getElem? (i := 20) rfl)) (hw _ (List.mem_of_getElem? (i := 21) rfl)) (hw _ (List.mem_of_getElem? (i := 22) rfl)) (by decide) (strNew (W := 1) (cs := [(f_fc p0), (f_sc p0)]) hZ hw G N96.ext g60 (A57.ext X101) ((D58 (Or.inr (hw _ (List.mem_of_getElem? (i := 45) rfl))) (ty := .array .byte) (by decide)).ext X101) ((D58 (Or.inr (hw _ (List.mem_of_getElem? (i := 43) rfl))) (ty := .byte) (by decide)).ext X101) V99 (nle rfl) (nle rfl) (hp_cons (fc_ok p0).1 (hp_cons (sc_ok p0) hp_nil)) (nle rfl) (nle rfl)) (hb hby d2_47) rfl (by rw [hml]; rfl) (lenOf (by decide +kernel : parseMethodDescriptor "([C)V" = some ⟨[(.array .char)], none⟩) rfl) (nle rfl) (nle rfl) (nle rfl) (fun _ _ _ q => q.2.2.2) ?_
    rintro _ T102 h103 L104 N105 ⟨rfl, K106, S107, -⟩
    have X108 : Ext h0 h103 := ext_keep X100 K106 g59
    show Ends p e below _ T102 (mkF m 50 #[.val (.int p0)] [(.ref a53)])
    have q9 : txt p0 = [(f_fc p0), (f_sc p0)] := by simp only [txt, if_neg l1]
    exact retA N105 hx hlk hret rfl rfl (hb hby d2_50) ⟨_, rfl, X108, by rw [q9]; exact S107⟩ (nle rfl) (nle rfl)
theorem d11_0 : decode method_8_code 0 = .ok (.iload_n 1, 1) := by decide +kernel
theorem d11_1 : decode method_8_code 1 = .ok (.ifCond .ne 5, 3) := by decide +kernel
theorem d11_4 : decode method_8_code 4 = .ok (.aconst_null, 1) := by decide +kernel
theorem d11_5 : decode method_8_code 5 = .ok (.areturn, 1) := by decide +kernel
theorem d11_6 : decode method_8_code 6 = .ok (.new 13, 3) := by decide +kernel
theorem d11_9 : decode method_8_code 9 = .ok (.dup, 1) := by decide +kernel
theorem d11_10 : decode method_8_code 10 = .ok (.iconst 2, 1) := by decide +kernel
theorem d11_11 : decode method_8_code 11 = .ok (.newarray .char, 2) := by decide +kernel
theorem d11_13 : decode method_8_code 13 = .ok (.dup, 1) := by decide +kernel
theorem d11_14 : decode method_8_code 14 = .ok (.iconst 0, 1) := by decide +kernel
theorem d11_15 : decode method_8_code 15 = .ok (.iload_n 0, 1) := by decide +kernel
theorem d11_16 : decode method_8_code 16 = .ok (.sipush 255, 3) := by decide +kernel
theorem d11_19 : decode method_8_code 19 = .ok (.iand, 1) := by decide +kernel
theorem d11_20 : decode method_8_code 20 = .ok (.i2c, 1) := by decide +kernel
theorem d11_21 : decode method_8_code 21 = .ok (.castore, 1) := by decide +kernel
theorem d11_22 : decode method_8_code 22 = .ok (.dup, 1) := by decide +kernel
theorem d11_23 : decode method_8_code 23 = .ok (.iconst 1, 1) := by decide +kernel
theorem d11_24 : decode method_8_code 24 = .ok (.iload_n 0, 1) := by decide +kernel
theorem d11_25 : decode method_8_code 25 = .ok (.bipush 8, 2) := by decide +kernel
theorem d11_27 : decode method_8_code 27 = .ok (.iushr, 1) := by decide +kernel
theorem d11_28 : decode method_8_code 28 = .ok (.sipush 255, 3) := by decide +kernel
theorem d11_31 : decode method_8_code 31 = .ok (.iand, 1) := by decide +kernel
theorem d11_32 : decode method_8_code 32 = .ok (.i2c, 1) := by decide +kernel
theorem d11_33 : decode method_8_code 33 = .ok (.castore, 1) := by decide +kernel
theorem d11_34 : decode method_8_code 34 = .ok (.invokespecial 19, 3) := by decide +kernel
theorem d11_37 : decode method_8_code 37 = .ok (.areturn, 1) := by decide +kernel
set_option maxRecDepth 65536 in
set_option maxHeartbeats 40000000 in
theorem rmLabel (l : Launch) (Z : State) (a0 : Array Value) (hw : ∀ d ∈ tables_1, d.before a0 Z = true) (p0 p1 : Int32) (h0 : Heap) (Z0 : Ext Z.heap h0) (G : Jdk Z) :
    MetN l Z (⟨"com/example/acre/acre/model/CodedValueEqualsPinLaw", "label", "(IZ)Ljava/lang/String;"⟩ : MethodName) method_8_code 2 (some (.object "java/lang/String")) [] ({ frames := 4, cells := 3, slots := 8, locals := 66 } : Room) #[(.int p0), (.int p1)] h0 (fun v h => ∃ lv, v = some lv ∧ lv.isRef = true ∧ Ext h0 h) := by
  refine metN (by first | exact plainFor_of_name (by first | (simp [plainName, overriddenIn]; done) | decide +kernel) | decide +kernel) Z0 (Ls := #[.val (.int p0), .val (.int p1)]) (fun m => by first | (simp [entryFrame, mkF, argsToLocals, Value.category]; done) | rfl) ?_
  intro p e s m below meth c T0 hx hby hml hret hlk hown hnm hZ N0
  refine Ends.go (f' := (mkF m 1 #[.val (.int p0), .val (.int p1)] [(.int p1)])) (fun t k => XS.iloadN N0.here hx rfl (hb hby d11_0) rfl k) ?_
  by_cases l1 : p1 = 0
  · refine Ends.go (f' := (mkF m 4 #[.val (.int p0), .val (.int p1)] [])) (fun t k => XS.ifNo N0.here hx rfl (hb hby d11_1) rfl (XT.i0_ne_f l1) k) ?_
    refine Ends.go (f' := (mkF m 5 #[.val (.int p0), .val (.int p1)] [.null])) (fun t k => XS.aconstNull N0.here hx rfl (hb hby d11_4) k) ?_
    exact retA N0 hx hlk hret rfl rfl (hb hby d11_5) ⟨_, rfl, rfl, (ext_refl h0)⟩ (nle rfl) (nle rfl)
  · refine Ends.go (f' := (mkF m 6 #[.val (.int p0), .val (.int p1)] [])) (fun t k => XS.ifYes N0.here hx rfl (pc0 := 1) (pc' := 6) rfl (hb hby d11_1) rfl (XT.i0_ne_t l1) (by decide) (by decide) k) ?_
    refine gNew (a0 := a0) N0 hx hZ hown (hw _ (List.mem_of_getElem? (i := 13) rfl)) (hw _ (List.mem_of_getElem? (i := 14) rfl)) (hw _ (List.mem_of_getElem? (i := 15) rfl)) (hb hby d11_6) (nle rfl) (nle rfl) ?_
    intro T1 h2 a3 ea4 N5 E6 A7 D8
    have g9 : h0.size ≤ a3 := by rw [ea4]; exact (ext_refl h0).1
    have g10 : Z.heap.size ≤ a3 := by rw [ea4]; exact N0.le
    have X11 : Ext h0 h2 := ext_trans (ext_refl h0) E6
    show Ends p e below _ T1 (mkF m 9 #[.val (.int p0), .val (.int p1)] [(.ref a3)])
    refine Ends.go (f' := (mkF m 10 #[.val (.int p0), .val (.int p1)] [(.ref a3), (.ref a3)])) (fun t k => XS.dup N5.here hx rfl (hb hby d11_9) rfl rfl k) ?_
    refine Ends.go (f' := (mkF m 11 #[.val (.int p0), .val (.int p1)] [(.int (2 : Int32)), (.ref a3), (.ref a3)])) (fun t k => XS.iconst N5.here hx rfl (hb hby d11_10) k) ?_
    refine gArr 2 N5 hx hZ (hw _ (List.mem_of_getElem? (i := 16) rfl)) (hb hby d11_11) (by decide) (nle rfl) (nle rfl) (nle rfl) (nle rfl) ?_
    intro T12 h13 b14 kA15 eb16 N17 E18 V19
    have g20 : h0.size ≤ b14 := by rw [eb16]; exact X11.1
    have g21 : h2.size ≤ b14 := by rw [eb16]; exact (ext_refl h2).1
    have g22 : Z.heap.size ≤ b14 := by rw [eb16]; exact N5.le
    have X23 : Ext h0 h13 := ext_trans X11 E18
    have X24 : Ext h2 h13 := ext_trans (ext_refl h2) E18
    have V25 : Arv Z h13 b14 kA15 .char (2 : Int32) [(.int (0 : Int32)), (.int (0 : Int32))] (.int (0 : Int32)) := V19.pad (pad_rep [] (.int (0 : Int32)) 2)
    show Ends p e below _ T12 (mkF m 13 #[.val (.int p0), .val (.int p1)] [(.ref b14), (.ref a3), (.ref a3)])
    refine Ends.go (f' := (mkF m 14 #[.val (.int p0), .val (.int p1)] [(.ref b14), (.ref b14), (.ref a3), (.ref a3)])) (fun t k => XS.dup N17.here hx rfl (hb hby d11_13) rfl rfl k) ?_
    refine Ends.go (f' := (mkF m 15 #[.val (.int p0), .val (.int p1)] [(.int (0 : Int32)), (.ref b14), (.ref b14), (.ref a3), (.ref a3)])) (fun t k => XS.iconst N17.here hx rfl (hb hby d11_14) k) ?_
    refine Ends.go (f' := (mkF m 16 #[.val (.int p0), .val (.int p1)] [(.int p0), (.int (0 : Int32)), (.ref b14), (.ref b14), (.ref a3), (.ref a3)])) (fun t k => XS.iloadN N17.here hx rfl (hb hby d11_15) rfl k) ?_
    refine Ends.go (f' := (mkF m 19 #[.val (.int p0), .val (.int p1)] [(.int (255 : Int32)), (.int p0), (.int (0 : Int32)), (.ref b14), (.ref b14), (.ref a3), (.ref a3)])) (fun t k => XS.sipush N17.here hx rfl (hb hby d11_16) k) ?_
    refine Ends.go (f' := (mkF m 20 #[.val (.int p0), .val (.int p1)] [(.int (p0 &&& (255 : Int32))), (.int (0 : Int32)), (.ref b14), (.ref b14), (.ref a3), (.ref a3)])) (fun t k => XS.iand N17.here hx rfl (hb hby d11_19) rfl k) ?_
    refine Ends.go (f' := (mkF m 21 #[.val (.int p0), .val (.int p1)] [(.int (nar .char (p0 &&& (255 : Int32)))), (.int (0 : Int32)), (.ref b14), (.ref b14), (.ref a3), (.ref a3)])) (fun t k => XT.i2c N17.here hx rfl (hb hby d11_20) rfl k) ?_
    have n1 : nar .char (nar .char (p0 &&& (255 : Int32))) = nar .char (p0 &&& (255 : Int32)) := by rw [nar_ok (and255 p0), nar_ok (and255 p0)]
    have k1 : ¬ nar .char (p0 &&& (255 : Int32)) < 0 ∧ ¬ (255 : Int32) < nar .char (p0 &&& (255 : Int32)) := by rw [nar_ok (and255 p0)]; exact and255 p0
    have n2 : nar .char (nar .char ((XT.ushr p0 (8 : Int32)) &&& (255 : Int32))) = nar .char ((XT.ushr p0 (8 : Int32)) &&& (255 : Int32)) := by rw [nar_ok (and255 _), nar_ok (and255 _)]
    have k2 : ¬ nar .char ((XT.ushr p0 (8 : Int32)) &&& (255 : Int32)) < 0 ∧ ¬ (255 : Int32) < nar .char ((XT.ushr p0 (8 : Int32)) &&& (255 : Int32)) := by rw [nar_ok (and255 _)]; exact and255 _
    refine gStC 0 N17 hx hZ V25 g22 (by decide) rfl (nle rfl) (hb hby d11_21) ?_
    intro T26 h27 N28 W29 V30
    rw [n1] at V30
    have V31 : Arv Z h27 b14 kA15 .char (2 : Int32) [(.int (nar .char (p0 &&& (255 : Int32)))), (.int (0 : Int32))] (.int (0 : Int32)) := V30
    have X32 : Ext h0 h27 := ext_wr X23 W29 g20
    have X33 : Ext h2 h27 := ext_wr X24 W29 g21
    show Ends p e below _ T26 (mkF m 22 #[.val (.int p0), .val (.int p1)] [(.ref b14), (.ref a3), (.ref a3)])
    refine Ends.go (f' := (mkF m 23 #[.val (.int p0), .val (.int p1)] [(.ref b14), (.ref b14), (.ref a3), (.ref a3)])) (fun t k => XS.dup N28.here hx rfl (hb hby d11_22) rfl rfl k) ?_
    refine Ends.go (f' := (mkF m 24 #[.val (.int p0), .val (.int p1)] [(.int (1 : Int32)), (.ref b14), (.ref b14), (.ref a3), (.ref a3)])) (fun t k => XS.iconst N28.here hx rfl (hb hby d11_23) k) ?_
    refine Ends.go (f' := (mkF m 25 #[.val (.int p0), .val (.int p1)] [(.int p0), (.int (1 : Int32)), (.ref b14), (.ref b14), (.ref a3), (.ref a3)])) (fun t k => XS.iloadN N28.here hx rfl (hb hby d11_24) rfl k) ?_
    refine Ends.go (f' := (mkF m 27 #[.val (.int p0), .val (.int p1)] [(.int (8 : Int32)), (.int p0), (.int (1 : Int32)), (.ref b14), (.ref b14), (.ref a3), (.ref a3)])) (fun t k => XS.bipush N28.here hx rfl (hb hby d11_25) k) ?_
    refine Ends.go (f' := (mkF m 28 #[.val (.int p0), .val (.int p1)] [(.int (XT.ushr p0 (8 : Int32))), (.int (1 : Int32)), (.ref b14), (.ref b14), (.ref a3), (.ref a3)])) (fun t k => XT.iushr N28.here hx rfl (hb hby d11_27) rfl k) ?_
    refine Ends.go (f' := (mkF m 31 #[.val (.int p0), .val (.int p1)] [(.int (255 : Int32)), (.int (XT.ushr p0 (8 : Int32))), (.int (1 : Int32)), (.ref b14), (.ref b14), (.ref a3), (.ref a3)])) (fun t k => XS.sipush N28.here hx rfl (hb hby d11_28) k) ?_
    refine Ends.go (f' := (mkF m 32 #[.val (.int p0), .val (.int p1)] [(.int ((XT.ushr p0 (8 : Int32)) &&& (255 : Int32))), (.int (1 : Int32)), (.ref b14), (.ref b14), (.ref a3), (.ref a3)])) (fun t k => XS.iand N28.here hx rfl (hb hby d11_31) rfl k) ?_
    refine Ends.go (f' := (mkF m 33 #[.val (.int p0), .val (.int p1)] [(.int (nar .char ((XT.ushr p0 (8 : Int32)) &&& (255 : Int32)))), (.int (1 : Int32)), (.ref b14), (.ref b14), (.ref a3), (.ref a3)])) (fun t k => XT.i2c N28.here hx rfl (hb hby d11_32) rfl k) ?_
    refine gStC 1 N28 hx hZ V31 g22 (by decide) rfl (nle rfl) (hb hby d11_33) ?_
    intro T34 h35 N36 W37 V38
    rw [n2] at V38
    have V39 : Arv Z h35 b14 kA15 .char (2 : Int32) [(.int (nar .char (p0 &&& (255 : Int32)))), (.int (nar .char ((XT.ushr p0 (8 : Int32)) &&& (255 : Int32))))] (.int (0 : Int32)) := V38
    have X40 : Ext h0 h35 := ext_wr X32 W37 g20
    have X41 : Ext h2 h35 := ext_wr X33 W37 g21
    show Ends p e below _ T34 (mkF m 34 #[.val (.int p0), .val (.int p1)] [(.ref b14), (.ref a3), (.ref a3)])
    refine gSpecial (W := 1) (y := (⟨"java/lang/String", "<init>", "([C)V"⟩ : MethodName)) (a := a3) (argsL := [(.ref b14)]) (rest := [(.ref a3)]) rfl N36 hx hZ hown (hw _ (List.mem_of_getElem? (i := 20) rfl)) (hw _ (List.mem_of_getElem? (i := 21) rfl)) (hw _ (List.mem_of_getElem? (i := 22) rfl)) (by decide) (strNew (W := 1) (cs := [(nar .char (p0 &&& (255 : Int32))), (nar .char ((XT.ushr p0 (8 : Int32)) &&& (255 : Int32)))]) hZ hw G N36.ext g10 (A7.ext X41) ((D8 (Or.inr (hw _ (List.mem_of_getElem? (i := 45) rfl))) (ty := .array .byte) (by decide)).ext X41) ((D8 (Or.inr (hw _ (List.mem_of_getElem? (i := 43) rfl))) (ty := .byte) (by decide)).ext X41) V39 (nle rfl) (nle rfl) (hp_cons k1 (hp_cons k2 hp_nil)) (nle rfl) (nle rfl)) (hb hby d11_34) rfl (by rw [hml]; rfl) (lenOf (by decide +kernel : parseMethodDescriptor "([C)V" = some ⟨[(.array .char)], none⟩) rfl) (nle rfl) (nle rfl) (nle rfl) (fun _ _ _ q => q.2.2.2) ?_
    rintro _ T42 h43 L44 N45 ⟨rfl, K46, S47, -⟩
    have X48 : Ext h0 h43 := ext_keep X40 K46 g9
    show Ends p e below _ T42 (mkF m 37 #[.val (.int p0), .val (.int p1)] [(.ref a3)])
    exact retA N45 hx hlk hret rfl rfl (hb hby d11_37) ⟨_, rfl, rfl, X48⟩ (nle rfl) (nle rfl)
theorem d17_0 : decode jdk_42_method_154_code 0 = .ok (.getstatic 38, 3) := by decide +kernel
theorem d17_3 : decode jdk_42_method_154_code 3 = .ok (.ifCond .eq 14, 3) := by decide +kernel
theorem d17_6 : decode jdk_42_method_154_code 6 = .ok (.aload_n 0, 1) := by decide +kernel
theorem d17_7 : decode jdk_42_method_154_code 7 = .ok (.getfield 15, 3) := by decide +kernel
theorem d17_10 : decode jdk_42_method_154_code 10 = .ok (.ifCond .ne 7, 3) := by decide +kernel
theorem d17_13 : decode jdk_42_method_154_code 13 = .ok (.iconst 1, 1) := by decide +kernel
theorem d17_14 : decode jdk_42_method_154_code 14 = .ok (.goto 4, 3) := by decide +kernel
theorem d17_18 : decode jdk_42_method_154_code 18 = .ok (.ireturn, 1) := by decide +kernel
set_option maxRecDepth 65536 in
set_option maxHeartbeats 40000000 in
theorem rmIL (l : Launch) (Z : State) (a0 : Array Value) (hw : ∀ d ∈ tables_1, d.before a0 Z = true) (a : Addr) (cs : List Int32) (h0 : Heap) (Z0 : Ext Z.heap h0) (G : Jdk Z) (S : Str Z h0 a cs) :
    MetN l Z (⟨"java/lang/String", "isLatin1", "()Z"⟩ : MethodName) jdk_42_method_154_code 1 (some .boolean) [] ({ frames := 0, cells := 0, slots := 0, locals := 0 } : Room) #[(.ref a)] h0 (fun v h => v = some (.int 1) ∧ h = h0) := by
  refine metN (by first | exact plainFor_of_name (by first | (simp [plainName, overriddenIn]; done) | decide +kernel) | decide +kernel) Z0 (Ls := #[.val (.ref a)]) (fun m => by first | (simp [entryFrame, mkF, argsToLocals, Value.category]; done) | rfl) ?_
  intro p e s m below meth c T0 hx hby hml hret hlk hown hnm hZ N0
  obtain ⟨⟨z, Sz, hz⟩, -⟩ := G
  refine gSta (O := "java/lang/String") N0 hx hZ hown (hw _ (List.mem_of_getElem? (i := 30) rfl)) Via.refl (Sz.ext N0.ext) (hb hby d17_0) ?_
  intro T1 N2
  show Ends p e below _ T1 (mkF m 3 #[.val (.ref a)] [(.int z)])
  refine Ends.go (f' := (mkF m 6 #[.val (.ref a)] [])) (fun t k => XS.ifNo N2.here hx rfl (hb hby d17_3) rfl (XT.i0_eq_f hz) k) ?_
  refine Ends.go (f' := (mkF m 7 #[.val (.ref a)] [(.ref a)])) (fun t k => XS.aloadN N2.here hx rfl (hb hby d17_6) rfl rfl k) ?_
  refine gGet (host := "") N2 hx hZ hown (Or.inl (hw _ (List.mem_of_getElem? (i := 42) rfl))) Via.refl S.2.1 (hb hby d17_7) ?_
  intro T3 N4
  show Ends p e below _ T3 (mkF m 10 #[.val (.ref a)] [(.int (0 : Int32))])
  refine Ends.go (f' := (mkF m 13 #[.val (.ref a)] [])) (fun t k => XS.ifNo N4.here hx rfl (hb hby d17_10) rfl (XT.i0_ne_f (by decide)) k) ?_
  refine Ends.go (f' := (mkF m 14 #[.val (.ref a)] [(.int (1 : Int32))])) (fun t k => XS.iconst N4.here hx rfl (hb hby d17_13) k) ?_
  refine Ends.go (f' := (mkF m 18 #[.val (.ref a)] [(.int (1 : Int32))])) (fun t k => XS.goto N4.here hx rfl (pc0 := 14) (pc' := 18) rfl (hb hby d17_14) (by decide) (by decide) k) ?_
  exact retZ N4 hx hlk hret (by simp) (hb hby d17_18) ⟨rfl, rfl⟩ (nle rfl) (nle rfl)
theorem pos_len {ch : Int32} {r : List Int32} (h : (ch :: r).length ≤ 4000) : (0 : Int32) < Int32.ofNat (ch :: r).length := by
  rw [Int32.lt_iff_toInt_lt, show (Int32.ofNat (ch :: r).length).toInt = ((ch :: r).length : Int) from len_toInt (by omega)]
  have e0 : (0 : Int32).toInt = 0 := rfl
  rw [e0, List.length_cons]; omega
theorem d19_0 : decode jdk_43_method_44_code 0 = .ok (.aload_n 0, 1) := by decide +kernel
theorem d19_1 : decode jdk_43_method_44_code 1 = .ok (.iload_n 1, 1) := by decide +kernel
theorem d19_2 : decode jdk_43_method_44_code 2 = .ok (.baload, 1) := by decide +kernel
theorem d19_3 : decode jdk_43_method_44_code 3 = .ok (.sipush 255, 3) := by decide +kernel
theorem d19_6 : decode jdk_43_method_44_code 6 = .ok (.iand, 1) := by decide +kernel
theorem d19_7 : decode jdk_43_method_44_code 7 = .ok (.i2c, 1) := by decide +kernel
theorem d19_8 : decode jdk_43_method_44_code 8 = .ok (.ireturn, 1) := by decide +kernel
set_option maxRecDepth 65536 in
set_option maxHeartbeats 40000000 in
theorem rmGC (l : Launch) (Z : State) (a0 : Array Value) (hw : ∀ d ∈ tables_1, d.before a0 Z = true) (tb : Addr) (kb : ClassId) (ch : Int32) (r : List Int32) (h0 : Heap) (Z0 : Ext Z.heap h0) (K : Arv Z h0 tb kb .byte (Int32.ofNat (ch :: r).length) (((ch :: r).map fun c => c.toInt8.toInt32).map Value.int) (.int 0)) (hl : (ch :: r).length ≤ 4000) (hc : ¬ ch < 0 ∧ ¬ (255 : Int32) < ch) :
    MetN l Z (⟨"java/lang/StringLatin1", "getChar", "([BI)C"⟩ : MethodName) jdk_43_method_44_code 2 (some .char) [] ({ frames := 0, cells := 0, slots := 0, locals := 0 } : Room) #[(.ref tb), (.int (0 : Int32))] h0 (fun v h => v = some (.int ch) ∧ h = h0) := by
  refine metN (by first | exact plainFor_of_name (by first | (simp [plainName, overriddenIn]; done) | decide +kernel) | decide +kernel) Z0 (Ls := #[.val (.ref tb), .val (.int (0 : Int32))]) (fun m => by first | (simp [entryFrame, mkF, argsToLocals, Value.category]; done) | rfl) ?_
  intro p e s m below meth c T0 hx hby hml hret hlk hown hnm hZ N0
  refine Ends.go (f' := (mkF m 1 #[.val (.ref tb), .val (.int (0 : Int32))] [(.ref tb)])) (fun t k => XS.aloadN N0.here hx rfl (hb hby d19_0) rfl rfl k) ?_
  refine Ends.go (f' := (mkF m 2 #[.val (.ref tb), .val (.int (0 : Int32))] [(.int (0 : Int32)), (.ref tb)])) (fun t k => XS.iloadN N0.here hx rfl (hb hby d19_1) rfl k) ?_
  refine gLdB (v := .int ch.toInt8.toInt32) N0 hx hZ K ⟨by decide, pos_len hl⟩ rfl (hb hby d19_2) ?_
  show Ends p e below _ T0 (mkF m 3 #[.val (.ref tb), .val (.int (0 : Int32))] [(.int ch.toInt8.toInt32)])
  refine Ends.go (f' := (mkF m 6 #[.val (.ref tb), .val (.int (0 : Int32))] [(.int (255 : Int32)), (.int ch.toInt8.toInt32)])) (fun t k => XS.sipush N0.here hx rfl (hb hby d19_3) k) ?_
  refine Ends.go (f' := (mkF m 7 #[.val (.ref tb), .val (.int (0 : Int32))] [(.int (ch.toInt8.toInt32 &&& (255 : Int32)))])) (fun t k => XS.iand N0.here hx rfl (hb hby d19_6) rfl k) ?_
  refine Ends.go (f' := (mkF m 8 #[.val (.ref tb), .val (.int (0 : Int32))] [(.int (nar .char (ch.toInt8.toInt32 &&& (255 : Int32))))])) (fun t k => XT.i2c N0.here hx rfl (hb hby d19_7) rfl k) ?_
  exact retZ N0 hx hlk hret (by simp) (hb hby d19_8) ⟨by rw [byte_ok hc], rfl⟩ (nle rfl) (nle rfl)
theorem lt256 {ch : Int32} (h : ¬ ch < 0 ∧ ¬ (255 : Int32) < ch) : ¬ ch < 0 ∧ ch < (256 : Int32) := ⟨h.1, by have q := h.2; have e1 : (255 : Int32).toInt = 255 := rfl; have e2 : (256 : Int32).toInt = 256 := rfl; rw [Int32.lt_iff_toInt_lt] at q ⊢; omega⟩
theorem d21_0 : decode jdk_116_method_1_code 0 = .ok (.iload_n 1, 1) := by decide +kernel
theorem d21_1 : decode jdk_116_method_1_code 1 = .ok (.i2c, 1) := by decide +kernel
theorem d21_2 : decode jdk_116_method_1_code 2 = .ok (.istore_n 2, 1) := by decide +kernel
theorem d21_3 : decode jdk_116_method_1_code 3 = .ok (.getstatic 1, 3) := by decide +kernel
theorem d21_6 : decode jdk_116_method_1_code 6 = .ok (.iload_n 2, 1) := by decide +kernel
theorem d21_7 : decode jdk_116_method_1_code 7 = .ok (.iaload, 1) := by decide +kernel
theorem d21_8 : decode jdk_116_method_1_code 8 = .ok (.istore_n 3, 1) := by decide +kernel
theorem d21_9 : decode jdk_116_method_1_code 9 = .ok (.iload_n 3, 1) := by decide +kernel
theorem d21_10 : decode jdk_116_method_1_code 10 = .ok (.ireturn, 1) := by decide +kernel
set_option maxRecDepth 65536 in
set_option maxHeartbeats 40000000 in
theorem rmGP (l : Launch) (Z : State) (a0 : Array Value) (hw : ∀ d ∈ tables_1, d.before a0 Z = true) (ci : Addr) (ch : Int32) (h0 : Heap) (Z0 : Ext Z.heap h0) (D : Cdl Z) (hc : ¬ ch < 0 ∧ ¬ (255 : Int32) < ch) :
    MetN l Z (⟨"java/lang/CharacterDataLatin1", "getProperties", "(I)I"⟩ : MethodName) jdk_116_method_1_code 4 (some .int) [] ({ frames := 0, cells := 0, slots := 0, locals := 0 } : Room) #[(.ref ci), (.int ch)] h0 (fun v h => v = some (.int (pr ch)) ∧ h = h0) := by
  refine metN (by first | exact plainFor_of_name (by first | (simp [plainName, overriddenIn]; done) | decide +kernel) | decide +kernel) Z0 (Ls := #[.val (.ref ci), .val (.int ch), .unset, .unset]) (fun m => by first | (simp [entryFrame, mkF, argsToLocals, Value.category]; done) | rfl) ?_
  intro p e s m below meth c T0 hx hby hml hret hlk hown hnm hZ N0
  obtain ⟨-, aa, kA, SA, KA⟩ := D
  have nc := nar_ok hc
  refine Ends.go (f' := (mkF m 1 #[.val (.ref ci), .val (.int ch), .unset, .unset] [(.int ch)])) (fun t k => XS.iloadN N0.here hx rfl (hb hby d21_0) rfl k) ?_
  refine Ends.go (f' := (mkF m 2 #[.val (.ref ci), .val (.int ch), .unset, .unset] [(.int (nar .char ch))])) (fun t k => XT.i2c N0.here hx rfl (hb hby d21_1) rfl k) ?_
  rw [nc]
  refine Ends.go (f' := (mkF m 3 #[.val (.ref ci), .val (.int ch), .val (.int ch), .unset] [])) (fun t k => XS.istoreN N0.here hx rfl (hb hby d21_2) rfl (l' := #[.val (.ref ci), .val (.int ch), .val (.int ch), .unset]) rfl k) ?_
  refine gSta (O := "java/lang/CharacterDataLatin1") N0 hx hZ hown (hw _ (List.mem_of_getElem? (i := 98) rfl)) Via.refl (SA.ext N0.ext) (hb hby d21_3) ?_
  intro T1 N2
  show Ends p e below _ T1 (mkF m 6 #[.val (.ref ci), .val (.int ch), .val (.int ch), .unset] [(.ref aa)])
  refine Ends.go (f' := (mkF m 7 #[.val (.ref ci), .val (.int ch), .val (.int ch), .unset] [(.int ch), (.ref aa)])) (fun t k => XS.iloadN N2.here hx rfl (hb hby d21_6) rfl k) ?_
  refine gLdI (v := .int (pr ch)) N2 hx hZ (KA.ext N2.ext) (lt256 hc) (map_getD _ _) (hb hby d21_7) ?_
  show Ends p e below _ T1 (mkF m 8 #[.val (.ref ci), .val (.int ch), .val (.int ch), .unset] [(.int (pr ch))])
  refine Ends.go (f' := (mkF m 9 #[.val (.ref ci), .val (.int ch), .val (.int ch), .val (.int (pr ch))] [])) (fun t k => XS.istoreN N2.here hx rfl (hb hby d21_8) rfl (l' := #[.val (.ref ci), .val (.int ch), .val (.int ch), .val (.int (pr ch))]) rfl k) ?_
  refine Ends.go (f' := (mkF m 10 #[.val (.ref ci), .val (.int ch), .val (.int ch), .val (.int (pr ch))] [(.int (pr ch))])) (fun t k => XS.iloadN N2.here hx rfl (hb hby d21_9) rfl k) ?_
  exact retI N2 hx hlk hret (hb hby d21_10) ⟨rfl, rfl⟩ (nle rfl) (nle rfl)
theorem d20_0 : decode jdk_116_method_26_code 0 = .ok (.aload_n 0, 1) := by decide +kernel
theorem d20_1 : decode jdk_116_method_26_code 1 = .ok (.iload_n 1, 1) := by decide +kernel
theorem d20_2 : decode jdk_116_method_26_code 2 = .ok (.invokevirtual 15, 3) := by decide +kernel
theorem d20_5 : decode jdk_116_method_26_code 5 = .ok (.istore_n 2, 1) := by decide +kernel
theorem d20_6 : decode jdk_116_method_26_code 6 = .ok (.iload_n 2, 1) := by decide +kernel
theorem d20_7 : decode jdk_116_method_26_code 7 = .ok (.sipush 28672, 3) := by decide +kernel
theorem d20_10 : decode jdk_116_method_26_code 10 = .ok (.iand, 1) := by decide +kernel
theorem d20_11 : decode jdk_116_method_26_code 11 = .ok (.sipush 16384, 3) := by decide +kernel
theorem d20_14 : decode jdk_116_method_26_code 14 = .ok (.if_icmp .ne 7, 3) := by decide +kernel
theorem d20_21 : decode jdk_116_method_26_code 21 = .ok (.iconst 0, 1) := by decide +kernel
theorem d20_22 : decode jdk_116_method_26_code 22 = .ok (.ireturn, 1) := by decide +kernel
set_option maxRecDepth 65536 in
set_option maxHeartbeats 40000000 in
theorem rmWS (l : Launch) (Z : State) (a0 : Array Value) (hw : ∀ d ∈ tables_1, d.before a0 Z = true) (ci : Addr) (ch : Int32) (h0 : Heap) (Z0 : Ext Z.heap h0) (D : Cdl Z) (hc : ¬ ch < 0 ∧ ¬ (255 : Int32) < ch) (E : Exa Z h0 ci "java/lang/CharacterDataLatin1") (hn : ¬ (pr ch &&& (28672 : Int32)) = (16384 : Int32)) :
    MetN l Z (⟨"java/lang/CharacterDataLatin1", "isWhitespace", "(I)Z"⟩ : MethodName) jdk_116_method_26_code 3 (some .boolean) [] ({ frames := 1, cells := 0, slots := 0, locals := 15 } : Room) #[(.ref ci), (.int ch)] h0 (fun v h => v = some (.int 0) ∧ h = h0) := by
  refine metN (by first | exact plainFor_of_name (by first | (simp [plainName, overriddenIn]; done) | decide +kernel) | decide +kernel) Z0 (Ls := #[.val (.ref ci), .val (.int ch), .unset]) (fun m => by first | (simp [entryFrame, mkF, argsToLocals, Value.category]; done) | rfl) ?_
  intro p e s m below meth c T0 hx hby hml hret hlk hown hnm hZ N0
  refine Ends.go (f' := (mkF m 1 #[.val (.ref ci), .val (.int ch), .unset] [(.ref ci)])) (fun t k => XS.aloadN N0.here hx rfl (hb hby d20_0) rfl rfl k) ?_
  refine Ends.go (f' := (mkF m 2 #[.val (.ref ci), .val (.int ch), .unset] [(.int ch), (.ref ci)])) (fun t k => XS.iloadN N0.here hx rfl (hb hby d20_1) rfl k) ?_
  refine gVirtual (W := 0) (y := (⟨"java/lang/CharacterDataLatin1", "getProperties", "(I)I"⟩ : MethodName)) (z := (⟨"java/lang/CharacterDataLatin1", "getProperties", "(I)I"⟩ : MethodName)) (C := "java/lang/CharacterDataLatin1") (b := ci) (argsL := [(.int ch)]) (rest := []) N0 hx hZ hown (hw _ (List.mem_of_getElem? (i := 93) rfl)) (hw _ (List.mem_of_getElem? (i := 94) rfl)) (hw _ (List.mem_of_getElem? (i := 96) rfl)) (hw _ (List.mem_of_getElem? (i := 95) rfl)) (by decide) (notFace_of_selects (args := #[]) (mvT hZ (hw _ (List.mem_of_getElem? (i := 96) rfl)))) E ((rmGP l Z a0 hw ci ch h0 N0.ext D hc).back (W := 0) hZ (hw _ (List.mem_of_getElem? (i := 97) rfl)) (hw _ (List.mem_of_getElem? (i := 87) rfl)) (nle rfl) (nle rfl)) (hb hby d20_2) rfl (by rw [hml]; rfl) (lenOf (by decide +kernel : parseMethodDescriptor "(I)I" = some ⟨[.int], (some .int)⟩) rfl) (nle rfl) (nle rfl) (nle rfl) (fun _ _ _ q => q.2) ?_
  rintro _ T1 _ _ N2 ⟨⟨rfl, e_h⟩, -⟩; rw [e_h] at N2; clear e_h
  show Ends p e below _ T1 (mkF m 5 #[.val (.ref ci), .val (.int ch), .unset] [(.int (pr ch))])
  refine Ends.go (f' := (mkF m 6 #[.val (.ref ci), .val (.int ch), .val (.int (pr ch))] [])) (fun t k => XS.istoreN N2.here hx rfl (hb hby d20_5) rfl (l' := #[.val (.ref ci), .val (.int ch), .val (.int (pr ch))]) rfl k) ?_
  refine Ends.go (f' := (mkF m 7 #[.val (.ref ci), .val (.int ch), .val (.int (pr ch))] [(.int (pr ch))])) (fun t k => XS.iloadN N2.here hx rfl (hb hby d20_6) rfl k) ?_
  refine Ends.go (f' := (mkF m 10 #[.val (.ref ci), .val (.int ch), .val (.int (pr ch))] [(.int (28672 : Int32)), (.int (pr ch))])) (fun t k => XS.sipush N2.here hx rfl (hb hby d20_7) k) ?_
  refine Ends.go (f' := (mkF m 11 #[.val (.ref ci), .val (.int ch), .val (.int (pr ch))] [(.int ((pr ch) &&& (28672 : Int32)))])) (fun t k => XS.iand N2.here hx rfl (hb hby d20_10) rfl k) ?_
  refine Ends.go (f' := (mkF m 14 #[.val (.ref ci), .val (.int ch), .val (.int (pr ch))] [(.int (16384 : Int32)), (.int ((pr ch) &&& (28672 : Int32)))])) (fun t k => XS.sipush N2.here hx rfl (hb hby d20_11) k) ?_
  refine Ends.go (f' := (mkF m 21 #[.val (.ref ci), .val (.int ch), .val (.int (pr ch))] [])) (fun t k => XS.icmpYes N2.here hx rfl (pc0 := 14) (pc' := 21) rfl (hb hby d20_14) rfl (XT.ii_ne_t hn) (by decide) (by decide) k) ?_
  refine Ends.go (f' := (mkF m 22 #[.val (.ref ci), .val (.int ch), .val (.int (pr ch))] [(.int (0 : Int32))])) (fun t k => XS.iconst N2.here hx rfl (hb hby d20_21) k) ?_
  exact retZ N2 hx hlk hret (by simp) (hb hby d20_22) ⟨rfl, rfl⟩ (nle rfl) (nle rfl)
theorem d18_0 : decode jdk_43_method_37_code 0 = .ok (.aload_n 0, 1) := by decide +kernel
theorem d18_1 : decode jdk_43_method_37_code 1 = .ok (.arraylength, 1) := by decide +kernel
theorem d18_2 : decode jdk_43_method_37_code 2 = .ok (.istore_n 1, 1) := by decide +kernel
theorem d18_3 : decode jdk_43_method_37_code 3 = .ok (.iconst 0, 1) := by decide +kernel
theorem d18_4 : decode jdk_43_method_37_code 4 = .ok (.istore_n 2, 1) := by decide +kernel
theorem d18_5 : decode jdk_43_method_37_code 5 = .ok (.iload_n 2, 1) := by decide +kernel
theorem d18_6 : decode jdk_43_method_37_code 6 = .ok (.iload_n 1, 1) := by decide +kernel
theorem d18_7 : decode jdk_43_method_37_code 7 = .ok (.if_icmp .ge 40, 3) := by decide +kernel
theorem d18_10 : decode jdk_43_method_37_code 10 = .ok (.aload_n 0, 1) := by decide +kernel
theorem d18_11 : decode jdk_43_method_37_code 11 = .ok (.iload_n 2, 1) := by decide +kernel
theorem d18_12 : decode jdk_43_method_37_code 12 = .ok (.invokestatic 50, 3) := by decide +kernel
theorem d18_15 : decode jdk_43_method_37_code 15 = .ok (.istore_n 3, 1) := by decide +kernel
theorem d18_16 : decode jdk_43_method_37_code 16 = .ok (.iload_n 3, 1) := by decide +kernel
theorem d18_17 : decode jdk_43_method_37_code 17 = .ok (.bipush 32, 2) := by decide +kernel
theorem d18_19 : decode jdk_43_method_37_code 19 = .ok (.if_icmp .eq 22, 3) := by decide +kernel
theorem d18_22 : decode jdk_43_method_37_code 22 = .ok (.iload_n 3, 1) := by decide +kernel
theorem d18_23 : decode jdk_43_method_37_code 23 = .ok (.bipush 9, 2) := by decide +kernel
theorem d18_25 : decode jdk_43_method_37_code 25 = .ok (.if_icmp .eq 16, 3) := by decide +kernel
theorem d18_28 : decode jdk_43_method_37_code 28 = .ok (.getstatic 66, 3) := by decide +kernel
theorem d18_31 : decode jdk_43_method_37_code 31 = .ok (.iload_n 3, 1) := by decide +kernel
theorem d18_32 : decode jdk_43_method_37_code 32 = .ok (.invokevirtual 211, 3) := by decide +kernel
theorem d18_35 : decode jdk_43_method_37_code 35 = .ok (.ifCond .ne 6, 3) := by decide +kernel
theorem d18_38 : decode jdk_43_method_37_code 38 = .ok (.goto 9, 3) := by decide +kernel
theorem d18_47 : decode jdk_43_method_37_code 47 = .ok (.iload_n 2, 1) := by decide +kernel
theorem d18_48 : decode jdk_43_method_37_code 48 = .ok (.ireturn, 1) := by decide +kernel
set_option maxRecDepth 65536 in
set_option maxHeartbeats 40000000 in
theorem rmIN (l : Launch) (Z : State) (a0 : Array Value) (hw : ∀ d ∈ tables_1, d.before a0 Z = true) (tb : Addr) (kb : ClassId) (ch : Int32) (r : List Int32) (h0 : Heap) (Z0 : Ext Z.heap h0) (K : Arv Z h0 tb kb .byte (Int32.ofNat (ch :: r).length) (((ch :: r).map fun c => c.toInt8.toInt32).map Value.int) (.int 0)) (hl : (ch :: r).length ≤ 4000) (D : Cdl Z) (hc : ¬ ch < 0 ∧ ¬ (255 : Int32) < ch) (h32 : ¬ ch = (32 : Int32)) (h9 : ¬ ch = (9 : Int32)) (hn : ¬ (pr ch &&& (28672 : Int32)) = (16384 : Int32)) :
    MetN l Z (⟨"java/lang/StringLatin1", "indexOfNonWhitespace", "([B)I"⟩ : MethodName) jdk_43_method_37_code 4 (some .int) [] ({ frames := 2, cells := 0, slots := 0, locals := 29 } : Room) #[(.ref tb)] h0 (fun v h => v = some (.int 0) ∧ h = h0) := by
  refine metN (by first | exact plainFor_of_name (by first | (simp [plainName, overriddenIn]; done) | decide +kernel) | decide +kernel) Z0 (Ls := #[.val (.ref tb), .unset, .unset, .unset]) (fun m => by first | (simp [entryFrame, mkF, argsToLocals, Value.category]; done) | rfl) ?_
  intro p e s m below meth c T0 hx hby hml hret hlk hown hnm hZ N0
  obtain ⟨⟨ci, SI, EI⟩, -⟩ := id D
  refine Ends.go (f' := (mkF m 1 #[.val (.ref tb), .unset, .unset, .unset] [(.ref tb)])) (fun t k => XS.aloadN N0.here hx rfl (hb hby d18_0) rfl rfl k) ?_
  refine gLen N0 hx hZ K (hb hby d18_1) ?_
  show Ends p e below _ T0 (mkF m 2 #[.val (.ref tb), .unset, .unset, .unset] [(.int (Int32.ofNat (ch :: r).length))])
  refine Ends.go (f' := (mkF m 3 #[.val (.ref tb), .val (.int (Int32.ofNat (ch :: r).length)), .unset, .unset] [])) (fun t k => XS.istoreN N0.here hx rfl (hb hby d18_2) rfl (l' := #[.val (.ref tb), .val (.int (Int32.ofNat (ch :: r).length)), .unset, .unset]) rfl k) ?_
  refine Ends.go (f' := (mkF m 4 #[.val (.ref tb), .val (.int (Int32.ofNat (ch :: r).length)), .unset, .unset] [(.int (0 : Int32))])) (fun t k => XS.iconst N0.here hx rfl (hb hby d18_3) k) ?_
  refine Ends.go (f' := (mkF m 5 #[.val (.ref tb), .val (.int (Int32.ofNat (ch :: r).length)), .val (.int (0 : Int32)), .unset] [])) (fun t k => XS.istoreN N0.here hx rfl (hb hby d18_4) rfl (l' := #[.val (.ref tb), .val (.int (Int32.ofNat (ch :: r).length)), .val (.int (0 : Int32)), .unset]) rfl k) ?_
  refine Ends.go (f' := (mkF m 6 #[.val (.ref tb), .val (.int (Int32.ofNat (ch :: r).length)), .val (.int (0 : Int32)), .unset] [(.int (0 : Int32))])) (fun t k => XS.iloadN N0.here hx rfl (hb hby d18_5) rfl k) ?_
  refine Ends.go (f' := (mkF m 7 #[.val (.ref tb), .val (.int (Int32.ofNat (ch :: r).length)), .val (.int (0 : Int32)), .unset] [(.int (Int32.ofNat (ch :: r).length)), (.int (0 : Int32))])) (fun t k => XS.iloadN N0.here hx rfl (hb hby d18_6) rfl k) ?_
  refine Ends.go (f' := (mkF m 10 #[.val (.ref tb), .val (.int (Int32.ofNat (ch :: r).length)), .val (.int (0 : Int32)), .unset] [])) (fun t k => XS.icmpNo N0.here hx rfl (hb hby d18_7) rfl (XT.ii_ge_f (pos_len hl)) k) ?_
  refine Ends.go (f' := (mkF m 11 #[.val (.ref tb), .val (.int (Int32.ofNat (ch :: r).length)), .val (.int (0 : Int32)), .unset] [(.ref tb)])) (fun t k => XS.aloadN N0.here hx rfl (hb hby d18_10) rfl rfl k) ?_
  refine Ends.go (f' := (mkF m 12 #[.val (.ref tb), .val (.int (Int32.ofNat (ch :: r).length)), .val (.int (0 : Int32)), .unset] [(.int (0 : Int32)), (.ref tb)])) (fun t k => XS.iloadN N0.here hx rfl (hb hby d18_11) rfl k) ?_
  refine gStatic (W := 0) (argsL := [(.ref tb), (.int (0 : Int32))]) (rest := []) N0 hx hZ hown (hw _ (List.mem_of_getElem? (i := 83) rfl)) (hw _ (List.mem_of_getElem? (i := 84) rfl)) (hw _ (List.mem_of_getElem? (i := 81) rfl)) (hw _ (List.mem_of_getElem? (i := 85) rfl)) (by decide) ((rmGC l Z a0 hw tb kb ch r h0 N0.ext K hl hc).back (W := 0) hZ (hw _ (List.mem_of_getElem? (i := 85) rfl)) (hw _ (List.mem_of_getElem? (i := 81) rfl)) (nle rfl) (nle rfl)) (hb hby d18_12) rfl (by rw [hml]; rfl) (lenOf (by decide +kernel : parseMethodDescriptor "([BI)C" = some ⟨[(.array .byte), .int], (some .char)⟩) rfl) (nle rfl) (nle rfl) (nle rfl) (fun _ _ _ q => q.2) ?_
  rintro _ T1 _ _ N2 ⟨⟨rfl, e_h⟩, -⟩; rw [e_h] at N2; clear e_h
  show Ends p e below _ T1 (mkF m 15 #[.val (.ref tb), .val (.int (Int32.ofNat (ch :: r).length)), .val (.int (0 : Int32)), .unset] [(.int ch)])
  refine Ends.go (f' := (mkF m 16 #[.val (.ref tb), .val (.int (Int32.ofNat (ch :: r).length)), .val (.int (0 : Int32)), .val (.int ch)] [])) (fun t k => XS.istoreN N2.here hx rfl (hb hby d18_15) rfl (l' := #[.val (.ref tb), .val (.int (Int32.ofNat (ch :: r).length)), .val (.int (0 : Int32)), .val (.int ch)]) rfl k) ?_
  refine Ends.go (f' := (mkF m 17 #[.val (.ref tb), .val (.int (Int32.ofNat (ch :: r).length)), .val (.int (0 : Int32)), .val (.int ch)] [(.int ch)])) (fun t k => XS.iloadN N2.here hx rfl (hb hby d18_16) rfl k) ?_
  refine Ends.go (f' := (mkF m 19 #[.val (.ref tb), .val (.int (Int32.ofNat (ch :: r).length)), .val (.int (0 : Int32)), .val (.int ch)] [(.int (32 : Int32)), (.int ch)])) (fun t k => XS.bipush N2.here hx rfl (hb hby d18_17) k) ?_
  refine Ends.go (f' := (mkF m 22 #[.val (.ref tb), .val (.int (Int32.ofNat (ch :: r).length)), .val (.int (0 : Int32)), .val (.int ch)] [])) (fun t k => XS.icmpNo N2.here hx rfl (hb hby d18_19) rfl (XT.ii_eq_f h32) k) ?_
  refine Ends.go (f' := (mkF m 23 #[.val (.ref tb), .val (.int (Int32.ofNat (ch :: r).length)), .val (.int (0 : Int32)), .val (.int ch)] [(.int ch)])) (fun t k => XS.iloadN N2.here hx rfl (hb hby d18_22) rfl k) ?_
  refine Ends.go (f' := (mkF m 25 #[.val (.ref tb), .val (.int (Int32.ofNat (ch :: r).length)), .val (.int (0 : Int32)), .val (.int ch)] [(.int (9 : Int32)), (.int ch)])) (fun t k => XS.bipush N2.here hx rfl (hb hby d18_23) k) ?_
  refine Ends.go (f' := (mkF m 28 #[.val (.ref tb), .val (.int (Int32.ofNat (ch :: r).length)), .val (.int (0 : Int32)), .val (.int ch)] [])) (fun t k => XS.icmpNo N2.here hx rfl (hb hby d18_25) rfl (XT.ii_eq_f h9) k) ?_
  refine gSta (O := "java/lang/CharacterDataLatin1") N2 hx hZ hown (hw _ (List.mem_of_getElem? (i := 86) rfl)) Via.refl (SI.ext N2.ext) (hb hby d18_28) ?_
  intro T3 N4
  show Ends p e below _ T3 (mkF m 31 #[.val (.ref tb), .val (.int (Int32.ofNat (ch :: r).length)), .val (.int (0 : Int32)), .val (.int ch)] [(.ref ci)])
  refine Ends.go (f' := (mkF m 32 #[.val (.ref tb), .val (.int (Int32.ofNat (ch :: r).length)), .val (.int (0 : Int32)), .val (.int ch)] [(.int ch), (.ref ci)])) (fun t k => XS.iloadN N4.here hx rfl (hb hby d18_31) rfl k) ?_
  refine gVirtual (W := 0) (y := (⟨"java/lang/CharacterDataLatin1", "isWhitespace", "(I)Z"⟩ : MethodName)) (z := (⟨"java/lang/CharacterDataLatin1", "isWhitespace", "(I)Z"⟩ : MethodName)) (C := "java/lang/CharacterDataLatin1") (b := ci) (argsL := [(.int ch)]) (rest := []) N4 hx hZ hown (hw _ (List.mem_of_getElem? (i := 88) rfl)) (hw _ (List.mem_of_getElem? (i := 89) rfl)) (hw _ (List.mem_of_getElem? (i := 91) rfl)) (hw _ (List.mem_of_getElem? (i := 90) rfl)) (by decide) (notFace_of_selects (args := #[]) (mvT hZ (hw _ (List.mem_of_getElem? (i := 91) rfl)))) (EI.ext N4.ext) ((rmWS l Z a0 hw ci ch h0 N4.ext D hc (EI.ext N4.ext) hn).back (W := 0) hZ (hw _ (List.mem_of_getElem? (i := 92) rfl)) (hw _ (List.mem_of_getElem? (i := 87) rfl)) (nle rfl) (nle rfl)) (hb hby d18_32) rfl (by rw [hml]; rfl) (lenOf (by decide +kernel : parseMethodDescriptor "(I)Z" = some ⟨[.int], (some .boolean)⟩) rfl) (nle rfl) (nle rfl) (nle rfl) (fun _ _ _ q => q.2) ?_
  rintro _ T5 _ _ N6 ⟨⟨rfl, e_h⟩, -⟩; rw [e_h] at N6; clear e_h
  show Ends p e below _ T5 (mkF m 35 #[.val (.ref tb), .val (.int (Int32.ofNat (ch :: r).length)), .val (.int (0 : Int32)), .val (.int ch)] [(.int (0 : Int32))])
  refine Ends.go (f' := (mkF m 38 #[.val (.ref tb), .val (.int (Int32.ofNat (ch :: r).length)), .val (.int (0 : Int32)), .val (.int ch)] [])) (fun t k => XS.ifNo N6.here hx rfl (hb hby d18_35) rfl (XT.i0_ne_f (by decide)) k) ?_
  refine Ends.go (f' := (mkF m 47 #[.val (.ref tb), .val (.int (Int32.ofNat (ch :: r).length)), .val (.int (0 : Int32)), .val (.int ch)] [])) (fun t k => XS.goto N6.here hx rfl (pc0 := 38) (pc' := 47) rfl (hb hby d18_38) (by decide) (by decide) k) ?_
  refine Ends.go (f' := (mkF m 48 #[.val (.ref tb), .val (.int (Int32.ofNat (ch :: r).length)), .val (.int (0 : Int32)), .val (.int ch)] [(.int (0 : Int32))])) (fun t k => XS.iloadN N6.here hx rfl (hb hby d18_47) rfl k) ?_
  exact retI N6 hx hlk hret (hb hby d18_48) ⟨rfl, rfl⟩ (nle rfl) (nle rfl)
theorem d16_0 : decode jdk_42_method_120_code 0 = .ok (.aload_n 0, 1) := by decide +kernel
theorem d16_1 : decode jdk_42_method_120_code 1 = .ok (.invokevirtual 492, 3) := by decide +kernel
theorem d16_4 : decode jdk_42_method_120_code 4 = .ok (.ifCond .eq 13, 3) := by decide +kernel
theorem d16_7 : decode jdk_42_method_120_code 7 = .ok (.aload_n 0, 1) := by decide +kernel
theorem d16_8 : decode jdk_42_method_120_code 8 = .ok (.getfield 9, 3) := by decide +kernel
theorem d16_11 : decode jdk_42_method_120_code 11 = .ok (.invokestatic 924, 3) := by decide +kernel
theorem d16_14 : decode jdk_42_method_120_code 14 = .ok (.goto 10, 3) := by decide +kernel
theorem d16_24 : decode jdk_42_method_120_code 24 = .ok (.ireturn, 1) := by decide +kernel
set_option maxRecDepth 65536 in
set_option maxHeartbeats 40000000 in
theorem rmIS (l : Launch) (Z : State) (a0 : Array Value) (hw : ∀ d ∈ tables_1, d.before a0 Z = true) (a : Addr) (cs : List Int32) (h0 : Heap) (Z0 : Ext Z.heap h0) (G : Jdk Z) (D : Cdl Z) (S : Str Z h0 a cs) (hs : Solid cs) :
    MetN l Z (⟨"java/lang/String", "indexOfNonWhitespace", "()I"⟩ : MethodName) jdk_42_method_120_code 1 (some .int) [] ({ frames := 3, cells := 0, slots := 0, locals := 44 } : Room) #[(.ref a)] h0 (fun v h => v = some (.int 0) ∧ h = h0) := by
  refine metN (by first | exact plainFor_of_name (by first | (simp [plainName, overriddenIn]; done) | decide +kernel) | decide +kernel) Z0 (Ls := #[.val (.ref a)]) (fun m => by first | (simp [entryFrame, mkF, argsToLocals, Value.category]; done) | rfl) ?_
  intro p e s m below meth c T0 hx hby hml hret hlk hown hnm hZ N0
  obtain ⟨ch, r, rfl, h32, h9, hn⟩ := hs
  obtain ⟨tb, kb, V, K⟩ := S.2.2.1
  refine Ends.go (f' := (mkF m 1 #[.val (.ref a)] [(.ref a)])) (fun t k => XS.aloadN N0.here hx rfl (hb hby d16_0) rfl rfl k) ?_
  refine gVirtual (W := 0) (y := (⟨"java/lang/String", "isLatin1", "()Z"⟩ : MethodName)) (z := (⟨"java/lang/String", "isLatin1", "()Z"⟩ : MethodName)) (C := "java/lang/String") (b := a) (argsL := []) (rest := []) N0 hx hZ hown (hw _ (List.mem_of_getElem? (i := 74) rfl)) (hw _ (List.mem_of_getElem? (i := 75) rfl)) (hw _ (List.mem_of_getElem? (i := 77) rfl)) (hw _ (List.mem_of_getElem? (i := 76) rfl)) (by decide) (notFace_of_selects (args := #[]) (mvT hZ (hw _ (List.mem_of_getElem? (i := 77) rfl)))) S.1 ((rmIL l Z a0 hw a _ h0 N0.ext G S).back (W := 0) hZ (hw _ (List.mem_of_getElem? (i := 78) rfl)) (hw _ (List.mem_of_getElem? (i := 15) rfl)) (nle rfl) (nle rfl)) (hb hby d16_1) rfl (by rw [hml]; rfl) (lenOf (by decide +kernel : parseMethodDescriptor "()Z" = some ⟨[], (some .boolean)⟩) rfl) (nle rfl) (nle rfl) (nle rfl) (fun _ _ _ q => q.2) ?_
  rintro _ T1 _ _ N2 ⟨⟨rfl, e_h⟩, -⟩; rw [e_h] at N2; clear e_h
  show Ends p e below _ T1 (mkF m 4 #[.val (.ref a)] [(.int (1 : Int32))])
  refine Ends.go (f' := (mkF m 7 #[.val (.ref a)] [])) (fun t k => XS.ifNo N2.here hx rfl (hb hby d16_4) rfl (XT.i0_eq_f (by decide)) k) ?_
  refine Ends.go (f' := (mkF m 8 #[.val (.ref a)] [(.ref a)])) (fun t k => XS.aloadN N2.here hx rfl (hb hby d16_7) rfl rfl k) ?_
  refine gGet (host := "") N2 hx hZ hown (Or.inl (hw _ (List.mem_of_getElem? (i := 44) rfl))) Via.refl V (hb hby d16_8) ?_
  intro T3 N4
  show Ends p e below _ T3 (mkF m 11 #[.val (.ref a)] [(.ref tb)])
  refine gStatic (W := 0) (argsL := [(.ref tb)]) (rest := []) N4 hx hZ hown (hw _ (List.mem_of_getElem? (i := 79) rfl)) (hw _ (List.mem_of_getElem? (i := 80) rfl)) (hw _ (List.mem_of_getElem? (i := 81) rfl)) (hw _ (List.mem_of_getElem? (i := 82) rfl)) (by decide) ((rmIN l Z a0 hw tb kb ch r h0 N4.ext K S.2.2.2.2 D (S.2.2.2.1 ch (List.mem_cons_self)) h32 h9 hn).back (W := 0) hZ (hw _ (List.mem_of_getElem? (i := 82) rfl)) (hw _ (List.mem_of_getElem? (i := 81) rfl)) (nle rfl) (nle rfl)) (hb hby d16_11) rfl (by rw [hml]; rfl) (lenOf (by decide +kernel : parseMethodDescriptor "([B)I" = some ⟨[(.array .byte)], (some .int)⟩) rfl) (nle rfl) (nle rfl) (nle rfl) (fun _ _ _ q => q.2) ?_
  rintro _ T5 _ _ N6 ⟨⟨rfl, e_h⟩, -⟩; rw [e_h] at N6; clear e_h
  show Ends p e below _ T5 (mkF m 14 #[.val (.ref a)] [(.int (0 : Int32))])
  refine Ends.go (f' := (mkF m 24 #[.val (.ref a)] [(.int (0 : Int32))])) (fun t k => XS.goto N6.here hx rfl (pc0 := 14) (pc' := 24) rfl (hb hby d16_14) (by decide) (by decide) k) ?_
  exact retI N6 hx hlk hret (hb hby d16_24) ⟨rfl, rfl⟩ (nle rfl) (nle rfl)
theorem d15_0 : decode jdk_42_method_117_code 0 = .ok (.aload_n 0, 1) := by decide +kernel
theorem d15_1 : decode jdk_42_method_117_code 1 = .ok (.invokevirtual 876, 3) := by decide +kernel
theorem d15_4 : decode jdk_42_method_117_code 4 = .ok (.aload_n 0, 1) := by decide +kernel
theorem d15_5 : decode jdk_42_method_117_code 5 = .ok (.invokevirtual 505, 3) := by decide +kernel
theorem d15_8 : decode jdk_42_method_117_code 8 = .ok (.if_icmp .ne 7, 3) := by decide +kernel
theorem d15_15 : decode jdk_42_method_117_code 15 = .ok (.iconst 0, 1) := by decide +kernel
theorem d15_16 : decode jdk_42_method_117_code 16 = .ok (.ireturn, 1) := by decide +kernel
set_option maxRecDepth 65536 in
set_option maxHeartbeats 40000000 in
theorem rmIB (l : Launch) (Z : State) (a0 : Array Value) (hw : ∀ d ∈ tables_1, d.before a0 Z = true) (a : Addr) (cs : List Int32) (h0 : Heap) (Z0 : Ext Z.heap h0) (G : Jdk Z) (D : Cdl Z) (S : Str Z h0 a cs) (hs : Solid cs) :
    MetN l Z (⟨"java/lang/String", "isBlank", "()Z"⟩ : MethodName) jdk_42_method_117_code 1 (some .boolean) [] ({ frames := 4, cells := 0, slots := 0, locals := 56 } : Room) #[(.ref a)] h0 (fun v h => v = some (.int 0) ∧ h = h0) := by
  refine metN (by first | exact plainFor_of_name (by first | (simp [plainName, overriddenIn]; done) | decide +kernel) | decide +kernel) Z0 (Ls := #[.val (.ref a)]) (fun m => by first | (simp [entryFrame, mkF, argsToLocals, Value.category]; done) | rfl) ?_
  intro p e s m below meth c T0 hx hby hml hret hlk hown hnm hZ N0
  refine Ends.go (f' := (mkF m 1 #[.val (.ref a)] [(.ref a)])) (fun t k => XS.aloadN N0.here hx rfl (hb hby d15_0) rfl rfl k) ?_
  refine gPrivate (W := 0) (y := (⟨"java/lang/String", "indexOfNonWhitespace", "()I"⟩ : MethodName)) (C := "java/lang/String") (b := a) (argsL := []) (rest := []) N0 hx hZ hown (hw _ (List.mem_of_getElem? (i := 69) rfl)) (hw _ (List.mem_of_getElem? (i := 70) rfl)) (hw _ (List.mem_of_getElem? (i := 72) rfl)) (hw _ (List.mem_of_getElem? (i := 71) rfl)) (hw _ (List.mem_of_getElem? (i := 73) rfl)) (by decide) S.1 ((rmIS l Z a0 hw a cs h0 N0.ext G D S hs).back (W := 0) hZ (hw _ (List.mem_of_getElem? (i := 73) rfl)) (hw _ (List.mem_of_getElem? (i := 15) rfl)) (nle rfl) (nle rfl)) (hb hby d15_1) rfl (by rw [hml]; rfl) (lenOf (by decide +kernel : parseMethodDescriptor "()I" = some ⟨[], (some .int)⟩) rfl) (nle rfl) (nle rfl) (nle rfl) (fun _ _ _ q => q.2) ?_
  rintro _ T1 _ _ N2 ⟨⟨rfl, e_h⟩, -⟩; rw [e_h] at N2; clear e_h
  show Ends p e below _ T1 (mkF m 4 #[.val (.ref a)] [(.int (0 : Int32))])
  refine Ends.go (f' := (mkF m 5 #[.val (.ref a)] [(.ref a), (.int (0 : Int32))])) (fun t k => XS.aloadN N2.here hx rfl (hb hby d15_4) rfl rfl k) ?_
  refine gVirtual (W := 1) (y := (⟨"java/lang/String", "length", "()I"⟩ : MethodName)) (z := (⟨"java/lang/String", "length", "()I"⟩ : MethodName)) (C := "java/lang/String") (b := a) (argsL := []) (rest := [(.int (0 : Int32))]) N2 hx hZ hown (hw _ (List.mem_of_getElem? (i := 99) rfl)) (hw _ (List.mem_of_getElem? (i := 100) rfl)) (hw _ (List.mem_of_getElem? (i := 102) rfl)) (hw _ (List.mem_of_getElem? (i := 101) rfl)) (by decide) (notFace_of_selects (args := #[]) (mvT hZ (hw _ (List.mem_of_getElem? (i := 102) rfl)))) S.1 (strLen (W := 1) hZ hw G N2.ext S (nle rfl) (nle rfl)) (hb hby d15_5) rfl (by rw [hml]; rfl) (lenOf (by decide +kernel : parseMethodDescriptor "()I" = some ⟨[], (some .int)⟩) rfl) (nle rfl) (nle rfl) (nle rfl) (fun _ _ _ q => fr_nil q.2.1) ?_
  rintro _ T3 _ _ N4 ⟨rfl, -, e_h⟩; rw [e_h] at N4; clear e_h
  show Ends p e below _ T3 (mkF m 8 #[.val (.ref a)] [(.int (Int32.ofNat (cs).length)), (.int (0 : Int32))])
  refine Ends.go (f' := (mkF m 15 #[.val (.ref a)] [])) (fun t k => XS.icmpYes N4.here hx rfl (pc0 := 8) (pc' := 15) rfl (hb hby d15_8) rfl (XT.ii_ne_t (by obtain ⟨ch, r, rfl, -⟩ := hs; exact fun q => absurd (pos_len S.2.2.2.2) (by rw [← q]; decide))) (by decide) (by decide) k) ?_
  refine Ends.go (f' := (mkF m 16 #[.val (.ref a)] [(.int (0 : Int32))])) (fun t k => XS.iconst N4.here hx rfl (hb hby d15_15) k) ?_
  exact retZ N4 hx hlk hret (by simp) (hb hby d15_16) ⟨rfl, rfl⟩ (nle rfl) (nle rfl)
theorem d14_0 : decode prog_21_method_5_code 0 = .ok (.aload_n 0, 1) := by decide +kernel
theorem d14_1 : decode prog_21_method_5_code 1 = .ok (.ifnull 10, 3) := by decide +kernel
theorem d14_4 : decode prog_21_method_5_code 4 = .ok (.aload_n 0, 1) := by decide +kernel
theorem d14_5 : decode prog_21_method_5_code 5 = .ok (.invokevirtual 43, 3) := by decide +kernel
theorem d14_8 : decode prog_21_method_5_code 8 = .ok (.ifCond .eq 32, 3) := by decide +kernel
theorem d14_40 : decode prog_21_method_5_code 40 = .ok (.return_, 1) := by decide +kernel
set_option maxRecDepth 65536 in
set_option maxHeartbeats 40000000 in
theorem rmRT (l : Launch) (Z : State) (a0 : Array Value) (hw : ∀ d ∈ tables_1, d.before a0 Z = true) (a b : Addr) (cs : List Int32) (h0 : Heap) (Z0 : Ext Z.heap h0) (G : Jdk Z) (D : Cdl Z) (S : Str Z h0 a cs) (hs : Solid cs) :
    MetN l Z (⟨"com/example/acre/acre/model/CodedValue", "requireText", "(Ljava/lang/String;Ljava/lang/String;)V"⟩ : MethodName) prog_21_method_5_code 2 none [] ({ frames := 5, cells := 0, slots := 0, locals := 68 } : Room) #[(.ref a), (.ref b)] h0 (fun v h => v = none ∧ h = h0) := by
  refine metN (by first | exact plainFor_of_name (by first | (simp [plainName, overriddenIn]; done) | decide +kernel) | decide +kernel) Z0 (Ls := #[.val (.ref a), .val (.ref b)]) (fun m => by first | (simp [entryFrame, mkF, argsToLocals, Value.category]; done) | rfl) ?_
  intro p e s m below meth c T0 hx hby hml hret hlk hown hnm hZ N0
  refine Ends.go (f' := (mkF m 1 #[.val (.ref a), .val (.ref b)] [(.ref a)])) (fun t k => XS.aloadN N0.here hx rfl (hb hby d14_0) rfl rfl k) ?_
  refine Ends.go (f' := (mkF m 4 #[.val (.ref a), .val (.ref b)] [])) (fun t k => XS.ifnullNo N0.here hx rfl (hb hby d14_1) rfl k) ?_
  refine Ends.go (f' := (mkF m 5 #[.val (.ref a), .val (.ref b)] [(.ref a)])) (fun t k => XS.aloadN N0.here hx rfl (hb hby d14_4) rfl rfl k) ?_
  refine gVirtual (W := 0) (y := (⟨"java/lang/String", "isBlank", "()Z"⟩ : MethodName)) (z := (⟨"java/lang/String", "isBlank", "()Z"⟩ : MethodName)) (C := "java/lang/String") (b := a) (argsL := []) (rest := []) N0 hx hZ hown (hw _ (List.mem_of_getElem? (i := 64) rfl)) (hw _ (List.mem_of_getElem? (i := 65) rfl)) (hw _ (List.mem_of_getElem? (i := 67) rfl)) (hw _ (List.mem_of_getElem? (i := 66) rfl)) (by decide) (notFace_of_selects (args := #[]) (mvT hZ (hw _ (List.mem_of_getElem? (i := 67) rfl)))) S.1 ((rmIB l Z a0 hw a cs h0 N0.ext G D S hs).back (W := 0) hZ (hw _ (List.mem_of_getElem? (i := 68) rfl)) (hw _ (List.mem_of_getElem? (i := 15) rfl)) (nle rfl) (nle rfl)) (hb hby d14_5) rfl (by rw [hml]; rfl) (lenOf (by decide +kernel : parseMethodDescriptor "()Z" = some ⟨[], (some .boolean)⟩) rfl) (nle rfl) (nle rfl) (nle rfl) (fun _ _ _ q => q.2) ?_
  rintro _ T1 _ _ N2 ⟨⟨rfl, e_h⟩, -⟩; rw [e_h] at N2; clear e_h
  show Ends p e below _ T1 (mkF m 8 #[.val (.ref a), .val (.ref b)] [(.int (0 : Int32))])
  refine Ends.go (f' := (mkF m 40 #[.val (.ref a), .val (.ref b)] [])) (fun t k => XS.ifYes N2.here hx rfl (pc0 := 8) (pc' := 40) rfl (hb hby d14_8) rfl (XT.i0_eq_t (by decide)) (by decide) (by decide) k) ?_
  exact retV N2 hx hlk hret (hb hby d14_40) ⟨rfl, rfl⟩ (nle rfl) (nle rfl)
theorem d13_0 : decode jdk_30_method_1_code 0 = .ok (.aload_n 0, 1) := by decide +kernel
theorem d13_1 : decode jdk_30_method_1_code 1 = .ok (.invokespecial 1, 3) := by decide +kernel
theorem d13_4 : decode jdk_30_method_1_code 4 = .ok (.return_, 1) := by decide +kernel
set_option maxRecDepth 65536 in
set_option maxHeartbeats 40000000 in
theorem rmRec (l : Launch) (Z : State) (a0 : Array Value) (hw : ∀ d ∈ tables_1, d.before a0 Z = true) (a : Addr) (h0 : Heap) (Z0 : Ext Z.heap h0) :
    MetN l Z (⟨"java/lang/Record", "<init>", "()V"⟩ : MethodName) jdk_30_method_1_code 1 none [] ({ frames := 1, cells := 0, slots := 0, locals := 12 } : Room) #[(.ref a)] h0 (fun v h => v = none ∧ h = h0) := by
  refine metN (by first | exact plainFor_of_name (by first | (simp [plainName, overriddenIn]; done) | decide +kernel) | decide +kernel) Z0 (Ls := #[.val (.ref a)]) (fun m => by first | (simp [entryFrame, mkF, argsToLocals, Value.category]; done) | rfl) ?_
  intro p e s m below meth c T0 hx hby hml hret hlk hown hnm hZ N0
  refine Ends.go (f' := (mkF m 1 #[.val (.ref a)] [(.ref a)])) (fun t k => XS.aloadN N0.here hx rfl (hb hby d13_0) rfl rfl k) ?_
  refine gInitO 0 N0 hx hZ hown (hw _ (List.mem_of_getElem? (i := 57) rfl)) (hw _ (List.mem_of_getElem? (i := 28) rfl)) (hw _ (List.mem_of_getElem? (i := 29) rfl)) (hb hby d13_1) (by rw [hml]; rfl) (nle rfl) (nle rfl) (nle rfl) ?_
  intro T1 N2
  show Ends p e below _ T1 (mkF m 4 #[.val (.ref a)] [])
  exact retV N2 hx hlk hret (hb hby d13_4) ⟨rfl, rfl⟩ (nle rfl) (nle rfl)
theorem d12_0 : decode prog_21_method_1_code 0 = .ok (.aload_n 0, 1) := by decide +kernel
theorem d12_1 : decode prog_21_method_1_code 1 = .ok (.invokespecial 1, 3) := by decide +kernel
theorem d12_4 : decode prog_21_method_1_code 4 = .ok (.aload_n 1, 1) := by decide +kernel
theorem d12_5 : decode prog_21_method_1_code 5 = .ok (.ldc 7, 2) := by decide +kernel
theorem d12_7 : decode prog_21_method_1_code 7 = .ok (.invokestatic 9, 3) := by decide +kernel
theorem d12_10 : decode prog_21_method_1_code 10 = .ok (.aload_n 2, 1) := by decide +kernel
theorem d12_11 : decode prog_21_method_1_code 11 = .ok (.ldc 15, 2) := by decide +kernel
theorem d12_13 : decode prog_21_method_1_code 13 = .ok (.invokestatic 9, 3) := by decide +kernel
theorem d12_16 : decode prog_21_method_1_code 16 = .ok (.aload_n 0, 1) := by decide +kernel
theorem d12_17 : decode prog_21_method_1_code 17 = .ok (.aload_n 1, 1) := by decide +kernel
theorem d12_18 : decode prog_21_method_1_code 18 = .ok (.putfield 17, 3) := by decide +kernel
theorem d12_21 : decode prog_21_method_1_code 21 = .ok (.aload_n 0, 1) := by decide +kernel
theorem d12_22 : decode prog_21_method_1_code 22 = .ok (.aload_n 2, 1) := by decide +kernel
theorem d12_23 : decode prog_21_method_1_code 23 = .ok (.putfield 20, 3) := by decide +kernel
theorem d12_26 : decode prog_21_method_1_code 26 = .ok (.aload_n 0, 1) := by decide +kernel
theorem d12_27 : decode prog_21_method_1_code 27 = .ok (.aload_n 3, 1) := by decide +kernel
theorem d12_28 : decode prog_21_method_1_code 28 = .ok (.putfield 23, 3) := by decide +kernel
theorem d12_31 : decode prog_21_method_1_code 31 = .ok (.return_, 1) := by decide +kernel
set_option maxRecDepth 65536 in
set_option maxHeartbeats 40000000 in
theorem rmCV (l : Launch) (Z : State) (a0 : Array Value) (hw : ∀ d ∈ tables_1, d.before a0 Z = true) (x a b : Addr) (dv : Value) (hdv : dv.isRef = true) (ca cb : List Int32) (h0 : Heap) (Z0 : Ext Z.heap h0) (G : Jdk Z) (D : Cdl Z) (Ex : Exa Z h0 x "com/example/acre/acre/model/CodedValue") (F1 : Fld Z h0 x "com/example/acre/acre/model/CodedValue" "code" "Ljava/lang/String;" .null) (F2 : Fld Z h0 x "com/example/acre/acre/model/CodedValue" "codeSystem" "Ljava/lang/String;" .null) (F3 : Fld Z h0 x "com/example/acre/acre/model/CodedValue" "displayName" "Ljava/lang/String;" .null) (gz : Z.heap.size ≤ x) (Sa : Str Z h0 a ca) (Sb : Str Z h0 b cb) (sa : Solid ca) (sb : Solid cb) :
    MetW l Z ownEL (⟨"com/example/acre/acre/model/CodedValue", "<init>", "(Ljava/lang/String;Ljava/lang/String;Ljava/lang/String;)V"⟩ : MethodName) prog_21_method_1_code 4 none [] ({ frames := 6, cells := 4, slots := 68, locals := 81 } : Room) #[(.ref x), (.ref a), (.ref b), dv] h0 (fun v h => v = none ∧ Keep h0 h [x] ∧ CVb Z h x ca cb) := by
  refine metW (by first | exact plainFor_of_name (by first | (simp [plainName, overriddenIn]; done) | decide +kernel) | decide +kernel) Z0 (Ls := #[.val (.ref x), .val (.ref a), .val (.ref b), .val dv]) (fun m => by cases dv <;> first | (cases hdv; done) | (simp [entryFrame, mkF, argsToLocals, Value.category]; done) | rfl) ?_
  intro p e s m below meth c T0 vm0 hx hby hml hret hlk hown hnm hZ N0 wd0
  refine Ends.go (f' := (mkF m 1 #[.val (.ref x), .val (.ref a), .val (.ref b), .val dv] [(.ref x)])) (fun t k => XS.aloadN N0.here hx rfl (hb hby d12_0) rfl rfl k) ?_
  refine gSpecial (W := 0) (y := (⟨"java/lang/Record", "<init>", "()V"⟩ : MethodName)) (a := x) (argsL := []) (rest := []) rfl N0 hx hZ hown (hw _ (List.mem_of_getElem? (i := 52) rfl)) (hw _ (List.mem_of_getElem? (i := 53) rfl)) (hw _ (List.mem_of_getElem? (i := 56) rfl)) (by decide) ((rmRec l Z a0 hw x h0 N0.ext).back (W := 0) hZ (hw _ (List.mem_of_getElem? (i := 56) rfl)) (hw _ (List.mem_of_getElem? (i := 55) rfl)) (nle rfl) (nle rfl)) (hb hby d12_1) rfl (by rw [hml]; rfl) (lenOf (by decide +kernel : parseMethodDescriptor "()V" = some ⟨[], none⟩) rfl) (nle rfl) (nle rfl) (nle rfl) (fun _ _ _ q => q.2) ?_
  rintro _ T1 _ _ N2 ⟨⟨rfl, e_h⟩, -⟩; rw [e_h] at N2; clear e_h
  show Ends p e below _ T1 (mkF m 4 #[.val (.ref x), .val (.ref a), .val (.ref b), .val dv] [])
  refine Ends.go (f' := (mkF m 5 #[.val (.ref x), .val (.ref a), .val (.ref b), .val dv] [(.ref a)])) (fun t k => XS.aloadN N2.here hx rfl (hb hby d12_4) rfl rfl k) ?_
  refine gLdcO 16 N2 hx hZ hown (hw _ (List.mem_of_getElem? (i := 58) rfl)) (satoms hw) (elw hw) wd0 (hb hby d12_5) (nle rfl) (nle rfl) (nle rfl) (nle rfl) ?_
  intro vm3 T4 h5 a6 N7 E8 hZ hown wd9
  have X10 : Ext h0 h5 := ext_trans (ext_refl h0) E8
  show Ends p e below _ T4 (mkF m 7 #[.val (.ref x), .val (.ref a), .val (.ref b), .val dv] [(.ref a6), (.ref a)])
  refine gStatic (W := 0) (argsL := [(.ref a), (.ref a6)]) (rest := []) N7 hx hZ hown (hw _ (List.mem_of_getElem? (i := 61) rfl)) (hw _ (List.mem_of_getElem? (i := 62) rfl)) (hw _ (List.mem_of_getElem? (i := 6) rfl)) (hw _ (List.mem_of_getElem? (i := 63) rfl)) (by decide) ((rmRT l Z a0 hw a a6 ca h5 N7.ext G D (Sa.ext X10) sa).back (W := 0) hZ (hw _ (List.mem_of_getElem? (i := 63) rfl)) (hw _ (List.mem_of_getElem? (i := 6) rfl)) (nle rfl) (nle rfl)) (hb hby d12_7) rfl (by rw [hml]; rfl) (lenOf (by decide +kernel : parseMethodDescriptor "(Ljava/lang/String;Ljava/lang/String;)V" = some ⟨[(.object "java/lang/String"), (.object "java/lang/String")], none⟩) rfl) (nle rfl) (nle rfl) (nle rfl) (fun _ _ _ q => q.2) ?_
  rintro _ T11 _ _ N12 ⟨⟨rfl, e_h⟩, -⟩; rw [e_h] at N12; clear e_h
  show Ends p e below _ T11 (mkF m 10 #[.val (.ref x), .val (.ref a), .val (.ref b), .val dv] [])
  refine Ends.go (f' := (mkF m 11 #[.val (.ref x), .val (.ref a), .val (.ref b), .val dv] [(.ref b)])) (fun t k => XS.aloadN N12.here hx rfl (hb hby d12_10) rfl rfl k) ?_
  refine gLdcO 44 N12 hx hZ hown (hw _ (List.mem_of_getElem? (i := 109) rfl)) (satoms hw) (elw hw) wd9 (hb hby d12_11) (nle rfl) (nle rfl) (nle rfl) (nle rfl) ?_
  intro vm13 T14 h15 a16 N17 E18 hZ hown wd19
  have X20 : Ext h0 h15 := ext_trans X10 E18
  have X21 : Ext h5 h15 := ext_trans (ext_refl h5) E18
  show Ends p e below _ T14 (mkF m 13 #[.val (.ref x), .val (.ref a), .val (.ref b), .val dv] [(.ref a16), (.ref b)])
  refine gStatic (W := 0) (argsL := [(.ref b), (.ref a16)]) (rest := []) N17 hx hZ hown (hw _ (List.mem_of_getElem? (i := 61) rfl)) (hw _ (List.mem_of_getElem? (i := 62) rfl)) (hw _ (List.mem_of_getElem? (i := 6) rfl)) (hw _ (List.mem_of_getElem? (i := 63) rfl)) (by decide) ((rmRT l Z a0 hw b a16 cb h15 N17.ext G D (Sb.ext X20) sb).back (W := 0) hZ (hw _ (List.mem_of_getElem? (i := 63) rfl)) (hw _ (List.mem_of_getElem? (i := 6) rfl)) (nle rfl) (nle rfl)) (hb hby d12_13) rfl (by rw [hml]; rfl) (lenOf (by decide +kernel : parseMethodDescriptor "(Ljava/lang/String;Ljava/lang/String;)V" = some ⟨[(.object "java/lang/String"), (.object "java/lang/String")], none⟩) rfl) (nle rfl) (nle rfl) (nle rfl) (fun _ _ _ q => q.2) ?_
  rintro _ T22 _ _ N23 ⟨⟨rfl, e_h⟩, -⟩; rw [e_h] at N23; clear e_h
  show Ends p e below _ T22 (mkF m 16 #[.val (.ref x), .val (.ref a), .val (.ref b), .val dv] [])
  refine Ends.go (f' := (mkF m 17 #[.val (.ref x), .val (.ref a), .val (.ref b), .val dv] [(.ref x)])) (fun t k => XS.aloadN N23.here hx rfl (hb hby d12_16) rfl rfl k) ?_
  refine Ends.go (f' := (mkF m 18 #[.val (.ref x), .val (.ref a), .val (.ref b), .val dv] [(.ref a), (.ref x)])) (fun t k => XS.aloadN N23.here hx rfl (hb hby d12_17) rfl rfl k) ?_
  refine gPut (host := "") (C := "com/example/acre/acre/model/CodedValue") N23 hx hZ hown (Or.inl (hw _ (List.mem_of_getElem? (i := 110) rfl))) Via.refl (F1.ext X20) (Ex.ext X20) gz (Or.inr ⟨(hw _ (List.mem_of_getElem? (i := 111) rfl)), rfl, hnm⟩) (hw _ (List.mem_of_getElem? (i := 5) rfl)) (ty := (.object "java/lang/String")) (by decide) rfl rfl (hb hby d12_18) ?_
  intro T24 h25 N26 W27 F28 E29
  have F30 := (F2.ext X20).other W27 (Or.inr (sn_codeSystem_code hw))
  have F31 := (F3.ext X20).other W27 (Or.inr (sn_displayName_code hw))
  have wd32 : Wd Z s ownEL vm13 h25 := (wd19).keep (Keep.of_wr W27) (allS safe_nil all0)
  show Ends p e below _ T24 (mkF m 21 #[.val (.ref x), .val (.ref a), .val (.ref b), .val dv] [])
  refine Ends.go (f' := (mkF m 22 #[.val (.ref x), .val (.ref a), .val (.ref b), .val dv] [(.ref x)])) (fun t k => XS.aloadN N26.here hx rfl (hb hby d12_21) rfl rfl k) ?_
  refine Ends.go (f' := (mkF m 23 #[.val (.ref x), .val (.ref a), .val (.ref b), .val dv] [(.ref b), (.ref x)])) (fun t k => XS.aloadN N26.here hx rfl (hb hby d12_22) rfl rfl k) ?_
  refine gPut (host := "") (C := "com/example/acre/acre/model/CodedValue") N26 hx hZ hown (Or.inl (hw _ (List.mem_of_getElem? (i := 112) rfl))) Via.refl F30 E29 gz (Or.inr ⟨(hw _ (List.mem_of_getElem? (i := 113) rfl)), rfl, hnm⟩) (hw _ (List.mem_of_getElem? (i := 5) rfl)) (ty := (.object "java/lang/String")) (by decide) rfl rfl (hb hby d12_23) ?_
  intro T33 h34 N35 W36 F37 E38
  have F39 := F28.other W36 (Or.inr (sn_code_codeSystem hw))
  have F40 := F31.other W36 (Or.inr (sn_displayName_codeSystem hw))
  have wd41 : Wd Z s ownEL vm13 h34 := (wd32).keep (Keep.of_wr W36) (allS safe_nil all0)
  show Ends p e below _ T33 (mkF m 26 #[.val (.ref x), .val (.ref a), .val (.ref b), .val dv] [])
  refine Ends.go (f' := (mkF m 27 #[.val (.ref x), .val (.ref a), .val (.ref b), .val dv] [(.ref x)])) (fun t k => XS.aloadN N35.here hx rfl (hb hby d12_26) rfl rfl k) ?_
  refine Ends.go (f' := (mkF m 28 #[.val (.ref x), .val (.ref a), .val (.ref b), .val dv] [dv, (.ref x)])) (fun t k => XS.aloadN N35.here hx rfl (hb hby d12_27) rfl hdv k) ?_
  refine gPut (host := "") (C := "com/example/acre/acre/model/CodedValue") N35 hx hZ hown (Or.inl (hw _ (List.mem_of_getElem? (i := 114) rfl))) Via.refl F40 E38 gz (Or.inr ⟨(hw _ (List.mem_of_getElem? (i := 115) rfl)), rfl, hnm⟩) (hw _ (List.mem_of_getElem? (i := 5) rfl)) (ty := (.object "java/lang/String")) (by decide) (by cases dv <;> first | rfl | cases hdv) (by cases dv <;> first | rfl | cases hdv) (hb hby d12_28) ?_
  intro T42 h43 N44 W45 F46 E47
  have F48 := F39.other W45 (Or.inr (sn_code_displayName hw))
  have F49 := F37.other W45 (Or.inr (sn_codeSystem_displayName hw))
  have wd50 : Wd Z s ownEL vm13 h43 := (wd41).keep (Keep.of_wr W45) (allS safe_nil all0)
  show Ends p e below _ T42 (mkF m 31 #[.val (.ref x), .val (.ref a), .val (.ref b), .val dv] [])
  have kk : Keep h0 h43 [x] := (((((Keep.refl h0 [x]).ext X20).wr W27 (Or.inl (List.mem_singleton.mpr rfl))).wr W36 (Or.inl (List.mem_singleton.mpr rfl))).wr W45 (Or.inl (List.mem_singleton.mpr rfl)))
  exact retVW N44 hZ (elw hw) wd50 hx hlk hret (hb hby d12_31) ⟨rfl, kk, E47, a, b, F48, F49, Sa.keepExa kk Ex (by decide) (hw _ (List.mem_of_getElem? (i := 5) rfl)), Sb.keepExa kk Ex (by decide) (hw _ (List.mem_of_getElem? (i := 5) rfl))⟩ (nle rfl) (nle rfl)
theorem d24_0 : decode prog_21_method_3_code 0 = .ok (.aload_n 1, 1) := by decide +kernel
theorem d24_1 : decode prog_21_method_3_code 1 = .ok (.instanceof 10, 3) := by decide +kernel
theorem d24_4 : decode prog_21_method_3_code 4 = .ok (.ifCond .eq 40, 3) := by decide +kernel
theorem d24_7 : decode prog_21_method_3_code 7 = .ok (.aload_n 1, 1) := by decide +kernel
theorem d24_8 : decode prog_21_method_3_code 8 = .ok (.checkcast 10, 3) := by decide +kernel
theorem d24_11 : decode prog_21_method_3_code 11 = .ok (.astore_n 2, 1) := by decide +kernel
theorem d24_12 : decode prog_21_method_3_code 12 = .ok (.aload_n 0, 1) := by decide +kernel
theorem d24_13 : decode prog_21_method_3_code 13 = .ok (.getfield 17, 3) := by decide +kernel
theorem d24_16 : decode prog_21_method_3_code 16 = .ok (.aload_n 2, 1) := by decide +kernel
theorem d24_17 : decode prog_21_method_3_code 17 = .ok (.getfield 17, 3) := by decide +kernel
theorem d24_20 : decode prog_21_method_3_code 20 = .ok (.invokevirtual 29, 3) := by decide +kernel
theorem d24_23 : decode prog_21_method_3_code 23 = .ok (.ifCond .eq 21, 3) := by decide +kernel
theorem d24_26 : decode prog_21_method_3_code 26 = .ok (.aload_n 0, 1) := by decide +kernel
theorem d24_27 : decode prog_21_method_3_code 27 = .ok (.getfield 20, 3) := by decide +kernel
theorem d24_30 : decode prog_21_method_3_code 30 = .ok (.aload_n 2, 1) := by decide +kernel
theorem d24_31 : decode prog_21_method_3_code 31 = .ok (.getfield 20, 3) := by decide +kernel
theorem d24_34 : decode prog_21_method_3_code 34 = .ok (.invokevirtual 29, 3) := by decide +kernel
theorem d24_37 : decode prog_21_method_3_code 37 = .ok (.ifCond .eq 7, 3) := by decide +kernel
theorem d24_40 : decode prog_21_method_3_code 40 = .ok (.iconst 1, 1) := by decide +kernel
theorem d24_41 : decode prog_21_method_3_code 41 = .ok (.goto 4, 3) := by decide +kernel
theorem d24_44 : decode prog_21_method_3_code 44 = .ok (.iconst 0, 1) := by decide +kernel
theorem d24_45 : decode prog_21_method_3_code 45 = .ok (.ireturn, 1) := by decide +kernel
set_option maxRecDepth 65536 in
set_option maxHeartbeats 40000000 in
theorem rmEqNull (l : Launch) (Z : State) (a0 : Array Value) (hw : ∀ d ∈ tables_1, d.before a0 Z = true) (x : Addr) (h0 : Heap) (Z0 : Ext Z.heap h0) :
    MetN l Z (⟨"com/example/acre/acre/model/CodedValue", "equals", "(Ljava/lang/Object;)Z"⟩ : MethodName) prog_21_method_3_code 3 (some .boolean) [] ({ frames := 0, cells := 0, slots := 0, locals := 0 } : Room) #[(.ref x), .null] h0 (fun v h => v = some (.int 0) ∧ h = h0) := by
  refine metN (by first | exact plainFor_of_name (by first | (simp [plainName, overriddenIn]; done) | decide +kernel) | decide +kernel) Z0 (Ls := #[.val (.ref x), .val .null, .unset]) (fun m => by first | (simp [entryFrame, mkF, argsToLocals, Value.category]; done) | rfl) ?_
  intro p e s m below meth c T0 hx hby hml hret hlk hown hnm hZ N0
  refine Ends.go (f' := (mkF m 1 #[.val (.ref x), .val .null, .unset] [.null])) (fun t k => XS.aloadN N0.here hx rfl (hb hby d24_0) rfl rfl k) ?_
  refine gInstN N0 hx (hb hby d24_1) ?_
  show Ends p e below _ T0 (mkF m 4 #[.val (.ref x), .val .null, .unset] [(.int (0 : Int32))])
  refine Ends.go (f' := (mkF m 44 #[.val (.ref x), .val .null, .unset] [])) (fun t k => XS.ifYes N0.here hx rfl (pc0 := 4) (pc' := 44) rfl (hb hby d24_4) rfl (XT.i0_eq_t (by decide)) (by decide) (by decide) k) ?_
  refine Ends.go (f' := (mkF m 45 #[.val (.ref x), .val .null, .unset] [(.int (0 : Int32))])) (fun t k => XS.iconst N0.here hx rfl (hb hby d24_44) k) ?_
  exact retZ N0 hx hlk hret (by simp) (hb hby d24_45) ⟨rfl, rfl⟩ (nle rfl) (nle rfl)
set_option maxRecDepth 65536 in
set_option maxHeartbeats 40000000 in
theorem rmEqStr (l : Launch) (Z : State) (a0 : Array Value) (hw : ∀ d ∈ tables_1, d.before a0 Z = true) (x y : Addr) (h0 : Heap) (Z0 : Ext Z.heap h0) (Ey : Exa Z h0 y "java/lang/String") :
    MetN l Z (⟨"com/example/acre/acre/model/CodedValue", "equals", "(Ljava/lang/Object;)Z"⟩ : MethodName) prog_21_method_3_code 3 (some .boolean) [] ({ frames := 0, cells := 0, slots := 0, locals := 0 } : Room) #[(.ref x), (.ref y)] h0 (fun v h => v = some (.int 0) ∧ h = h0) := by
  refine metN (by first | exact plainFor_of_name (by first | (simp [plainName, overriddenIn]; done) | decide +kernel) | decide +kernel) Z0 (Ls := #[.val (.ref x), .val (.ref y), .unset]) (fun m => by first | (simp [entryFrame, mkF, argsToLocals, Value.category]; done) | rfl) ?_
  intro p e s m below meth c T0 hx hby hml hret hlk hown hnm hZ N0
  refine Ends.go (f' := (mkF m 1 #[.val (.ref x), .val (.ref y), .unset] [(.ref y)])) (fun t k => XS.aloadN N0.here hx rfl (hb hby d24_0) rfl rfl k) ?_
  refine gInstNo N0 hx hZ hown (hw _ (List.mem_of_getElem? (i := 124) rfl)) Ey (not_cv hw) (hb hby d24_1) ?_
  intro T1 N2
  show Ends p e below _ T1 (mkF m 4 #[.val (.ref x), .val (.ref y), .unset] [(.int (0 : Int32))])
  refine Ends.go (f' := (mkF m 44 #[.val (.ref x), .val (.ref y), .unset] [])) (fun t k => XS.ifYes N2.here hx rfl (pc0 := 4) (pc' := 44) rfl (hb hby d24_4) rfl (XT.i0_eq_t (by decide)) (by decide) (by decide) k) ?_
  refine Ends.go (f' := (mkF m 45 #[.val (.ref x), .val (.ref y), .unset] [(.int (0 : Int32))])) (fun t k => XS.iconst N2.here hx rfl (hb hby d24_44) k) ?_
  exact retZ N2 hx hlk hret (by simp) (hb hby d24_45) ⟨rfl, rfl⟩ (nle rfl) (nle rfl)
set_option maxRecDepth 65536 in
set_option maxHeartbeats 40000000 in
theorem rmEqCV (l : Launch) (Z : State) (a0 : Array Value) (hw : ∀ d ∈ tables_1, d.before a0 Z = true) (x y : Addr) (cx sx cy sy : List Int32) (h0 : Heap) (Z0 : Ext Z.heap h0) (G : Jdk Z) (Vx : CVb Z h0 x cx sx) (Vy : CVb Z h0 y cy sy) :
    MetN l Z (⟨"com/example/acre/acre/model/CodedValue", "equals", "(Ljava/lang/Object;)Z"⟩ : MethodName) prog_21_method_3_code 3 (some .boolean) [] ({ frames := 2, cells := 0, slots := 0, locals := 28 } : Room) #[(.ref x), (.ref y)] h0 (fun v h => v = some (.int (if cx = cy ∧ sx = sy then 1 else 0)) ∧ h = h0) := by
  refine metN (by first | exact plainFor_of_name (by first | (simp [plainName, overriddenIn]; done) | decide +kernel) | decide +kernel) Z0 (Ls := #[.val (.ref x), .val (.ref y), .unset]) (fun m => by first | (simp [entryFrame, mkF, argsToLocals, Value.category]; done) | rfl) ?_
  intro p e s m below meth c T0 hx hby hml hret hlk hown hnm hZ N0
  obtain ⟨ex, a1, b1, fa1, fb1, sa1, sb1⟩ := Vx
  obtain ⟨ey, a2, b2, fa2, fb2, sa2, sb2⟩ := Vy
  refine Ends.go (f' := (mkF m 1 #[.val (.ref x), .val (.ref y), .unset] [(.ref y)])) (fun t k => XS.aloadN N0.here hx rfl (hb hby d24_0) rfl rfl k) ?_
  refine gInst N0 hx hZ hown (hw _ (List.mem_of_getElem? (i := 124) rfl)) (Ins.self ey) (hb hby d24_1) ?_
  intro T1 N2
  show Ends p e below _ T1 (mkF m 4 #[.val (.ref x), .val (.ref y), .unset] [(.int (1 : Int32))])
  refine Ends.go (f' := (mkF m 7 #[.val (.ref x), .val (.ref y), .unset] [])) (fun t k => XS.ifNo N2.here hx rfl (hb hby d24_4) rfl (XT.i0_eq_f (by decide)) k) ?_
  refine Ends.go (f' := (mkF m 8 #[.val (.ref x), .val (.ref y), .unset] [(.ref y)])) (fun t k => XS.aloadN N2.here hx rfl (hb hby d24_7) rfl rfl k) ?_
  refine gCast N2 hx hZ hown (hw _ (List.mem_of_getElem? (i := 124) rfl)) (Ins.self ey) (hb hby d24_8) ?_
  intro T3 N4
  show Ends p e below _ T3 (mkF m 11 #[.val (.ref x), .val (.ref y), .unset] [(.ref y)])
  refine Ends.go (f' := (mkF m 12 #[.val (.ref x), .val (.ref y), .val (.ref y)] [])) (fun t k => XS.astoreN N4.here hx rfl (hb hby d24_11) rfl rfl (l' := #[.val (.ref x), .val (.ref y), .val (.ref y)]) rfl k) ?_
  refine Ends.go (f' := (mkF m 13 #[.val (.ref x), .val (.ref y), .val (.ref y)] [(.ref x)])) (fun t k => XS.aloadN N4.here hx rfl (hb hby d24_12) rfl rfl k) ?_
  refine gGet (host := "") N4 hx hZ hown (Or.inl (hw _ (List.mem_of_getElem? (i := 110) rfl))) Via.refl fa1 (hb hby d24_13) ?_
  intro T5 N6
  show Ends p e below _ T5 (mkF m 16 #[.val (.ref x), .val (.ref y), .val (.ref y)] [(.ref a1)])
  refine Ends.go (f' := (mkF m 17 #[.val (.ref x), .val (.ref y), .val (.ref y)] [(.ref y), (.ref a1)])) (fun t k => XS.aloadN N6.here hx rfl (hb hby d24_16) rfl rfl k) ?_
  refine gGet (host := "") N6 hx hZ hown (Or.inl (hw _ (List.mem_of_getElem? (i := 110) rfl))) Via.refl fa2 (hb hby d24_17) ?_
  intro T7 N8
  show Ends p e below _ T7 (mkF m 20 #[.val (.ref x), .val (.ref y), .val (.ref y)] [(.ref a2), (.ref a1)])
  refine gVirtual (W := 0) (y := (⟨"java/lang/String", "equals", "(Ljava/lang/Object;)Z"⟩ : MethodName)) (z := (⟨"java/lang/String", "equals", "(Ljava/lang/Object;)Z"⟩ : MethodName)) (C := "java/lang/String") (b := a1) (argsL := [(.ref a2)]) (rest := []) N8 hx hZ hown (hw _ (List.mem_of_getElem? (i := 126) rfl)) (hw _ (List.mem_of_getElem? (i := 127) rfl)) (hw _ (List.mem_of_getElem? (i := 129) rfl)) (hw _ (List.mem_of_getElem? (i := 128) rfl)) (by decide) (notFace_of_selects (args := #[]) (mvT hZ (hw _ (List.mem_of_getElem? (i := 129) rfl)))) sa1.1 (strEq (W := 0) hZ hw G N8.ext sa1 sa2 (nle rfl) (nle rfl)) (hb hby d24_20) rfl (by rw [hml]; rfl) (lenOf (by decide +kernel : parseMethodDescriptor "(Ljava/lang/Object;)Z" = some ⟨[(.object "java/lang/Object")], (some .boolean)⟩) rfl) (nle rfl) (nle rfl) (nle rfl) (fun _ _ _ q => fr_nil q.2.1) ?_
  rintro _ T9 _ _ N10 ⟨rfl, -, e_h⟩; rw [e_h] at N10; clear e_h
  show Ends p e below _ T9 (mkF m 23 #[.val (.ref x), .val (.ref y), .val (.ref y)] [(.int (if cx = cy then (1 : Int32) else (0 : Int32)))])
  by_cases c1 : cx = cy
  · rw [if_pos c1]
    refine Ends.go (f' := (mkF m 26 #[.val (.ref x), .val (.ref y), .val (.ref y)] [])) (fun t k => XS.ifNo N10.here hx rfl (hb hby d24_23) rfl (XT.i0_eq_f (by decide)) k) ?_
    refine Ends.go (f' := (mkF m 27 #[.val (.ref x), .val (.ref y), .val (.ref y)] [(.ref x)])) (fun t k => XS.aloadN N10.here hx rfl (hb hby d24_26) rfl rfl k) ?_
    refine gGet (host := "") N10 hx hZ hown (Or.inl (hw _ (List.mem_of_getElem? (i := 112) rfl))) Via.refl fb1 (hb hby d24_27) ?_
    intro T11 N12
    show Ends p e below _ T11 (mkF m 30 #[.val (.ref x), .val (.ref y), .val (.ref y)] [(.ref b1)])
    refine Ends.go (f' := (mkF m 31 #[.val (.ref x), .val (.ref y), .val (.ref y)] [(.ref y), (.ref b1)])) (fun t k => XS.aloadN N12.here hx rfl (hb hby d24_30) rfl rfl k) ?_
    refine gGet (host := "") N12 hx hZ hown (Or.inl (hw _ (List.mem_of_getElem? (i := 112) rfl))) Via.refl fb2 (hb hby d24_31) ?_
    intro T13 N14
    show Ends p e below _ T13 (mkF m 34 #[.val (.ref x), .val (.ref y), .val (.ref y)] [(.ref b2), (.ref b1)])
    refine gVirtual (W := 0) (y := (⟨"java/lang/String", "equals", "(Ljava/lang/Object;)Z"⟩ : MethodName)) (z := (⟨"java/lang/String", "equals", "(Ljava/lang/Object;)Z"⟩ : MethodName)) (C := "java/lang/String") (b := b1) (argsL := [(.ref b2)]) (rest := []) N14 hx hZ hown (hw _ (List.mem_of_getElem? (i := 126) rfl)) (hw _ (List.mem_of_getElem? (i := 127) rfl)) (hw _ (List.mem_of_getElem? (i := 129) rfl)) (hw _ (List.mem_of_getElem? (i := 128) rfl)) (by decide) (notFace_of_selects (args := #[]) (mvT hZ (hw _ (List.mem_of_getElem? (i := 129) rfl)))) sb1.1 (strEq (W := 0) hZ hw G N14.ext sb1 sb2 (nle rfl) (nle rfl)) (hb hby d24_34) rfl (by rw [hml]; rfl) (lenOf (by decide +kernel : parseMethodDescriptor "(Ljava/lang/Object;)Z" = some ⟨[(.object "java/lang/Object")], (some .boolean)⟩) rfl) (nle rfl) (nle rfl) (nle rfl) (fun _ _ _ q => fr_nil q.2.1) ?_
    rintro _ T15 _ _ N16 ⟨rfl, -, e_h⟩; rw [e_h] at N16; clear e_h
    show Ends p e below _ T15 (mkF m 37 #[.val (.ref x), .val (.ref y), .val (.ref y)] [(.int (if sx = sy then (1 : Int32) else (0 : Int32)))])
    by_cases c2 : sx = sy
    · rw [if_pos c2]
      refine Ends.go (f' := (mkF m 40 #[.val (.ref x), .val (.ref y), .val (.ref y)] [])) (fun t k => XS.ifNo N16.here hx rfl (hb hby d24_37) rfl (XT.i0_eq_f (by decide)) k) ?_
      refine Ends.go (f' := (mkF m 41 #[.val (.ref x), .val (.ref y), .val (.ref y)] [(.int (1 : Int32))])) (fun t k => XS.iconst N16.here hx rfl (hb hby d24_40) k) ?_
      refine Ends.go (f' := (mkF m 45 #[.val (.ref x), .val (.ref y), .val (.ref y)] [(.int (1 : Int32))])) (fun t k => XS.goto N16.here hx rfl (pc0 := 41) (pc' := 45) rfl (hb hby d24_41) (by decide) (by decide) k) ?_
      exact retZ N16 hx hlk hret (by simp) (hb hby d24_45) ⟨by rw [if_pos ⟨c1, c2⟩]; rfl, rfl⟩ (nle rfl) (nle rfl)
    · rw [if_neg c2]
      refine Ends.go (f' := (mkF m 44 #[.val (.ref x), .val (.ref y), .val (.ref y)] [])) (fun t k => XS.ifYes N16.here hx rfl (pc0 := 37) (pc' := 44) rfl (hb hby d24_37) rfl (XT.i0_eq_t (by decide)) (by decide) (by decide) k) ?_
      refine Ends.go (f' := (mkF m 45 #[.val (.ref x), .val (.ref y), .val (.ref y)] [(.int (0 : Int32))])) (fun t k => XS.iconst N16.here hx rfl (hb hby d24_44) k) ?_
      exact retZ N16 hx hlk hret (by simp) (hb hby d24_45) ⟨by rw [if_neg (fun q => c2 q.2)]; rfl, rfl⟩ (nle rfl) (nle rfl)
  · rw [if_neg c1]
    refine Ends.go (f' := (mkF m 44 #[.val (.ref x), .val (.ref y), .val (.ref y)] [])) (fun t k => XS.ifYes N10.here hx rfl (pc0 := 23) (pc' := 44) rfl (hb hby d24_23) rfl (XT.i0_eq_t (by decide)) (by decide) (by decide) k) ?_
    refine Ends.go (f' := (mkF m 45 #[.val (.ref x), .val (.ref y), .val (.ref y)] [(.int (0 : Int32))])) (fun t k => XS.iconst N10.here hx rfl (hb hby d24_44) k) ?_
    exact retZ N10 hx hlk hret (by simp) (hb hby d24_45) ⟨by rw [if_neg (fun q => c1 q.1)]; rfl, rfl⟩ (nle rfl) (nle rfl)
set_option maxRecDepth 65536 in
set_option maxHeartbeats 40000000 in
theorem rmLaw (l : Launch) (Z : State) (a0 : Array Value) (hw : ∀ d ∈ tables_1, d.before a0 Z = true) (ws : List Jvm.Cond) (i0 i1 i2 i3 : Int32) (i4 : Int64) (i5 : Int32) (h0 : Heap) (Z0 : Ext Z.heap h0) (G : Jdk Z) (D : Cdl Z) :
    MetW l Z ownEL x code maxLocals ret ws room_1 #[(.int i0), (.int i1), (.int i2), (.int i3), (.long i4), (.int i5)] h0 (fun v _ => v = some (.int 1)) := by
  refine metW (by first | exact plainFor_of_name (by first | (simp [plainName, overriddenIn]; done) | decide +kernel) | decide +kernel) Z0 (Ls := #[.val (.int i0), .val (.int i1), .val (.int i2), .val (.int i3), .val (.long i4), .second, .val (.int i5), .unset, .unset, .unset, .unset, .unset, .unset, .unset]) (fun m => by first | (simp [entryFrame, mkF, argsToLocals, Value.category, maxLocals]; done) | rfl) ?_
  intro p e s m below meth c T0 vm0 hx hby hml hret hlk hown hnm hZ N0 wd0
  have hown : (s.setVm vm0).vm.findClass "com/example/acre/acre/model/CodedValueEqualsPinLaw" = some m.cls := hown
  have hret : meth.sig.returnType = some .boolean := hret
  have hml : c.maxLocals = 14 := hml
  refine Ends.go (f' := (mkF m 1 #[.val (.int i0), .val (.int i1), .val (.int i2), .val (.int i3), .val (.long i4), .second, .val (.int i5), .unset, .unset, .unset, .unset, .unset, .unset, .unset] [(.int i0)])) (fun t k => XS.iloadN N0.here hx rfl (hb hby at_0) rfl k) ?_
  refine Ends.go (f' := (mkF m 2 #[.val (.int i0), .val (.int i1), .val (.int i2), .val (.int i3), .val (.long i4), .second, .val (.int i5), .unset, .unset, .unset, .unset, .unset, .unset, .unset] [(.int i2), (.int i0)])) (fun t k => XS.iloadN N0.here hx rfl (hb hby at_1) rfl k) ?_
  refine gStatic (W := 0) (argsL := [(.int i0), (.int i2)]) (rest := []) N0 hx hZ hown (hw _ (List.mem_of_getElem? (i := 0) rfl)) (hw _ (List.mem_of_getElem? (i := 1) rfl)) (hw _ (List.mem_of_getElem? (i := 2) rfl)) (hw _ (List.mem_of_getElem? (i := 3) rfl)) (by decide) ((rm1 l Z a0 hw i0 i2 h0 N0.ext).back (W := 0) hZ (hw _ (List.mem_of_getElem? (i := 3) rfl)) (hw _ (List.mem_of_getElem? (i := 2) rfl)) (nle rfl) (nle rfl)) (hb hby at_2) rfl (by rw [hml]; rfl) (lenOf (by decide +kernel : parseMethodDescriptor "(II)I" = some ⟨[.int, .int], (some .int)⟩) rfl) (nle rfl) (nle rfl) (nle rfl) (fun _ _ _ q => q.2) ?_
  rintro _ T1 _ _ N2 ⟨⟨rfl, e_h⟩, -⟩; rw [e_h] at N2; clear e_h
  show Ends p e below _ T1 (mkF m 5 #[.val (.int i0), .val (.int i1), .val (.int i2), .val (.int i3), .val (.long i4), .second, .val (.int i5), .unset, .unset, .unset, .unset, .unset, .unset, .unset] [(.int (f_par i0 i2))])
  refine Ends.go (f' := (mkF m 7 #[.val (.int i0), .val (.int i1), .val (.int i2), .val (.int i3), .val (.long i4), .second, .val (.int i5), .val (.int (f_par i0 i2)), .unset, .unset, .unset, .unset, .unset, .unset] [])) (fun t k => XS.istore N2.here hx rfl (hb hby at_5) rfl (l' := #[.val (.int i0), .val (.int i1), .val (.int i2), .val (.int i3), .val (.long i4), .second, .val (.int i5), .val (.int (f_par i0 i2)), .unset, .unset, .unset, .unset, .unset, .unset]) rfl k) ?_
  refine Ends.go (f' := (mkF m 8 #[.val (.int i0), .val (.int i1), .val (.int i2), .val (.int i3), .val (.long i4), .second, .val (.int i5), .val (.int (f_par i0 i2)), .unset, .unset, .unset, .unset, .unset, .unset] [(.int i1)])) (fun t k => XS.iloadN N2.here hx rfl (hb hby at_7) rfl k) ?_
  refine Ends.go (f' := (mkF m 9 #[.val (.int i0), .val (.int i1), .val (.int i2), .val (.int i3), .val (.long i4), .second, .val (.int i5), .val (.int (f_par i0 i2)), .unset, .unset, .unset, .unset, .unset, .unset] [(.int i3), (.int i1)])) (fun t k => XS.iloadN N2.here hx rfl (hb hby at_8) rfl k) ?_
  refine gStatic (W := 0) (argsL := [(.int i1), (.int i3)]) (rest := []) N2 hx hZ hown (hw _ (List.mem_of_getElem? (i := 0) rfl)) (hw _ (List.mem_of_getElem? (i := 1) rfl)) (hw _ (List.mem_of_getElem? (i := 2) rfl)) (hw _ (List.mem_of_getElem? (i := 3) rfl)) (by decide) ((rm1 l Z a0 hw i1 i3 h0 N2.ext).back (W := 0) hZ (hw _ (List.mem_of_getElem? (i := 3) rfl)) (hw _ (List.mem_of_getElem? (i := 2) rfl)) (nle rfl) (nle rfl)) (hb hby at_9) rfl (by rw [hml]; rfl) (lenOf (by decide +kernel : parseMethodDescriptor "(II)I" = some ⟨[.int, .int], (some .int)⟩) rfl) (nle rfl) (nle rfl) (nle rfl) (fun _ _ _ q => q.2) ?_
  rintro _ T6 _ _ N7 ⟨⟨rfl, e_h⟩, -⟩; rw [e_h] at N7; clear e_h
  show Ends p e below _ T6 (mkF m 12 #[.val (.int i0), .val (.int i1), .val (.int i2), .val (.int i3), .val (.long i4), .second, .val (.int i5), .val (.int (f_par i0 i2)), .unset, .unset, .unset, .unset, .unset, .unset] [(.int (f_par i1 i3))])
  refine Ends.go (f' := (mkF m 14 #[.val (.int i0), .val (.int i1), .val (.int i2), .val (.int i3), .val (.long i4), .second, .val (.int i5), .val (.int (f_par i0 i2)), .val (.int (f_par i1 i3)), .unset, .unset, .unset, .unset, .unset] [])) (fun t k => XS.istore N7.here hx rfl (hb hby at_12) rfl (l' := #[.val (.int i0), .val (.int i1), .val (.int i2), .val (.int i3), .val (.long i4), .second, .val (.int i5), .val (.int (f_par i0 i2)), .val (.int (f_par i1 i3)), .unset, .unset, .unset, .unset, .unset]) rfl k) ?_
  refine gNew (a0 := a0) N7 hx hZ hown (hw _ (List.mem_of_getElem? (i := 4) rfl)) (hw _ (List.mem_of_getElem? (i := 5) rfl)) (hw _ (List.mem_of_getElem? (i := 6) rfl)) (hb hby at_14) (nle rfl) (nle rfl) ?_
  intro T11 h12 a13 ea14 N15 E16 A17 D18
  have g19 : h0.size ≤ a13 := by rw [ea14]; exact (ext_refl h0).1
  have g20 : Z.heap.size ≤ a13 := by rw [ea14]; exact N7.le
  have X21 : Ext h0 h12 := ext_trans (ext_refl h0) E16
  show Ends p e below _ T11 (mkF m 17 #[.val (.int i0), .val (.int i1), .val (.int i2), .val (.int i3), .val (.long i4), .second, .val (.int i5), .val (.int (f_par i0 i2)), .val (.int (f_par i1 i3)), .unset, .unset, .unset, .unset, .unset] [(.ref a13)])
  refine Ends.go (f' := (mkF m 18 #[.val (.int i0), .val (.int i1), .val (.int i2), .val (.int i3), .val (.long i4), .second, .val (.int i5), .val (.int (f_par i0 i2)), .val (.int (f_par i1 i3)), .unset, .unset, .unset, .unset, .unset] [(.ref a13), (.ref a13)])) (fun t k => XS.dup N15.here hx rfl (hb hby at_17) rfl rfl k) ?_
  refine Ends.go (f' := (mkF m 19 #[.val (.int i0), .val (.int i1), .val (.int i2), .val (.int i3), .val (.long i4), .second, .val (.int i5), .val (.int (f_par i0 i2)), .val (.int (f_par i1 i3)), .unset, .unset, .unset, .unset, .unset] [(.int i0), (.ref a13), (.ref a13)])) (fun t k => XS.iloadN N15.here hx rfl (hb hby at_18) rfl k) ?_
  refine gStatic (W := 2) (argsL := [(.int i0)]) (rest := [(.ref a13), (.ref a13)]) N15 hx hZ hown (hw _ (List.mem_of_getElem? (i := 7) rfl)) (hw _ (List.mem_of_getElem? (i := 8) rfl)) (hw _ (List.mem_of_getElem? (i := 2) rfl)) (hw _ (List.mem_of_getElem? (i := 9) rfl)) (by decide) ((rmText l Z a0 hw i0 h12 N15.ext G).back (W := 2) hZ (hw _ (List.mem_of_getElem? (i := 9) rfl)) (hw _ (List.mem_of_getElem? (i := 2) rfl)) (nle rfl) (nle rfl)) (hb hby at_19) rfl (by rw [hml]; rfl) (lenOf (by decide +kernel : parseMethodDescriptor "(I)Ljava/lang/String;" = some ⟨[.int], (some (.object "java/lang/String"))⟩) rfl) (nle rfl) (nle rfl) (nle rfl) (fun _ _ _ q => q.2) ?_
  rintro _ T22 h23 L25 N24 ⟨⟨a26, rfl, E27, S28⟩, -⟩
  have X29 : Ext h0 h23 := ext_trans X21 E27
  have X30 : Ext h12 h23 := ext_trans (ext_refl h12) E27
  show Ends p e below _ T22 (mkF m 22 #[.val (.int i0), .val (.int i1), .val (.int i2), .val (.int i3), .val (.long i4), .second, .val (.int i5), .val (.int (f_par i0 i2)), .val (.int (f_par i1 i3)), .unset, .unset, .unset, .unset, .unset] [(.ref a26), (.ref a13), (.ref a13)])
  refine Ends.go (f' := (mkF m 23 #[.val (.int i0), .val (.int i1), .val (.int i2), .val (.int i3), .val (.long i4), .second, .val (.int i5), .val (.int (f_par i0 i2)), .val (.int (f_par i1 i3)), .unset, .unset, .unset, .unset, .unset] [(.int i1), (.ref a26), (.ref a13), (.ref a13)])) (fun t k => XS.iloadN N24.here hx rfl (hb hby at_22) rfl k) ?_
  refine gStatic (W := 3) (argsL := [(.int i1)]) (rest := [(.ref a26), (.ref a13), (.ref a13)]) N24 hx hZ hown (hw _ (List.mem_of_getElem? (i := 7) rfl)) (hw _ (List.mem_of_getElem? (i := 8) rfl)) (hw _ (List.mem_of_getElem? (i := 2) rfl)) (hw _ (List.mem_of_getElem? (i := 9) rfl)) (by decide) ((rmText l Z a0 hw i1 h23 N24.ext G).back (W := 3) hZ (hw _ (List.mem_of_getElem? (i := 9) rfl)) (hw _ (List.mem_of_getElem? (i := 2) rfl)) (nle rfl) (nle rfl)) (hb hby at_23) rfl (by rw [hml]; rfl) (lenOf (by decide +kernel : parseMethodDescriptor "(I)Ljava/lang/String;" = some ⟨[.int], (some (.object "java/lang/String"))⟩) rfl) (nle rfl) (nle rfl) (nle rfl) (fun _ _ _ q => q.2) ?_
  rintro _ T31 h32 L34 N33 ⟨⟨a35, rfl, E36, S37⟩, -⟩
  have X38 : Ext h0 h32 := ext_trans X29 E36
  have X39 : Ext h12 h32 := ext_trans X30 E36
  have X40 : Ext h23 h32 := ext_trans (ext_refl h23) E36
  show Ends p e below _ T31 (mkF m 26 #[.val (.int i0), .val (.int i1), .val (.int i2), .val (.int i3), .val (.long i4), .second, .val (.int i5), .val (.int (f_par i0 i2)), .val (.int (f_par i1 i3)), .unset, .unset, .unset, .unset, .unset] [(.ref a35), (.ref a26), (.ref a13), (.ref a13)])
  refine Ends.go (f' := (mkF m 28 #[.val (.int i0), .val (.int i1), .val (.int i2), .val (.int i3), .val (.long i4), .second, .val (.int i5), .val (.int (f_par i0 i2)), .val (.int (f_par i1 i3)), .unset, .unset, .unset, .unset, .unset] [(.long i4), (.ref a35), (.ref a26), (.ref a13), (.ref a13)])) (fun t k => XT.lload N33.here hx rfl (hb hby at_26) rfl k) ?_
  refine Ends.go (f' := (mkF m 29 #[.val (.int i0), .val (.int i1), .val (.int i2), .val (.int i3), .val (.long i4), .second, .val (.int i5), .val (.int (f_par i0 i2)), .val (.int (f_par i1 i3)), .unset, .unset, .unset, .unset, .unset] [(.int ((i4).toInt32)), (.ref a35), (.ref a26), (.ref a13), (.ref a13)])) (fun t k => XT.l2i N33.here hx rfl (hb hby at_28) rfl k) ?_
  suffices J41 : ∀ bo42 : Int32, bo42 = (if (i5 &&& (4 : Int32)) = 0 then (0 : Int32) else (1 : Int32)) → Ends p e below (PhiW Z s ownEL (fun v _ => v = some (.int 1)) room_1.cells room_1.slots) T31 (mkF m 41 #[.val (.int i0), .val (.int i1), .val (.int i2), .val (.int i3), .val (.long i4), .second, .val (.int i5), .val (.int (f_par i0 i2)), .val (.int (f_par i1 i3)), .unset, .unset, .unset, .unset, .unset] [(.int bo42), (.int ((i4).toInt32)), (.ref a35), (.ref a26), (.ref a13), (.ref a13)]) by
    refine Ends.go (f' := (mkF m 31 #[.val (.int i0), .val (.int i1), .val (.int i2), .val (.int i3), .val (.long i4), .second, .val (.int i5), .val (.int (f_par i0 i2)), .val (.int (f_par i1 i3)), .unset, .unset, .unset, .unset, .unset] [(.int i5), (.int ((i4).toInt32)), (.ref a35), (.ref a26), (.ref a13), (.ref a13)])) (fun t k => XS.iload N33.here hx rfl (hb hby at_29) rfl k) ?_
    refine Ends.go (f' := (mkF m 32 #[.val (.int i0), .val (.int i1), .val (.int i2), .val (.int i3), .val (.long i4), .second, .val (.int i5), .val (.int (f_par i0 i2)), .val (.int (f_par i1 i3)), .unset, .unset, .unset, .unset, .unset] [(.int (4 : Int32)), (.int i5), (.int ((i4).toInt32)), (.ref a35), (.ref a26), (.ref a13), (.ref a13)])) (fun t k => XS.iconst N33.here hx rfl (hb hby at_31) k) ?_
    refine Ends.go (f' := (mkF m 33 #[.val (.int i0), .val (.int i1), .val (.int i2), .val (.int i3), .val (.long i4), .second, .val (.int i5), .val (.int (f_par i0 i2)), .val (.int (f_par i1 i3)), .unset, .unset, .unset, .unset, .unset] [(.int (i5 &&& (4 : Int32))), (.int ((i4).toInt32)), (.ref a35), (.ref a26), (.ref a13), (.ref a13)])) (fun t k => XS.iand N33.here hx rfl (hb hby at_32) rfl k) ?_
    by_cases c44 : (i5 &&& (4 : Int32)) = 0
    · refine Ends.go (f' := (mkF m 40 #[.val (.int i0), .val (.int i1), .val (.int i2), .val (.int i3), .val (.long i4), .second, .val (.int i5), .val (.int (f_par i0 i2)), .val (.int (f_par i1 i3)), .unset, .unset, .unset, .unset, .unset] [(.int ((i4).toInt32)), (.ref a35), (.ref a26), (.ref a13), (.ref a13)])) (fun t k => XS.ifYes N33.here hx rfl (pc0 := 33) (pc' := 40) rfl (hb hby at_33) rfl (XT.i0_eq_t c44) (by decide) (by decide) k) ?_
      refine Ends.go (f' := (mkF m 41 #[.val (.int i0), .val (.int i1), .val (.int i2), .val (.int i3), .val (.long i4), .second, .val (.int i5), .val (.int (f_par i0 i2)), .val (.int (f_par i1 i3)), .unset, .unset, .unset, .unset, .unset] [(.int (0 : Int32)), (.int ((i4).toInt32)), (.ref a35), (.ref a26), (.ref a13), (.ref a13)])) (fun t k => XS.iconst N33.here hx rfl (hb hby at_40) k) ?_
      exact J41 (0 : Int32) (by simp [c44])
    · refine Ends.go (f' := (mkF m 36 #[.val (.int i0), .val (.int i1), .val (.int i2), .val (.int i3), .val (.long i4), .second, .val (.int i5), .val (.int (f_par i0 i2)), .val (.int (f_par i1 i3)), .unset, .unset, .unset, .unset, .unset] [(.int ((i4).toInt32)), (.ref a35), (.ref a26), (.ref a13), (.ref a13)])) (fun t k => XS.ifNo N33.here hx rfl (hb hby at_33) rfl (XT.i0_eq_f c44) k) ?_
      refine Ends.go (f' := (mkF m 37 #[.val (.int i0), .val (.int i1), .val (.int i2), .val (.int i3), .val (.long i4), .second, .val (.int i5), .val (.int (f_par i0 i2)), .val (.int (f_par i1 i3)), .unset, .unset, .unset, .unset, .unset] [(.int (1 : Int32)), (.int ((i4).toInt32)), (.ref a35), (.ref a26), (.ref a13), (.ref a13)])) (fun t k => XS.iconst N33.here hx rfl (hb hby at_36) k) ?_
      refine Ends.go (f' := (mkF m 41 #[.val (.int i0), .val (.int i1), .val (.int i2), .val (.int i3), .val (.long i4), .second, .val (.int i5), .val (.int (f_par i0 i2)), .val (.int (f_par i1 i3)), .unset, .unset, .unset, .unset, .unset] [(.int (1 : Int32)), (.int ((i4).toInt32)), (.ref a35), (.ref a26), (.ref a13), (.ref a13)])) (fun t k => XS.goto N33.here hx rfl (pc0 := 37) (pc' := 41) rfl (hb hby at_37) (by decide) (by decide) k) ?_
      exact J41 (1 : Int32) (by simp [c44])
  intro bo42 hbo43
  refine gStatic (W := 4) (argsL := [(.int ((i4).toInt32)), (.int bo42)]) (rest := [(.ref a35), (.ref a26), (.ref a13), (.ref a13)]) N33 hx hZ hown (hw _ (List.mem_of_getElem? (i := 46) rfl)) (hw _ (List.mem_of_getElem? (i := 47) rfl)) (hw _ (List.mem_of_getElem? (i := 2) rfl)) (hw _ (List.mem_of_getElem? (i := 48) rfl)) (by decide) ((rmLabel l Z a0 hw ((i4).toInt32) bo42 h32 N33.ext G).back (W := 4) hZ (hw _ (List.mem_of_getElem? (i := 48) rfl)) (hw _ (List.mem_of_getElem? (i := 2) rfl)) (nle rfl) (nle rfl)) (hb hby at_41) rfl (by rw [hml]; rfl) (lenOf (by decide +kernel : parseMethodDescriptor "(IZ)Ljava/lang/String;" = some ⟨[.int, .boolean], (some (.object "java/lang/String"))⟩) rfl) (nle rfl) (nle rfl) (nle rfl) (fun _ _ _ q => q.2) ?_
  rintro _ T45 h46 L48 N47 ⟨⟨lv49, rfl, hl51, E50⟩, -⟩
  have X52 : Ext h0 h46 := ext_trans X38 E50
  have X53 : Ext h12 h46 := ext_trans X39 E50
  have X54 : Ext h23 h46 := ext_trans X40 E50
  have X55 : Ext h32 h46 := ext_trans (ext_refl h32) E50
  show Ends p e below _ T45 (mkF m 44 #[.val (.int i0), .val (.int i1), .val (.int i2), .val (.int i3), .val (.long i4), .second, .val (.int i5), .val (.int (f_par i0 i2)), .val (.int (f_par i1 i3)), .unset, .unset, .unset, .unset, .unset] [lv49, (.ref a35), (.ref a26), (.ref a13), (.ref a13)])
  refine gSpecialW (W := 1) (y := (⟨"com/example/acre/acre/model/CodedValue", "<init>", "(Ljava/lang/String;Ljava/lang/String;Ljava/lang/String;)V"⟩ : MethodName)) (a := a13) (argsL := [(.ref a26), (.ref a35), lv49]) (rest := [(.ref a13)]) rfl N47 hx hZ hown (wd0.ext X52) (hw _ (List.mem_of_getElem? (i := 49) rfl)) (hw _ (List.mem_of_getElem? (i := 50) rfl)) (hw _ (List.mem_of_getElem? (i := 51) rfl)) (by decide) ((rmCV l Z a0 hw a13 a26 a35 lv49 hl51 (txt i0) (txt i1) h46 N47.ext G D (A17.ext X53) ((D18 (Or.inr (hw _ (List.mem_of_getElem? (i := 111) rfl))) (ty := .object "java/lang/String") (by decide)).ext X53) ((D18 (Or.inr (hw _ (List.mem_of_getElem? (i := 113) rfl))) (ty := .object "java/lang/String") (by decide)).ext X53) ((D18 (Or.inr (hw _ (List.mem_of_getElem? (i := 115) rfl))) (ty := .object "java/lang/String") (by decide)).ext X53) g20 (S28.ext X54) (S37.ext X55) (txt_solid _) (txt_solid _)).back (W := 1) hZ (hw _ (List.mem_of_getElem? (i := 51) rfl)) (hw _ (List.mem_of_getElem? (i := 6) rfl)) (nle rfl) (nle rfl) (elw hw) (wd0.ext X52)) (hb hby at_44) rfl (by rw [hml]; rfl) (lenOf (by decide +kernel : parseMethodDescriptor "(Ljava/lang/String;Ljava/lang/String;Ljava/lang/String;)V" = some ⟨[(.object "java/lang/String"), (.object "java/lang/String"), (.object "java/lang/String")], none⟩) rfl) (nle rfl) (nle rfl) (nle rfl) (fun _ _ _ q => q.2) ?_
  rintro _ vm58 T59 h60 L63 N61 ⟨⟨rfl, K56, V57⟩, -⟩ hZ hown wd62
  have X64 : Ext h0 h60 := ext_keep X52 K56 g19
  show Ends p e below _ T59 (mkF m 47 #[.val (.int i0), .val (.int i1), .val (.int i2), .val (.int i3), .val (.long i4), .second, .val (.int i5), .val (.int (f_par i0 i2)), .val (.int (f_par i1 i3)), .unset, .unset, .unset, .unset, .unset] [(.ref a13)])
  refine Ends.go (f' := (mkF m 49 #[.val (.int i0), .val (.int i1), .val (.int i2), .val (.int i3), .val (.long i4), .second, .val (.int i5), .val (.int (f_par i0 i2)), .val (.int (f_par i1 i3)), .val (.ref a13), .unset, .unset, .unset, .unset] [])) (fun t k => XS.astore N61.here hx rfl (hb hby at_47) rfl rfl (l' := #[.val (.int i0), .val (.int i1), .val (.int i2), .val (.int i3), .val (.long i4), .second, .val (.int i5), .val (.int (f_par i0 i2)), .val (.int (f_par i1 i3)), .val (.ref a13), .unset, .unset, .unset, .unset]) rfl k) ?_
  refine Ends.go (f' := (mkF m 51 #[.val (.int i0), .val (.int i1), .val (.int i2), .val (.int i3), .val (.long i4), .second, .val (.int i5), .val (.int (f_par i0 i2)), .val (.int (f_par i1 i3)), .val (.ref a13), .unset, .unset, .unset, .unset] [(.int (f_par i0 i2))])) (fun t k => XS.iload N61.here hx rfl (hb hby at_49) rfl k) ?_
  refine gStatic (W := 0) (argsL := [(.int (f_par i0 i2))]) (rest := []) N61 hx hZ hown (hw _ (List.mem_of_getElem? (i := 7) rfl)) (hw _ (List.mem_of_getElem? (i := 8) rfl)) (hw _ (List.mem_of_getElem? (i := 2) rfl)) (hw _ (List.mem_of_getElem? (i := 9) rfl)) (by decide) ((rmText l Z a0 hw (f_par i0 i2) h60 N61.ext G).back (W := 0) hZ (hw _ (List.mem_of_getElem? (i := 9) rfl)) (hw _ (List.mem_of_getElem? (i := 2) rfl)) (nle rfl) (nle rfl)) (hb hby at_51) rfl (by rw [hml]; rfl) (lenOf (by decide +kernel : parseMethodDescriptor "(I)Ljava/lang/String;" = some ⟨[.int], (some (.object "java/lang/String"))⟩) rfl) (nle rfl) (nle rfl) (nle rfl) (fun _ _ _ q => q.2) ?_
  rintro _ T65 h66 L68 N67 ⟨⟨a69, rfl, E70, S71⟩, -⟩
  have X72 : Ext h0 h66 := ext_trans X64 E70
  have X73 : Ext h60 h66 := ext_trans (ext_refl h60) E70
  show Ends p e below _ T65 (mkF m 54 #[.val (.int i0), .val (.int i1), .val (.int i2), .val (.int i3), .val (.long i4), .second, .val (.int i5), .val (.int (f_par i0 i2)), .val (.int (f_par i1 i3)), .val (.ref a13), .unset, .unset, .unset, .unset] [(.ref a69)])
  refine Ends.go (f' := (mkF m 56 #[.val (.int i0), .val (.int i1), .val (.int i2), .val (.int i3), .val (.long i4), .second, .val (.int i5), .val (.int (f_par i0 i2)), .val (.int (f_par i1 i3)), .val (.ref a13), .val (.ref a69), .unset, .unset, .unset] [])) (fun t k => XS.astore N67.here hx rfl (hb hby at_54) rfl rfl (l' := #[.val (.int i0), .val (.int i1), .val (.int i2), .val (.int i3), .val (.long i4), .second, .val (.int i5), .val (.int (f_par i0 i2)), .val (.int (f_par i1 i3)), .val (.ref a13), .val (.ref a69), .unset, .unset, .unset]) rfl k) ?_
  refine gNew (a0 := a0) N67 hx hZ hown (hw _ (List.mem_of_getElem? (i := 4) rfl)) (hw _ (List.mem_of_getElem? (i := 5) rfl)) (hw _ (List.mem_of_getElem? (i := 6) rfl)) (hb hby at_56) (nle rfl) (nle rfl) ?_
  intro T74 h75 a76 ea77 N78 E79 A80 D81
  have g82 : h0.size ≤ a76 := by rw [ea77]; exact X72.1
  have g83 : h60.size ≤ a76 := by rw [ea77]; exact X73.1
  have g84 : h66.size ≤ a76 := by rw [ea77]; exact (ext_refl h66).1
  have g85 : Z.heap.size ≤ a76 := by rw [ea77]; exact N67.le
  have X86 : Ext h0 h75 := ext_trans X72 E79
  have X87 : Ext h60 h75 := ext_trans X73 E79
  have X88 : Ext h66 h75 := ext_trans (ext_refl h66) E79
  show Ends p e below _ T74 (mkF m 59 #[.val (.int i0), .val (.int i1), .val (.int i2), .val (.int i3), .val (.long i4), .second, .val (.int i5), .val (.int (f_par i0 i2)), .val (.int (f_par i1 i3)), .val (.ref a13), .val (.ref a69), .unset, .unset, .unset] [(.ref a76)])
  refine Ends.go (f' := (mkF m 60 #[.val (.int i0), .val (.int i1), .val (.int i2), .val (.int i3), .val (.long i4), .second, .val (.int i5), .val (.int (f_par i0 i2)), .val (.int (f_par i1 i3)), .val (.ref a13), .val (.ref a69), .unset, .unset, .unset] [(.ref a76), (.ref a76)])) (fun t k => XS.dup N78.here hx rfl (hb hby at_59) rfl rfl k) ?_
  refine Ends.go (f' := (mkF m 62 #[.val (.int i0), .val (.int i1), .val (.int i2), .val (.int i3), .val (.long i4), .second, .val (.int i5), .val (.int (f_par i0 i2)), .val (.int (f_par i1 i3)), .val (.ref a13), .val (.ref a69), .unset, .unset, .unset] [(.ref a69), (.ref a76), (.ref a76)])) (fun t k => XS.aload N78.here hx rfl (hb hby at_60) rfl rfl k) ?_
  refine Ends.go (f' := (mkF m 64 #[.val (.int i0), .val (.int i1), .val (.int i2), .val (.int i3), .val (.long i4), .second, .val (.int i5), .val (.int (f_par i0 i2)), .val (.int (f_par i1 i3)), .val (.ref a13), .val (.ref a69), .unset, .unset, .unset] [(.int (f_par i1 i3)), (.ref a69), (.ref a76), (.ref a76)])) (fun t k => XS.iload N78.here hx rfl (hb hby at_62) rfl k) ?_
  refine gStatic (W := 3) (argsL := [(.int (f_par i1 i3))]) (rest := [(.ref a69), (.ref a76), (.ref a76)]) N78 hx hZ hown (hw _ (List.mem_of_getElem? (i := 7) rfl)) (hw _ (List.mem_of_getElem? (i := 8) rfl)) (hw _ (List.mem_of_getElem? (i := 2) rfl)) (hw _ (List.mem_of_getElem? (i := 9) rfl)) (by decide) ((rmText l Z a0 hw (f_par i1 i3) h75 N78.ext G).back (W := 3) hZ (hw _ (List.mem_of_getElem? (i := 9) rfl)) (hw _ (List.mem_of_getElem? (i := 2) rfl)) (nle rfl) (nle rfl)) (hb hby at_64) rfl (by rw [hml]; rfl) (lenOf (by decide +kernel : parseMethodDescriptor "(I)Ljava/lang/String;" = some ⟨[.int], (some (.object "java/lang/String"))⟩) rfl) (nle rfl) (nle rfl) (nle rfl) (fun _ _ _ q => q.2) ?_
  rintro _ T89 h90 L92 N91 ⟨⟨a93, rfl, E94, S95⟩, -⟩
  have X96 : Ext h0 h90 := ext_trans X86 E94
  have X97 : Ext h60 h90 := ext_trans X87 E94
  have X98 : Ext h66 h90 := ext_trans X88 E94
  have X99 : Ext h75 h90 := ext_trans (ext_refl h75) E94
  show Ends p e below _ T89 (mkF m 67 #[.val (.int i0), .val (.int i1), .val (.int i2), .val (.int i3), .val (.long i4), .second, .val (.int i5), .val (.int (f_par i0 i2)), .val (.int (f_par i1 i3)), .val (.ref a13), .val (.ref a69), .unset, .unset, .unset] [(.ref a93), (.ref a69), (.ref a76), (.ref a76)])
  refine Ends.go (f' := (mkF m 69 #[.val (.int i0), .val (.int i1), .val (.int i2), .val (.int i3), .val (.long i4), .second, .val (.int i5), .val (.int (f_par i0 i2)), .val (.int (f_par i1 i3)), .val (.ref a13), .val (.ref a69), .unset, .unset, .unset] [(.long i4), (.ref a93), (.ref a69), (.ref a76), (.ref a76)])) (fun t k => XT.lload N91.here hx rfl (hb hby at_67) rfl k) ?_
  refine Ends.go (f' := (mkF m 71 #[.val (.int i0), .val (.int i1), .val (.int i2), .val (.int i3), .val (.long i4), .second, .val (.int i5), .val (.int (f_par i0 i2)), .val (.int (f_par i1 i3)), .val (.ref a13), .val (.ref a69), .unset, .unset, .unset] [(.int (32 : Int32)), (.long i4), (.ref a93), (.ref a69), (.ref a76), (.ref a76)])) (fun t k => XS.bipush N91.here hx rfl (hb hby at_69) k) ?_
  refine Ends.go (f' := (mkF m 72 #[.val (.int i0), .val (.int i1), .val (.int i2), .val (.int i3), .val (.long i4), .second, .val (.int i5), .val (.int (f_par i0 i2)), .val (.int (f_par i1 i3)), .val (.ref a13), .val (.ref a69), .unset, .unset, .unset] [(.long (XT.ushrL i4 (32 : Int32))), (.ref a93), (.ref a69), (.ref a76), (.ref a76)])) (fun t k => XT.lushr N91.here hx rfl (hb hby at_71) rfl k) ?_
  refine Ends.go (f' := (mkF m 73 #[.val (.int i0), .val (.int i1), .val (.int i2), .val (.int i3), .val (.long i4), .second, .val (.int i5), .val (.int (f_par i0 i2)), .val (.int (f_par i1 i3)), .val (.ref a13), .val (.ref a69), .unset, .unset, .unset] [(.int (((XT.ushrL i4 (32 : Int32))).toInt32)), (.ref a93), (.ref a69), (.ref a76), (.ref a76)])) (fun t k => XT.l2i N91.here hx rfl (hb hby at_72) rfl k) ?_
  suffices J100 : ∀ bo101 : Int32, bo101 = (if (i5 &&& (8 : Int32)) = 0 then (0 : Int32) else (1 : Int32)) → Ends p e below (PhiW Z s ownEL (fun v _ => v = some (.int 1)) room_1.cells room_1.slots) T89 (mkF m 86 #[.val (.int i0), .val (.int i1), .val (.int i2), .val (.int i3), .val (.long i4), .second, .val (.int i5), .val (.int (f_par i0 i2)), .val (.int (f_par i1 i3)), .val (.ref a13), .val (.ref a69), .unset, .unset, .unset] [(.int bo101), (.int (((XT.ushrL i4 (32 : Int32))).toInt32)), (.ref a93), (.ref a69), (.ref a76), (.ref a76)]) by
    refine Ends.go (f' := (mkF m 75 #[.val (.int i0), .val (.int i1), .val (.int i2), .val (.int i3), .val (.long i4), .second, .val (.int i5), .val (.int (f_par i0 i2)), .val (.int (f_par i1 i3)), .val (.ref a13), .val (.ref a69), .unset, .unset, .unset] [(.int i5), (.int (((XT.ushrL i4 (32 : Int32))).toInt32)), (.ref a93), (.ref a69), (.ref a76), (.ref a76)])) (fun t k => XS.iload N91.here hx rfl (hb hby at_73) rfl k) ?_
    refine Ends.go (f' := (mkF m 77 #[.val (.int i0), .val (.int i1), .val (.int i2), .val (.int i3), .val (.long i4), .second, .val (.int i5), .val (.int (f_par i0 i2)), .val (.int (f_par i1 i3)), .val (.ref a13), .val (.ref a69), .unset, .unset, .unset] [(.int (8 : Int32)), (.int i5), (.int (((XT.ushrL i4 (32 : Int32))).toInt32)), (.ref a93), (.ref a69), (.ref a76), (.ref a76)])) (fun t k => XS.bipush N91.here hx rfl (hb hby at_75) k) ?_
    refine Ends.go (f' := (mkF m 78 #[.val (.int i0), .val (.int i1), .val (.int i2), .val (.int i3), .val (.long i4), .second, .val (.int i5), .val (.int (f_par i0 i2)), .val (.int (f_par i1 i3)), .val (.ref a13), .val (.ref a69), .unset, .unset, .unset] [(.int (i5 &&& (8 : Int32))), (.int (((XT.ushrL i4 (32 : Int32))).toInt32)), (.ref a93), (.ref a69), (.ref a76), (.ref a76)])) (fun t k => XS.iand N91.here hx rfl (hb hby at_77) rfl k) ?_
    by_cases c103 : (i5 &&& (8 : Int32)) = 0
    · refine Ends.go (f' := (mkF m 85 #[.val (.int i0), .val (.int i1), .val (.int i2), .val (.int i3), .val (.long i4), .second, .val (.int i5), .val (.int (f_par i0 i2)), .val (.int (f_par i1 i3)), .val (.ref a13), .val (.ref a69), .unset, .unset, .unset] [(.int (((XT.ushrL i4 (32 : Int32))).toInt32)), (.ref a93), (.ref a69), (.ref a76), (.ref a76)])) (fun t k => XS.ifYes N91.here hx rfl (pc0 := 78) (pc' := 85) rfl (hb hby at_78) rfl (XT.i0_eq_t c103) (by decide) (by decide) k) ?_
      refine Ends.go (f' := (mkF m 86 #[.val (.int i0), .val (.int i1), .val (.int i2), .val (.int i3), .val (.long i4), .second, .val (.int i5), .val (.int (f_par i0 i2)), .val (.int (f_par i1 i3)), .val (.ref a13), .val (.ref a69), .unset, .unset, .unset] [(.int (0 : Int32)), (.int (((XT.ushrL i4 (32 : Int32))).toInt32)), (.ref a93), (.ref a69), (.ref a76), (.ref a76)])) (fun t k => XS.iconst N91.here hx rfl (hb hby at_85) k) ?_
      exact J100 (0 : Int32) (by simp [c103])
    · refine Ends.go (f' := (mkF m 81 #[.val (.int i0), .val (.int i1), .val (.int i2), .val (.int i3), .val (.long i4), .second, .val (.int i5), .val (.int (f_par i0 i2)), .val (.int (f_par i1 i3)), .val (.ref a13), .val (.ref a69), .unset, .unset, .unset] [(.int (((XT.ushrL i4 (32 : Int32))).toInt32)), (.ref a93), (.ref a69), (.ref a76), (.ref a76)])) (fun t k => XS.ifNo N91.here hx rfl (hb hby at_78) rfl (XT.i0_eq_f c103) k) ?_
      refine Ends.go (f' := (mkF m 82 #[.val (.int i0), .val (.int i1), .val (.int i2), .val (.int i3), .val (.long i4), .second, .val (.int i5), .val (.int (f_par i0 i2)), .val (.int (f_par i1 i3)), .val (.ref a13), .val (.ref a69), .unset, .unset, .unset] [(.int (1 : Int32)), (.int (((XT.ushrL i4 (32 : Int32))).toInt32)), (.ref a93), (.ref a69), (.ref a76), (.ref a76)])) (fun t k => XS.iconst N91.here hx rfl (hb hby at_81) k) ?_
      refine Ends.go (f' := (mkF m 86 #[.val (.int i0), .val (.int i1), .val (.int i2), .val (.int i3), .val (.long i4), .second, .val (.int i5), .val (.int (f_par i0 i2)), .val (.int (f_par i1 i3)), .val (.ref a13), .val (.ref a69), .unset, .unset, .unset] [(.int (1 : Int32)), (.int (((XT.ushrL i4 (32 : Int32))).toInt32)), (.ref a93), (.ref a69), (.ref a76), (.ref a76)])) (fun t k => XS.goto N91.here hx rfl (pc0 := 82) (pc' := 86) rfl (hb hby at_82) (by decide) (by decide) k) ?_
      exact J100 (1 : Int32) (by simp [c103])
  intro bo101 hbo102
  refine gStatic (W := 4) (argsL := [(.int (((XT.ushrL i4 (32 : Int32))).toInt32)), (.int bo101)]) (rest := [(.ref a93), (.ref a69), (.ref a76), (.ref a76)]) N91 hx hZ hown (hw _ (List.mem_of_getElem? (i := 46) rfl)) (hw _ (List.mem_of_getElem? (i := 47) rfl)) (hw _ (List.mem_of_getElem? (i := 2) rfl)) (hw _ (List.mem_of_getElem? (i := 48) rfl)) (by decide) ((rmLabel l Z a0 hw (((XT.ushrL i4 (32 : Int32))).toInt32) bo101 h90 N91.ext G).back (W := 4) hZ (hw _ (List.mem_of_getElem? (i := 48) rfl)) (hw _ (List.mem_of_getElem? (i := 2) rfl)) (nle rfl) (nle rfl)) (hb hby at_86) rfl (by rw [hml]; rfl) (lenOf (by decide +kernel : parseMethodDescriptor "(IZ)Ljava/lang/String;" = some ⟨[.int, .boolean], (some (.object "java/lang/String"))⟩) rfl) (nle rfl) (nle rfl) (nle rfl) (fun _ _ _ q => q.2) ?_
  rintro _ T104 h105 L107 N106 ⟨⟨lv108, rfl, hl110, E109⟩, -⟩
  have X111 : Ext h0 h105 := ext_trans X96 E109
  have X112 : Ext h60 h105 := ext_trans X97 E109
  have X113 : Ext h66 h105 := ext_trans X98 E109
  have X114 : Ext h75 h105 := ext_trans X99 E109
  have X115 : Ext h90 h105 := ext_trans (ext_refl h90) E109
  show Ends p e below _ T104 (mkF m 89 #[.val (.int i0), .val (.int i1), .val (.int i2), .val (.int i3), .val (.long i4), .second, .val (.int i5), .val (.int (f_par i0 i2)), .val (.int (f_par i1 i3)), .val (.ref a13), .val (.ref a69), .unset, .unset, .unset] [lv108, (.ref a93), (.ref a69), (.ref a76), (.ref a76)])
  refine gSpecialW (W := 1) (y := (⟨"com/example/acre/acre/model/CodedValue", "<init>", "(Ljava/lang/String;Ljava/lang/String;Ljava/lang/String;)V"⟩ : MethodName)) (a := a76) (argsL := [(.ref a69), (.ref a93), lv108]) (rest := [(.ref a76)]) rfl N106 hx hZ hown (wd62.ext X112) (hw _ (List.mem_of_getElem? (i := 49) rfl)) (hw _ (List.mem_of_getElem? (i := 50) rfl)) (hw _ (List.mem_of_getElem? (i := 51) rfl)) (by decide) ((rmCV l Z a0 hw a76 a69 a93 lv108 hl110 (txt (f_par i0 i2)) (txt (f_par i1 i3)) h105 N106.ext G D (A80.ext X114) ((D81 (Or.inr (hw _ (List.mem_of_getElem? (i := 111) rfl))) (ty := .object "java/lang/String") (by decide)).ext X114) ((D81 (Or.inr (hw _ (List.mem_of_getElem? (i := 113) rfl))) (ty := .object "java/lang/String") (by decide)).ext X114) ((D81 (Or.inr (hw _ (List.mem_of_getElem? (i := 115) rfl))) (ty := .object "java/lang/String") (by decide)).ext X114) g85 (S71.ext X113) (S95.ext X115) (txt_solid _) (txt_solid _)).back (W := 1) hZ (hw _ (List.mem_of_getElem? (i := 51) rfl)) (hw _ (List.mem_of_getElem? (i := 6) rfl)) (nle rfl) (nle rfl) (elw hw) (wd62.ext X112)) (hb hby at_89) rfl (by rw [hml]; rfl) (lenOf (by decide +kernel : parseMethodDescriptor "(Ljava/lang/String;Ljava/lang/String;Ljava/lang/String;)V" = some ⟨[(.object "java/lang/String"), (.object "java/lang/String"), (.object "java/lang/String")], none⟩) rfl) (nle rfl) (nle rfl) (nle rfl) (fun _ _ _ q => q.2) ?_
  rintro _ vm118 T119 h120 L123 N121 ⟨⟨rfl, K116, V117⟩, -⟩ hZ hown wd122
  have X124 : Ext h0 h120 := ext_keep X111 K116 g82
  have X125 : Ext h60 h120 := ext_keep X112 K116 g83
  have X126 : Ext h66 h120 := ext_keep X113 K116 g84
  show Ends p e below _ T119 (mkF m 92 #[.val (.int i0), .val (.int i1), .val (.int i2), .val (.int i3), .val (.long i4), .second, .val (.int i5), .val (.int (f_par i0 i2)), .val (.int (f_par i1 i3)), .val (.ref a13), .val (.ref a69), .unset, .unset, .unset] [(.ref a76)])
  refine Ends.go (f' := (mkF m 94 #[.val (.int i0), .val (.int i1), .val (.int i2), .val (.int i3), .val (.long i4), .second, .val (.int i5), .val (.int (f_par i0 i2)), .val (.int (f_par i1 i3)), .val (.ref a13), .val (.ref a69), .val (.ref a76), .unset, .unset] [])) (fun t k => XS.astore N121.here hx rfl (hb hby at_92) rfl rfl (l' := #[.val (.int i0), .val (.int i1), .val (.int i2), .val (.int i3), .val (.long i4), .second, .val (.int i5), .val (.int (f_par i0 i2)), .val (.int (f_par i1 i3)), .val (.ref a13), .val (.ref a69), .val (.ref a76), .unset, .unset]) rfl k) ?_
  refine Ends.go (f' := (mkF m 96 #[.val (.int i0), .val (.int i1), .val (.int i2), .val (.int i3), .val (.long i4), .second, .val (.int i5), .val (.int (f_par i0 i2)), .val (.int (f_par i1 i3)), .val (.ref a13), .val (.ref a69), .val (.ref a76), .unset, .unset] [(.int i5)])) (fun t k => XS.iload N121.here hx rfl (hb hby at_94) rfl k) ?_
  refine Ends.go (f' := (mkF m 97 #[.val (.int i0), .val (.int i1), .val (.int i2), .val (.int i3), .val (.long i4), .second, .val (.int i5), .val (.int (f_par i0 i2)), .val (.int (f_par i1 i3)), .val (.ref a13), .val (.ref a69), .val (.ref a76), .unset, .unset] [(.int (3 : Int32)), (.int i5)])) (fun t k => XS.iconst N121.here hx rfl (hb hby at_96) k) ?_
  refine Ends.go (f' := (mkF m 98 #[.val (.int i0), .val (.int i1), .val (.int i2), .val (.int i3), .val (.long i4), .second, .val (.int i5), .val (.int (f_par i0 i2)), .val (.int (f_par i1 i3)), .val (.ref a13), .val (.ref a69), .val (.ref a76), .unset, .unset] [(.int (i5 &&& (3 : Int32)))])) (fun t k => XS.iand N121.here hx rfl (hb hby at_97) rfl k) ?_
  refine Ends.go (f' := (mkF m 100 #[.val (.int i0), .val (.int i1), .val (.int i2), .val (.int i3), .val (.long i4), .second, .val (.int i5), .val (.int (f_par i0 i2)), .val (.int (f_par i1 i3)), .val (.ref a13), .val (.ref a69), .val (.ref a76), .val (.int (i5 &&& (3 : Int32))), .unset] [])) (fun t k => XS.istore N121.here hx rfl (hb hby at_98) rfl (l' := #[.val (.int i0), .val (.int i1), .val (.int i2), .val (.int i3), .val (.long i4), .second, .val (.int i5), .val (.int (f_par i0 i2)), .val (.int (f_par i1 i3)), .val (.ref a13), .val (.ref a69), .val (.ref a76), .val (.int (i5 &&& (3 : Int32))), .unset]) rfl k) ?_
  refine Ends.go (f' := (mkF m 102 #[.val (.int i0), .val (.int i1), .val (.int i2), .val (.int i3), .val (.long i4), .second, .val (.int i5), .val (.int (f_par i0 i2)), .val (.int (f_par i1 i3)), .val (.ref a13), .val (.ref a69), .val (.ref a76), .val (.int (i5 &&& (3 : Int32))), .unset] [(.int (i5 &&& (3 : Int32)))])) (fun t k => XS.iload N121.here hx rfl (hb hby at_100) rfl k) ?_
  refine Ends.go (f' := (mkF m 103 #[.val (.int i0), .val (.int i1), .val (.int i2), .val (.int i3), .val (.long i4), .second, .val (.int i5), .val (.int (f_par i0 i2)), .val (.int (f_par i1 i3)), .val (.ref a13), .val (.ref a69), .val (.ref a76), .val (.int (i5 &&& (3 : Int32))), .unset] [(.int (2 : Int32)), (.int (i5 &&& (3 : Int32)))])) (fun t k => XS.iconst N121.here hx rfl (hb hby at_102) k) ?_
  have U1 := (V57.ext X125)
  have U2 := (V117.ext (ext_refl h120))
  have Uc := (S71.ext X126)
  by_cases k2 : (i5 &&& (3 : Int32)) = (2 : Int32)
  · refine Ends.go (f' := (mkF m 106 #[.val (.int i0), .val (.int i1), .val (.int i2), .val (.int i3), .val (.long i4), .second, .val (.int i5), .val (.int (f_par i0 i2)), .val (.int (f_par i1 i3)), .val (.ref a13), .val (.ref a69), .val (.ref a76), .val (.int (i5 &&& (3 : Int32))), .unset] [])) (fun t k => XS.icmpNo N121.here hx rfl (hb hby at_103) rfl (XT.ii_ne_f k2) k) ?_
    refine Ends.go (f' := (mkF m 108 #[.val (.int i0), .val (.int i1), .val (.int i2), .val (.int i3), .val (.long i4), .second, .val (.int i5), .val (.int (f_par i0 i2)), .val (.int (f_par i1 i3)), .val (.ref a13), .val (.ref a69), .val (.ref a76), .val (.int (i5 &&& (3 : Int32))), .unset] [(.ref a13)])) (fun t k => XS.aload N121.here hx rfl (hb hby at_106) rfl rfl k) ?_
    refine Ends.go (f' := (mkF m 109 #[.val (.int i0), .val (.int i1), .val (.int i2), .val (.int i3), .val (.long i4), .second, .val (.int i5), .val (.int (f_par i0 i2)), .val (.int (f_par i1 i3)), .val (.ref a13), .val (.ref a69), .val (.ref a76), .val (.int (i5 &&& (3 : Int32))), .unset] [.null, (.ref a13)])) (fun t k => XS.aconstNull N121.here hx rfl (hb hby at_108) k) ?_
    refine gVirtual (W := 0) (y := (⟨"com/example/acre/acre/model/CodedValue", "equals", "(Ljava/lang/Object;)Z"⟩ : MethodName)) (z := (⟨"com/example/acre/acre/model/CodedValue", "equals", "(Ljava/lang/Object;)Z"⟩ : MethodName)) (C := "com/example/acre/acre/model/CodedValue") (b := a13) (argsL := [.null]) (rest := []) N121 hx hZ hown (hw _ (List.mem_of_getElem? (i := 116) rfl)) (hw _ (List.mem_of_getElem? (i := 117) rfl)) (hw _ (List.mem_of_getElem? (i := 119) rfl)) (hw _ (List.mem_of_getElem? (i := 118) rfl)) (by decide) (notFace_of_selects (args := #[]) (mvT hZ (hw _ (List.mem_of_getElem? (i := 119) rfl)))) U1.1 ((rmEqNull l Z a0 hw a13 h120 N121.ext).back (W := 0) hZ (hw _ (List.mem_of_getElem? (i := 120) rfl)) (hw _ (List.mem_of_getElem? (i := 6) rfl)) (nle rfl) (nle rfl)) (hb hby at_109) rfl (by rw [hml]; rfl) (lenOf (by decide +kernel : parseMethodDescriptor "(Ljava/lang/Object;)Z" = some ⟨[(.object "java/lang/Object")], (some .boolean)⟩) rfl) (nle rfl) (nle rfl) (nle rfl) (fun _ _ _ q => q.2) ?_
    rintro _ T127 _ _ N128 ⟨⟨rfl, e_h⟩, -⟩; rw [e_h] at N128; clear e_h
    show Ends p e below _ T127 (mkF m 112 #[.val (.int i0), .val (.int i1), .val (.int i2), .val (.int i3), .val (.long i4), .second, .val (.int i5), .val (.int (f_par i0 i2)), .val (.int (f_par i1 i3)), .val (.ref a13), .val (.ref a69), .val (.ref a76), .val (.int (i5 &&& (3 : Int32))), .unset] [(.int (0 : Int32))])
    refine Ends.go (f' := (mkF m 115 #[.val (.int i0), .val (.int i1), .val (.int i2), .val (.int i3), .val (.long i4), .second, .val (.int i5), .val (.int (f_par i0 i2)), .val (.int (f_par i1 i3)), .val (.ref a13), .val (.ref a69), .val (.ref a76), .val (.int (i5 &&& (3 : Int32))), .unset] [])) (fun t k => XS.ifNo N128.here hx rfl (hb hby at_112) rfl (XT.i0_ne_f (by decide)) k) ?_
    refine Ends.go (f' := (mkF m 116 #[.val (.int i0), .val (.int i1), .val (.int i2), .val (.int i3), .val (.long i4), .second, .val (.int i5), .val (.int (f_par i0 i2)), .val (.int (f_par i1 i3)), .val (.ref a13), .val (.ref a69), .val (.ref a76), .val (.int (i5 &&& (3 : Int32))), .unset] [(.int (1 : Int32))])) (fun t k => XS.iconst N128.here hx rfl (hb hby at_115) k) ?_
    refine Ends.go (f' := (mkF m 120 #[.val (.int i0), .val (.int i1), .val (.int i2), .val (.int i3), .val (.long i4), .second, .val (.int i5), .val (.int (f_par i0 i2)), .val (.int (f_par i1 i3)), .val (.ref a13), .val (.ref a69), .val (.ref a76), .val (.int (i5 &&& (3 : Int32))), .unset] [(.int (1 : Int32))])) (fun t k => XS.goto N128.here hx rfl (pc0 := 116) (pc' := 120) rfl (hb hby at_116) (by decide) (by decide) k) ?_
    exact retZW N128 hZ (elw hw) wd122 hx hlk hret (by simp) (hb hby at_120) rfl (nle rfl) (nle rfl)
  · refine Ends.go (f' := (mkF m 121 #[.val (.int i0), .val (.int i1), .val (.int i2), .val (.int i3), .val (.long i4), .second, .val (.int i5), .val (.int (f_par i0 i2)), .val (.int (f_par i1 i3)), .val (.ref a13), .val (.ref a69), .val (.ref a76), .val (.int (i5 &&& (3 : Int32))), .unset] [])) (fun t k => XS.icmpYes N121.here hx rfl (pc0 := 103) (pc' := 121) rfl (hb hby at_103) rfl (XT.ii_ne_t k2) (by decide) (by decide) k) ?_
    refine Ends.go (f' := (mkF m 123 #[.val (.int i0), .val (.int i1), .val (.int i2), .val (.int i3), .val (.long i4), .second, .val (.int i5), .val (.int (f_par i0 i2)), .val (.int (f_par i1 i3)), .val (.ref a13), .val (.ref a69), .val (.ref a76), .val (.int (i5 &&& (3 : Int32))), .unset] [(.int (i5 &&& (3 : Int32)))])) (fun t k => XS.iload N121.here hx rfl (hb hby at_121) rfl k) ?_
    refine Ends.go (f' := (mkF m 124 #[.val (.int i0), .val (.int i1), .val (.int i2), .val (.int i3), .val (.long i4), .second, .val (.int i5), .val (.int (f_par i0 i2)), .val (.int (f_par i1 i3)), .val (.ref a13), .val (.ref a69), .val (.ref a76), .val (.int (i5 &&& (3 : Int32))), .unset] [(.int (3 : Int32)), (.int (i5 &&& (3 : Int32)))])) (fun t k => XS.iconst N121.here hx rfl (hb hby at_123) k) ?_
    by_cases k3 : (i5 &&& (3 : Int32)) = (3 : Int32)
    · refine Ends.go (f' := (mkF m 127 #[.val (.int i0), .val (.int i1), .val (.int i2), .val (.int i3), .val (.long i4), .second, .val (.int i5), .val (.int (f_par i0 i2)), .val (.int (f_par i1 i3)), .val (.ref a13), .val (.ref a69), .val (.ref a76), .val (.int (i5 &&& (3 : Int32))), .unset] [])) (fun t k => XS.icmpNo N121.here hx rfl (hb hby at_124) rfl (XT.ii_ne_f k3) k) ?_
      refine Ends.go (f' := (mkF m 129 #[.val (.int i0), .val (.int i1), .val (.int i2), .val (.int i3), .val (.long i4), .second, .val (.int i5), .val (.int (f_par i0 i2)), .val (.int (f_par i1 i3)), .val (.ref a13), .val (.ref a69), .val (.ref a76), .val (.int (i5 &&& (3 : Int32))), .unset] [(.ref a13)])) (fun t k => XS.aload N121.here hx rfl (hb hby at_127) rfl rfl k) ?_
      refine Ends.go (f' := (mkF m 131 #[.val (.int i0), .val (.int i1), .val (.int i2), .val (.int i3), .val (.long i4), .second, .val (.int i5), .val (.int (f_par i0 i2)), .val (.int (f_par i1 i3)), .val (.ref a13), .val (.ref a69), .val (.ref a76), .val (.int (i5 &&& (3 : Int32))), .unset] [(.ref a69), (.ref a13)])) (fun t k => XS.aload N121.here hx rfl (hb hby at_129) rfl rfl k) ?_
      refine gVirtual (W := 0) (y := (⟨"com/example/acre/acre/model/CodedValue", "equals", "(Ljava/lang/Object;)Z"⟩ : MethodName)) (z := (⟨"com/example/acre/acre/model/CodedValue", "equals", "(Ljava/lang/Object;)Z"⟩ : MethodName)) (C := "com/example/acre/acre/model/CodedValue") (b := a13) (argsL := [(.ref a69)]) (rest := []) N121 hx hZ hown (hw _ (List.mem_of_getElem? (i := 116) rfl)) (hw _ (List.mem_of_getElem? (i := 117) rfl)) (hw _ (List.mem_of_getElem? (i := 119) rfl)) (hw _ (List.mem_of_getElem? (i := 118) rfl)) (by decide) (notFace_of_selects (args := #[]) (mvT hZ (hw _ (List.mem_of_getElem? (i := 119) rfl)))) U1.1 ((rmEqStr l Z a0 hw a13 a69 h120 N121.ext Uc.1).back (W := 0) hZ (hw _ (List.mem_of_getElem? (i := 120) rfl)) (hw _ (List.mem_of_getElem? (i := 6) rfl)) (nle rfl) (nle rfl)) (hb hby at_131) rfl (by rw [hml]; rfl) (lenOf (by decide +kernel : parseMethodDescriptor "(Ljava/lang/Object;)Z" = some ⟨[(.object "java/lang/Object")], (some .boolean)⟩) rfl) (nle rfl) (nle rfl) (nle rfl) (fun _ _ _ q => q.2) ?_
      rintro _ T129 _ _ N130 ⟨⟨rfl, e_h⟩, -⟩; rw [e_h] at N130; clear e_h
      show Ends p e below _ T129 (mkF m 134 #[.val (.int i0), .val (.int i1), .val (.int i2), .val (.int i3), .val (.long i4), .second, .val (.int i5), .val (.int (f_par i0 i2)), .val (.int (f_par i1 i3)), .val (.ref a13), .val (.ref a69), .val (.ref a76), .val (.int (i5 &&& (3 : Int32))), .unset] [(.int (0 : Int32))])
      refine Ends.go (f' := (mkF m 137 #[.val (.int i0), .val (.int i1), .val (.int i2), .val (.int i3), .val (.long i4), .second, .val (.int i5), .val (.int (f_par i0 i2)), .val (.int (f_par i1 i3)), .val (.ref a13), .val (.ref a69), .val (.ref a76), .val (.int (i5 &&& (3 : Int32))), .unset] [])) (fun t k => XS.ifNo N130.here hx rfl (hb hby at_134) rfl (XT.i0_ne_f (by decide)) k) ?_
      refine Ends.go (f' := (mkF m 138 #[.val (.int i0), .val (.int i1), .val (.int i2), .val (.int i3), .val (.long i4), .second, .val (.int i5), .val (.int (f_par i0 i2)), .val (.int (f_par i1 i3)), .val (.ref a13), .val (.ref a69), .val (.ref a76), .val (.int (i5 &&& (3 : Int32))), .unset] [(.int (1 : Int32))])) (fun t k => XS.iconst N130.here hx rfl (hb hby at_137) k) ?_
      refine Ends.go (f' := (mkF m 142 #[.val (.int i0), .val (.int i1), .val (.int i2), .val (.int i3), .val (.long i4), .second, .val (.int i5), .val (.int (f_par i0 i2)), .val (.int (f_par i1 i3)), .val (.ref a13), .val (.ref a69), .val (.ref a76), .val (.int (i5 &&& (3 : Int32))), .unset] [(.int (1 : Int32))])) (fun t k => XS.goto N130.here hx rfl (pc0 := 138) (pc' := 142) rfl (hb hby at_138) (by decide) (by decide) k) ?_
      exact retZW N130 hZ (elw hw) wd122 hx hlk hret (by simp) (hb hby at_142) rfl (nle rfl) (nle rfl)
    · refine Ends.go (f' := (mkF m 143 #[.val (.int i0), .val (.int i1), .val (.int i2), .val (.int i3), .val (.long i4), .second, .val (.int i5), .val (.int (f_par i0 i2)), .val (.int (f_par i1 i3)), .val (.ref a13), .val (.ref a69), .val (.ref a76), .val (.int (i5 &&& (3 : Int32))), .unset] [])) (fun t k => XS.icmpYes N121.here hx rfl (pc0 := 124) (pc' := 143) rfl (hb hby at_124) rfl (XT.ii_ne_t k3) (by decide) (by decide) k) ?_
      refine Ends.go (f' := (mkF m 144 #[.val (.int i0), .val (.int i1), .val (.int i2), .val (.int i3), .val (.long i4), .second, .val (.int i5), .val (.int (f_par i0 i2)), .val (.int (f_par i1 i3)), .val (.ref a13), .val (.ref a69), .val (.ref a76), .val (.int (i5 &&& (3 : Int32))), .unset] [(.int i0)])) (fun t k => XS.iloadN N121.here hx rfl (hb hby at_143) rfl k) ?_
      refine Ends.go (f' := (mkF m 146 #[.val (.int i0), .val (.int i1), .val (.int i2), .val (.int i3), .val (.long i4), .second, .val (.int i5), .val (.int (f_par i0 i2)), .val (.int (f_par i1 i3)), .val (.ref a13), .val (.ref a69), .val (.ref a76), .val (.int (i5 &&& (3 : Int32))), .unset] [(.int (f_par i0 i2)), (.int i0)])) (fun t k => XS.iload N121.here hx rfl (hb hby at_144) rfl k) ?_
      suffices J3 : ∀ (ex : Int32) (T3 : State), Now p l e room_1 (s.setVm vm118) m #[(.int i0), (.int i1), (.int i2), (.int i3), (.long i4), (.int i5)] below meth c Z T3 h120 (0 + 1 + 3 + 3 + 3 + 4 + 3 + 1 + 3 + 3 + 4) (0 + 3 + 8 + 8 + 8 + 68 + 8 + 3 + 8 + 8 + 68) → ex = (if txt i0 = txt (f_par i0 i2) ∧ txt i1 = txt (f_par i1 i3) then (1 : Int32) else (0 : Int32)) → Ends p e below (PhiW Z s ownEL (fun v _ => v = some (.int 1)) room_1.cells room_1.slots) T3 (mkF m 166 #[.val (.int i0), .val (.int i1), .val (.int i2), .val (.int i3), .val (.long i4), .second, .val (.int i5), .val (.int (f_par i0 i2)), .val (.int (f_par i1 i3)), .val (.ref a13), .val (.ref a69), .val (.ref a76), .val (.int (i5 &&& (3 : Int32))), .unset] [(.int ex)]) by
        refine gStatic (W := 0) (argsL := [(.int i0), (.int (f_par i0 i2))]) (rest := []) N121 hx hZ hown (hw _ (List.mem_of_getElem? (i := 121) rfl)) (hw _ (List.mem_of_getElem? (i := 122) rfl)) (hw _ (List.mem_of_getElem? (i := 2) rfl)) (hw _ (List.mem_of_getElem? (i := 123) rfl)) (by decide) ((rm25 l Z a0 hw i0 (f_par i0 i2) h120 N121.ext).back (W := 0) hZ (hw _ (List.mem_of_getElem? (i := 123) rfl)) (hw _ (List.mem_of_getElem? (i := 2) rfl)) (nle rfl) (nle rfl)) (hb hby at_146) rfl (by rw [hml]; rfl) (lenOf (by decide +kernel : parseMethodDescriptor "(II)Z" = some ⟨[.int, .int], (some .boolean)⟩) rfl) (nle rfl) (nle rfl) (nle rfl) (fun _ _ _ q => q.2) ?_
        rintro _ T131 _ _ N132 ⟨⟨rfl, e_h⟩, -⟩; rw [e_h] at N132; clear e_h
        show Ends p e below _ T131 (mkF m 149 #[.val (.int i0), .val (.int i1), .val (.int i2), .val (.int i3), .val (.long i4), .second, .val (.int i5), .val (.int (f_par i0 i2)), .val (.int (f_par i1 i3)), .val (.ref a13), .val (.ref a69), .val (.ref a76), .val (.int (i5 &&& (3 : Int32))), .unset] [(.int (f_same i0 (f_par i0 i2)))])
        by_cases c1 : f_same i0 (f_par i0 i2) = 0
        · refine Ends.go (f' := (mkF m 165 #[.val (.int i0), .val (.int i1), .val (.int i2), .val (.int i3), .val (.long i4), .second, .val (.int i5), .val (.int (f_par i0 i2)), .val (.int (f_par i1 i3)), .val (.ref a13), .val (.ref a69), .val (.ref a76), .val (.int (i5 &&& (3 : Int32))), .unset] [])) (fun t k => XS.ifYes N132.here hx rfl (pc0 := 149) (pc' := 165) rfl (hb hby at_149) rfl (XT.i0_eq_t c1) (by decide) (by decide) k) ?_
          refine Ends.go (f' := (mkF m 166 #[.val (.int i0), .val (.int i1), .val (.int i2), .val (.int i3), .val (.long i4), .second, .val (.int i5), .val (.int (f_par i0 i2)), .val (.int (f_par i1 i3)), .val (.ref a13), .val (.ref a69), .val (.ref a76), .val (.int (i5 &&& (3 : Int32))), .unset] [(.int (0 : Int32))])) (fun t k => XS.iconst N132.here hx rfl (hb hby at_165) k) ?_
          exact J3 _ T131 N132 (by rw [if_neg (fun q => (same_iff _ _).mpr q.1 c1)])
        · refine Ends.go (f' := (mkF m 152 #[.val (.int i0), .val (.int i1), .val (.int i2), .val (.int i3), .val (.long i4), .second, .val (.int i5), .val (.int (f_par i0 i2)), .val (.int (f_par i1 i3)), .val (.ref a13), .val (.ref a69), .val (.ref a76), .val (.int (i5 &&& (3 : Int32))), .unset] [])) (fun t k => XS.ifNo N132.here hx rfl (hb hby at_149) rfl (XT.i0_eq_f c1) k) ?_
          refine Ends.go (f' := (mkF m 153 #[.val (.int i0), .val (.int i1), .val (.int i2), .val (.int i3), .val (.long i4), .second, .val (.int i5), .val (.int (f_par i0 i2)), .val (.int (f_par i1 i3)), .val (.ref a13), .val (.ref a69), .val (.ref a76), .val (.int (i5 &&& (3 : Int32))), .unset] [(.int i1)])) (fun t k => XS.iloadN N132.here hx rfl (hb hby at_152) rfl k) ?_
          refine Ends.go (f' := (mkF m 155 #[.val (.int i0), .val (.int i1), .val (.int i2), .val (.int i3), .val (.long i4), .second, .val (.int i5), .val (.int (f_par i0 i2)), .val (.int (f_par i1 i3)), .val (.ref a13), .val (.ref a69), .val (.ref a76), .val (.int (i5 &&& (3 : Int32))), .unset] [(.int (f_par i1 i3)), (.int i1)])) (fun t k => XS.iload N132.here hx rfl (hb hby at_153) rfl k) ?_
          refine gStatic (W := 0) (argsL := [(.int i1), (.int (f_par i1 i3))]) (rest := []) N132 hx hZ hown (hw _ (List.mem_of_getElem? (i := 121) rfl)) (hw _ (List.mem_of_getElem? (i := 122) rfl)) (hw _ (List.mem_of_getElem? (i := 2) rfl)) (hw _ (List.mem_of_getElem? (i := 123) rfl)) (by decide) ((rm25 l Z a0 hw i1 (f_par i1 i3) h120 N132.ext).back (W := 0) hZ (hw _ (List.mem_of_getElem? (i := 123) rfl)) (hw _ (List.mem_of_getElem? (i := 2) rfl)) (nle rfl) (nle rfl)) (hb hby at_155) rfl (by rw [hml]; rfl) (lenOf (by decide +kernel : parseMethodDescriptor "(II)Z" = some ⟨[.int, .int], (some .boolean)⟩) rfl) (nle rfl) (nle rfl) (nle rfl) (fun _ _ _ q => q.2) ?_
          rintro _ T136 _ _ N137 ⟨⟨rfl, e_h⟩, -⟩; rw [e_h] at N137; clear e_h
          show Ends p e below _ T136 (mkF m 158 #[.val (.int i0), .val (.int i1), .val (.int i2), .val (.int i3), .val (.long i4), .second, .val (.int i5), .val (.int (f_par i0 i2)), .val (.int (f_par i1 i3)), .val (.ref a13), .val (.ref a69), .val (.ref a76), .val (.int (i5 &&& (3 : Int32))), .unset] [(.int (f_same i1 (f_par i1 i3)))])
          by_cases c2 : f_same i1 (f_par i1 i3) = 0
          · refine Ends.go (f' := (mkF m 165 #[.val (.int i0), .val (.int i1), .val (.int i2), .val (.int i3), .val (.long i4), .second, .val (.int i5), .val (.int (f_par i0 i2)), .val (.int (f_par i1 i3)), .val (.ref a13), .val (.ref a69), .val (.ref a76), .val (.int (i5 &&& (3 : Int32))), .unset] [])) (fun t k => XS.ifYes N137.here hx rfl (pc0 := 158) (pc' := 165) rfl (hb hby at_158) rfl (XT.i0_eq_t c2) (by decide) (by decide) k) ?_
            refine Ends.go (f' := (mkF m 166 #[.val (.int i0), .val (.int i1), .val (.int i2), .val (.int i3), .val (.long i4), .second, .val (.int i5), .val (.int (f_par i0 i2)), .val (.int (f_par i1 i3)), .val (.ref a13), .val (.ref a69), .val (.ref a76), .val (.int (i5 &&& (3 : Int32))), .unset] [(.int (0 : Int32))])) (fun t k => XS.iconst N137.here hx rfl (hb hby at_165) k) ?_
            exact J3 _ T136 N137 (by rw [if_neg (fun q => (same_iff _ _).mpr q.2 c2)])
          · refine Ends.go (f' := (mkF m 161 #[.val (.int i0), .val (.int i1), .val (.int i2), .val (.int i3), .val (.long i4), .second, .val (.int i5), .val (.int (f_par i0 i2)), .val (.int (f_par i1 i3)), .val (.ref a13), .val (.ref a69), .val (.ref a76), .val (.int (i5 &&& (3 : Int32))), .unset] [])) (fun t k => XS.ifNo N137.here hx rfl (hb hby at_158) rfl (XT.i0_eq_f c2) k) ?_
            refine Ends.go (f' := (mkF m 162 #[.val (.int i0), .val (.int i1), .val (.int i2), .val (.int i3), .val (.long i4), .second, .val (.int i5), .val (.int (f_par i0 i2)), .val (.int (f_par i1 i3)), .val (.ref a13), .val (.ref a69), .val (.ref a76), .val (.int (i5 &&& (3 : Int32))), .unset] [(.int (1 : Int32))])) (fun t k => XS.iconst N137.here hx rfl (hb hby at_161) k) ?_
            refine Ends.go (f' := (mkF m 166 #[.val (.int i0), .val (.int i1), .val (.int i2), .val (.int i3), .val (.long i4), .second, .val (.int i5), .val (.int (f_par i0 i2)), .val (.int (f_par i1 i3)), .val (.ref a13), .val (.ref a69), .val (.ref a76), .val (.int (i5 &&& (3 : Int32))), .unset] [(.int (1 : Int32))])) (fun t k => XS.goto N137.here hx rfl (pc0 := 162) (pc' := 166) rfl (hb hby at_162) (by decide) (by decide) k) ?_
            exact J3 _ T136 N137 (by rw [if_pos ⟨(same_iff _ _).mp c1, (same_iff _ _).mp c2⟩])
      intro ex T3 N3 hex
      refine Ends.go (f' := (mkF m 168 #[.val (.int i0), .val (.int i1), .val (.int i2), .val (.int i3), .val (.long i4), .second, .val (.int i5), .val (.int (f_par i0 i2)), .val (.int (f_par i1 i3)), .val (.ref a13), .val (.ref a69), .val (.ref a76), .val (.int (i5 &&& (3 : Int32))), .val (.int ex)] [])) (fun t k => XS.istore N3.here hx rfl (hb hby at_166) rfl (l' := #[.val (.int i0), .val (.int i1), .val (.int i2), .val (.int i3), .val (.long i4), .second, .val (.int i5), .val (.int (f_par i0 i2)), .val (.int (f_par i1 i3)), .val (.ref a13), .val (.ref a69), .val (.ref a76), .val (.int (i5 &&& (3 : Int32))), .val (.int ex)]) rfl k) ?_
      refine Ends.go (f' := (mkF m 170 #[.val (.int i0), .val (.int i1), .val (.int i2), .val (.int i3), .val (.long i4), .second, .val (.int i5), .val (.int (f_par i0 i2)), .val (.int (f_par i1 i3)), .val (.ref a13), .val (.ref a69), .val (.ref a76), .val (.int (i5 &&& (3 : Int32))), .val (.int ex)] [(.ref a13)])) (fun t k => XS.aload N3.here hx rfl (hb hby at_168) rfl rfl k) ?_
      refine Ends.go (f' := (mkF m 172 #[.val (.int i0), .val (.int i1), .val (.int i2), .val (.int i3), .val (.long i4), .second, .val (.int i5), .val (.int (f_par i0 i2)), .val (.int (f_par i1 i3)), .val (.ref a13), .val (.ref a69), .val (.ref a76), .val (.int (i5 &&& (3 : Int32))), .val (.int ex)] [(.ref a76), (.ref a13)])) (fun t k => XS.aload N3.here hx rfl (hb hby at_170) rfl rfl k) ?_
      refine gVirtual (W := 0) (y := (⟨"com/example/acre/acre/model/CodedValue", "equals", "(Ljava/lang/Object;)Z"⟩ : MethodName)) (z := (⟨"com/example/acre/acre/model/CodedValue", "equals", "(Ljava/lang/Object;)Z"⟩ : MethodName)) (C := "com/example/acre/acre/model/CodedValue") (b := a13) (argsL := [(.ref a76)]) (rest := []) N3 hx hZ hown (hw _ (List.mem_of_getElem? (i := 116) rfl)) (hw _ (List.mem_of_getElem? (i := 117) rfl)) (hw _ (List.mem_of_getElem? (i := 119) rfl)) (hw _ (List.mem_of_getElem? (i := 118) rfl)) (by decide) (notFace_of_selects (args := #[]) (mvT hZ (hw _ (List.mem_of_getElem? (i := 119) rfl)))) U1.1 ((rmEqCV l Z a0 hw a13 a76 (txt i0) (txt i1) (txt (f_par i0 i2)) (txt (f_par i1 i3)) h120 N3.ext G U1 U2).back (W := 0) hZ (hw _ (List.mem_of_getElem? (i := 120) rfl)) (hw _ (List.mem_of_getElem? (i := 6) rfl)) (nle rfl) (nle rfl)) (hb hby at_172) rfl (by rw [hml]; rfl) (lenOf (by decide +kernel : parseMethodDescriptor "(Ljava/lang/Object;)Z" = some ⟨[(.object "java/lang/Object")], (some .boolean)⟩) rfl) (nle rfl) (nle rfl) (nle rfl) (fun _ _ _ q => q.2) ?_
      rintro _ T141 _ _ N142 ⟨⟨rfl, e_h⟩, -⟩; rw [e_h] at N142; clear e_h
      show Ends p e below _ T141 (mkF m 175 #[.val (.int i0), .val (.int i1), .val (.int i2), .val (.int i3), .val (.long i4), .second, .val (.int i5), .val (.int (f_par i0 i2)), .val (.int (f_par i1 i3)), .val (.ref a13), .val (.ref a69), .val (.ref a76), .val (.int (i5 &&& (3 : Int32))), .val (.int ex)] [(.int (if txt i0 = txt (f_par i0 i2) ∧ txt i1 = txt (f_par i1 i3) then (1 : Int32) else (0 : Int32)))])
      refine Ends.go (f' := (mkF m 177 #[.val (.int i0), .val (.int i1), .val (.int i2), .val (.int i3), .val (.long i4), .second, .val (.int i5), .val (.int (f_par i0 i2)), .val (.int (f_par i1 i3)), .val (.ref a13), .val (.ref a69), .val (.ref a76), .val (.int (i5 &&& (3 : Int32))), .val (.int ex)] [(.int ex), (.int (if txt i0 = txt (f_par i0 i2) ∧ txt i1 = txt (f_par i1 i3) then (1 : Int32) else (0 : Int32)))])) (fun t k => XS.iload N142.here hx rfl (hb hby at_175) rfl k) ?_
      refine Ends.go (f' := (mkF m 180 #[.val (.int i0), .val (.int i1), .val (.int i2), .val (.int i3), .val (.long i4), .second, .val (.int i5), .val (.int (f_par i0 i2)), .val (.int (f_par i1 i3)), .val (.ref a13), .val (.ref a69), .val (.ref a76), .val (.int (i5 &&& (3 : Int32))), .val (.int ex)] [])) (fun t k => XS.icmpNo N142.here hx rfl (hb hby at_177) rfl (XT.ii_ne_f (by rw [hex])) k) ?_
      refine Ends.go (f' := (mkF m 182 #[.val (.int i0), .val (.int i1), .val (.int i2), .val (.int i3), .val (.long i4), .second, .val (.int i5), .val (.int (f_par i0 i2)), .val (.int (f_par i1 i3)), .val (.ref a13), .val (.ref a69), .val (.ref a76), .val (.int (i5 &&& (3 : Int32))), .val (.int ex)] [(.ref a76)])) (fun t k => XS.aload N142.here hx rfl (hb hby at_180) rfl rfl k) ?_
      refine Ends.go (f' := (mkF m 184 #[.val (.int i0), .val (.int i1), .val (.int i2), .val (.int i3), .val (.long i4), .second, .val (.int i5), .val (.int (f_par i0 i2)), .val (.int (f_par i1 i3)), .val (.ref a13), .val (.ref a69), .val (.ref a76), .val (.int (i5 &&& (3 : Int32))), .val (.int ex)] [(.ref a13), (.ref a76)])) (fun t k => XS.aload N142.here hx rfl (hb hby at_182) rfl rfl k) ?_
      refine gVirtual (W := 0) (y := (⟨"com/example/acre/acre/model/CodedValue", "equals", "(Ljava/lang/Object;)Z"⟩ : MethodName)) (z := (⟨"com/example/acre/acre/model/CodedValue", "equals", "(Ljava/lang/Object;)Z"⟩ : MethodName)) (C := "com/example/acre/acre/model/CodedValue") (b := a76) (argsL := [(.ref a13)]) (rest := []) N142 hx hZ hown (hw _ (List.mem_of_getElem? (i := 116) rfl)) (hw _ (List.mem_of_getElem? (i := 117) rfl)) (hw _ (List.mem_of_getElem? (i := 119) rfl)) (hw _ (List.mem_of_getElem? (i := 118) rfl)) (by decide) (notFace_of_selects (args := #[]) (mvT hZ (hw _ (List.mem_of_getElem? (i := 119) rfl)))) U2.1 ((rmEqCV l Z a0 hw a76 a13 (txt (f_par i0 i2)) (txt (f_par i1 i3)) (txt i0) (txt i1) h120 N142.ext G U2 U1).back (W := 0) hZ (hw _ (List.mem_of_getElem? (i := 120) rfl)) (hw _ (List.mem_of_getElem? (i := 6) rfl)) (nle rfl) (nle rfl)) (hb hby at_184) rfl (by rw [hml]; rfl) (lenOf (by decide +kernel : parseMethodDescriptor "(Ljava/lang/Object;)Z" = some ⟨[(.object "java/lang/Object")], (some .boolean)⟩) rfl) (nle rfl) (nle rfl) (nle rfl) (fun _ _ _ q => q.2) ?_
      rintro _ T143 _ _ N144 ⟨⟨rfl, e_h⟩, -⟩; rw [e_h] at N144; clear e_h
      show Ends p e below _ T143 (mkF m 187 #[.val (.int i0), .val (.int i1), .val (.int i2), .val (.int i3), .val (.long i4), .second, .val (.int i5), .val (.int (f_par i0 i2)), .val (.int (f_par i1 i3)), .val (.ref a13), .val (.ref a69), .val (.ref a76), .val (.int (i5 &&& (3 : Int32))), .val (.int ex)] [(.int (if txt (f_par i0 i2) = txt i0 ∧ txt (f_par i1 i3) = txt i1 then (1 : Int32) else (0 : Int32)))])
      refine Ends.go (f' := (mkF m 189 #[.val (.int i0), .val (.int i1), .val (.int i2), .val (.int i3), .val (.long i4), .second, .val (.int i5), .val (.int (f_par i0 i2)), .val (.int (f_par i1 i3)), .val (.ref a13), .val (.ref a69), .val (.ref a76), .val (.int (i5 &&& (3 : Int32))), .val (.int ex)] [(.int ex), (.int (if txt (f_par i0 i2) = txt i0 ∧ txt (f_par i1 i3) = txt i1 then (1 : Int32) else (0 : Int32)))])) (fun t k => XS.iload N144.here hx rfl (hb hby at_187) rfl k) ?_
      refine Ends.go (f' := (mkF m 192 #[.val (.int i0), .val (.int i1), .val (.int i2), .val (.int i3), .val (.long i4), .second, .val (.int i5), .val (.int (f_par i0 i2)), .val (.int (f_par i1 i3)), .val (.ref a13), .val (.ref a69), .val (.ref a76), .val (.int (i5 &&& (3 : Int32))), .val (.int ex)] [])) (fun t k => XS.icmpNo N144.here hx rfl (hb hby at_189) rfl (XT.ii_ne_f (by rw [hex]; simp only [eq_comm])) k) ?_
      refine Ends.go (f' := (mkF m 194 #[.val (.int i0), .val (.int i1), .val (.int i2), .val (.int i3), .val (.long i4), .second, .val (.int i5), .val (.int (f_par i0 i2)), .val (.int (f_par i1 i3)), .val (.ref a13), .val (.ref a69), .val (.ref a76), .val (.int (i5 &&& (3 : Int32))), .val (.int ex)] [(.ref a13)])) (fun t k => XS.aload N144.here hx rfl (hb hby at_192) rfl rfl k) ?_
      refine Ends.go (f' := (mkF m 196 #[.val (.int i0), .val (.int i1), .val (.int i2), .val (.int i3), .val (.long i4), .second, .val (.int i5), .val (.int (f_par i0 i2)), .val (.int (f_par i1 i3)), .val (.ref a13), .val (.ref a69), .val (.ref a76), .val (.int (i5 &&& (3 : Int32))), .val (.int ex)] [(.ref a13), (.ref a13)])) (fun t k => XS.aload N144.here hx rfl (hb hby at_194) rfl rfl k) ?_
      refine gVirtual (W := 0) (y := (⟨"com/example/acre/acre/model/CodedValue", "equals", "(Ljava/lang/Object;)Z"⟩ : MethodName)) (z := (⟨"com/example/acre/acre/model/CodedValue", "equals", "(Ljava/lang/Object;)Z"⟩ : MethodName)) (C := "com/example/acre/acre/model/CodedValue") (b := a13) (argsL := [(.ref a13)]) (rest := []) N144 hx hZ hown (hw _ (List.mem_of_getElem? (i := 116) rfl)) (hw _ (List.mem_of_getElem? (i := 117) rfl)) (hw _ (List.mem_of_getElem? (i := 119) rfl)) (hw _ (List.mem_of_getElem? (i := 118) rfl)) (by decide) (notFace_of_selects (args := #[]) (mvT hZ (hw _ (List.mem_of_getElem? (i := 119) rfl)))) U1.1 ((rmEqCV l Z a0 hw a13 a13 (txt i0) (txt i1) (txt i0) (txt i1) h120 N144.ext G U1 U1).back (W := 0) hZ (hw _ (List.mem_of_getElem? (i := 120) rfl)) (hw _ (List.mem_of_getElem? (i := 6) rfl)) (nle rfl) (nle rfl)) (hb hby at_196) rfl (by rw [hml]; rfl) (lenOf (by decide +kernel : parseMethodDescriptor "(Ljava/lang/Object;)Z" = some ⟨[(.object "java/lang/Object")], (some .boolean)⟩) rfl) (nle rfl) (nle rfl) (nle rfl) (fun _ _ _ q => q.2) ?_
      rintro _ T145 _ _ N146 ⟨⟨rfl, e_h⟩, -⟩; rw [e_h] at N146; clear e_h
      show Ends p e below _ T145 (mkF m 199 #[.val (.int i0), .val (.int i1), .val (.int i2), .val (.int i3), .val (.long i4), .second, .val (.int i5), .val (.int (f_par i0 i2)), .val (.int (f_par i1 i3)), .val (.ref a13), .val (.ref a69), .val (.ref a76), .val (.int (i5 &&& (3 : Int32))), .val (.int ex)] [(.int (if txt i0 = txt i0 ∧ txt i1 = txt i1 then (1 : Int32) else (0 : Int32)))])
      rw [if_pos (⟨rfl, rfl⟩ : txt i0 = txt i0 ∧ txt i1 = txt i1)]
      refine Ends.go (f' := (mkF m 202 #[.val (.int i0), .val (.int i1), .val (.int i2), .val (.int i3), .val (.long i4), .second, .val (.int i5), .val (.int (f_par i0 i2)), .val (.int (f_par i1 i3)), .val (.ref a13), .val (.ref a69), .val (.ref a76), .val (.int (i5 &&& (3 : Int32))), .val (.int ex)] [])) (fun t k => XS.ifNo N146.here hx rfl (hb hby at_199) rfl (XT.i0_eq_f (by decide)) k) ?_
      refine Ends.go (f' := (mkF m 203 #[.val (.int i0), .val (.int i1), .val (.int i2), .val (.int i3), .val (.long i4), .second, .val (.int i5), .val (.int (f_par i0 i2)), .val (.int (f_par i1 i3)), .val (.ref a13), .val (.ref a69), .val (.ref a76), .val (.int (i5 &&& (3 : Int32))), .val (.int ex)] [(.int (1 : Int32))])) (fun t k => XS.iconst N146.here hx rfl (hb hby at_202) k) ?_
      refine Ends.go (f' := (mkF m 207 #[.val (.int i0), .val (.int i1), .val (.int i2), .val (.int i3), .val (.long i4), .second, .val (.int i5), .val (.int (f_par i0 i2)), .val (.int (f_par i1 i3)), .val (.ref a13), .val (.ref a69), .val (.ref a76), .val (.int (i5 &&& (3 : Int32))), .val (.int ex)] [(.int (1 : Int32))])) (fun t k => XS.goto N146.here hx rfl (pc0 := 203) (pc' := 207) rfl (hb hby at_203) (by decide) (by decide) k) ?_
      exact retZW N146 hZ (elw hw) wd122 hx hlk hret (by simp) (hb hby at_207) rfl (nle rfl) (nle rfl)
set_option maxRecDepth 65536 in
set_option maxHeartbeats 40000000 in
theorem comes_1 {Post : Tables → Env → Array Value → State → Outcome → State → Prop} (hpost : ∀ tb e args s v u, (limb_1_1.after args s (.returned v) u = true ∧ limb_1_2.after args s (.returned v) u = true ∧ True) → ReturnedEndW s (.returned v) u (Jvm.fieldLocs frame_1_writes args s ++ Jvm.arrayLocs frame_1_arrays args s ++ Jvm.staticLocs frame_1_statics s) 56 2240 → Post tb e args s (.returned v) u) :
    ArmFor flags0 classFile x code maxLocals ret World_1 tables_1 room_1 Calls_1 rest_1 Pre_1 Post := by
  intro l hfl _ _ p e ha hc hk s m args below hf hA hF happ hP
  obtain ⟨hcalls, hrest, hpre⟩ := hP
  obtain ⟨-, -, -, hnamed, -, -, -, hat⟩ := (Spec.applies_iff hf).mp happ
  obtain ⟨hg, hn⟩ := and_e (Cond.before_iff.mp (show (Jvm.Cond.and given_1 narrow_1).before args s = true from hpre))
  obtain ⟨hct, hg0⟩ := and_e hg
  obtain ⟨ha0, hg1⟩ := and_e hg0
  obtain ⟨ha1, hg2⟩ := and_e hg1
  obtain ⟨ha2, hg3⟩ := and_e hg2
  obtain ⟨ha3, hg4⟩ := and_e hg3
  obtain ⟨ha4, hg5⟩ := and_e hg4
  obtain ⟨w0, w1, w2, w3, w4, w5, rfl⟩ : ∃ w0 w1 w2 w3 w4 w5 : Value, args = #[w0, w1, w2, w3, w4, w5] := by
    have hs : args.size = 6 := by simpa [Cond.value, given_1] using hct
    obtain ⟨L⟩ := args
    match L, hs with
    | [w0, w1, w2, w3, w4, w5], _ => exact ⟨w0, w1, w2, w3, w4, w5, rfl⟩
  have hw := fun d (hd : d ∈ tables_1) => atoms_spec (ws := Jvm.Cond.code x code maxLocals ret :: tables_1) hat d (List.mem_cons_of_mem _ hd)
  obtain ⟨hsets, hown0⟩ := atoms_of _ (rest_1_c_eq ▸ (show rest_1_c.before _ s = true from hrest))
  have hfit : Fit s := fun {y c} hc i hi => by
    obtain ⟨ha, rfl⟩ := Array.getElem?_eq_some_iff.mp hc
    have q := List.all_eq_true.mp ((Array.all_eq_true_iff_forall_mem.mp hF) _ (Array.getElem_mem ha)) i (List.mem_range.mpr hi)
    simpa [Array.getElem?_eq_getElem hi] using q
  obtain ⟨i0, ei0⟩ := is_v ha0
  obtain rfl : w0 = (.int i0) := Option.some.inj ei0
  obtain ⟨i1, ei1⟩ := is_v ha1
  obtain rfl : w1 = (.int i1) := Option.some.inj ei1
  obtain ⟨i2, ei2⟩ := is_v ha2
  obtain rfl : w2 = (.int i2) := Option.some.inj ei2
  obtain ⟨i3, ei3⟩ := is_v ha3
  obtain rfl : w3 = (.int i3) := Option.some.inj ei3
  obtain ⟨i4, ei4⟩ := isL_v ha4
  obtain rfl : w4 = (.long i4) := Option.some.inj ei4
  obtain ⟨i5, ei5⟩ := is_v hg5
  obtain rfl : w5 = (.int i5) := Option.some.inj ei5
  have nz := not_v (Cond.before_iff.mp (hsets _ (List.mem_of_getElem? (i := 2) rfl)))
  obtain ⟨zc, ezc⟩ := is_v (Cond.before_iff.mp (hsets _ (List.mem_of_getElem? (i := 1) rfl)))
  have Sc : Sta s s.heap "java/lang/String" "COMPACT_STRINGS" "Z" (.int zc) := Sta.start ezc (Or.inl (hsets _ (List.mem_of_getElem? (i := 0) rfl)))
  obtain ⟨fm, efm, rfm⟩ := isR_v (Cond.before_iff.mp (hsets _ (List.mem_of_getElem? (i := 8) rfl)))
  have Sf : Sta s s.heap "jdk/internal/util/Preconditions" "SIOOBE_FORMATTER" "Ljava/util/function/BiFunction;" fm := Sta.start efm (Or.inl (hsets _ (List.mem_of_getElem? (i := 7) rfl)))
  have hz : ¬ (zc = (0 : Int32)) := gotF (Cond.eq_ints ezc (Term.int_eval (0))) nz
  have G : Jdk s := ⟨⟨zc, Sc, hz⟩, fm, Sf, rfm⟩
  have D : Cdl s := cdl_start hfit hsets
  obtain ⟨n, o, h1, h2, h3, _, L, rfl, ⟨rfl, N⟩, hq⟩ := rmLaw l s _ hw tables_1 i0 i1 i2 i3 i4 i5 s.heap (ext_refl _) G D p e ha hc hk s m _ below hf ((Spec.applies_iff_loose hf).mp happ).1 ⟨rfl, State.Warmed39.refl s, rfl, (fun _ hp => nomatch hp)⟩ trivial
  refine ⟨n, _, h1, h2, h3, hpost _ _ _ _ _ _ ⟨Cond.after_iff.mpr rfl, Cond.after_iff.mpr (eq_i res_at (Term.int_eval (1)) rfl), trivial⟩ ⟨hq.2.1, hq.2.2.1, hq.2.2.2.1, (hq.2.2.2.2.sift fun y hy => Or.inr (N y hy)).mono (by decide) (by decide)⟩⟩
theorem main_1_1 : Claimed_1_1 := comes_1 fun _ _ _ _ _ _ h hF => ⟨h.1, hF⟩
theorem main_1_2 : Claimed_1_2 := comes_1 fun _ _ _ _ _ _ h hF => ⟨h.2.1, hF⟩
end Jvm.Pilot.@@N@@
namespace Jvm.Pilot.@@N@@
open Jvm Jvm.ClassFile Sem Op Lib Jvm.Free Jvm.Stand Jvm.Pilot.@@N@@.Jvm.D
/-! MADE BY PROGRAM (witnessworld.py) out of the Statement's table words and the real class files: 23 classes; the members and pool entries that the words name. The judged class is class 1, her method 8. -/
namespace start1
open Jvm.ClassFile
def u (s : String) : CpInfo := .utf8 (stringToUtf16 s)
/-- a pool by its gaps: so many unusable entries, then the entry; so many at the end -/
def gap : Nat → List CpInfo → List CpInfo
  | 0, r => r
  | n + 1, r => .unusable :: gap n r
def poolList (es : List (Nat × CpInfo)) (last : Nat) : List CpInfo := es.foldr (fun e r => gap e.1 (e.2 :: r)) (gap last [])
def pool (es : List (Nat × CpInfo)) (last : Nat) : Array CpInfo := ⟨poolList es last⟩
def fileOf (pool : Array CpInfo) (this : Nat) (attrs : Array Attribute := #[]) (ms : Array MethodInfo := #[]) (fl : Nat := 33) (sup : Nat := 0) (ifs : Array Nat := #[]) (fds : Array FieldInfo := #[]) : ClassFile where
  minorVersion := 0
  majorVersion := 65
  constantPool := pool
  accessFlags := fl
  thisClass := this
  superClass := sup
  interfaces := ifs
  fields := fds
  methods := ms
  attributes := attrs
def plain (name : String) (sup : Option ClassId) : Class where
  name := name
  kind := .ordinary
  loader := none
  accessFlags := 33
  super := sup
  interfaces := #[]
  cf := none
  fields := #[]
  methods := #[]
  instanceTypes := #[]
  staticTypes := #[]
  resolved := #[]
  callSites := []
  init := .initialized
  statics := none
  mirror := none

def pool0 : Array CpInfo := pool [(5, u "<init>"), (0, u "()V"), (1, .class_ 10), (1, u "java/lang/Object")] 113

def k0c0 : Code := { maxStack := 0, maxLocals := 1, code := object_method_1_code, exceptionTable := #[], attributes := #[] }
def k0m0 : Method := { name := "<init>", desc := "()V", sig := { parameters := [], returnType := none }, accessFlags := 1, code := some k0c0 }
/-- java/lang/Object -/
def k0 : Class := { plain "java/lang/Object" none with
  accessFlags := 33
  interfaces := #[]
  cf := some (fileOf pool0 8 #[] #[{ accessFlags := 1, nameIndex := 5, descriptorIndex := 6, attributes := #[] }] 33 0 #[] #[])
  fields := #[]
  methods := #[k0m0]
  instanceTypes := #[]
  staticTypes := #[]
  resolved := Array.replicate 124 none
  statics := none }

def pool1 : Array CpInfo := pool [(2, .class_ 4), (1, u "java/lang/Object"), (0, u "<init>"), (0, u "()V"), (0, .methodref 8 9), (0, .class_ 10), (0, .nameAndType 11 12), (0, u "com/example/acre/acre/model/CodedValueEqualsPinLaw"), (0, u "len"), (0, u "(I)I"), (0, .class_ 14), (0, u "java/lang/String"), (0, .methodref 8 16), (0, .nameAndType 17 18), (0, u "firstChar"), (0, u "(I)C"), (0, .methodref 13 20), (0, .nameAndType 5 21), (0, u "([C)V"), (0, .methodref 8 23), (0, .nameAndType 24 18), (0, u "secondChar"), (0, .methodref 8 26), (0, .nameAndType 27 28), (0, u "partner"), (0, u "(II)I"), (0, .class_ 30), (0, u "com/example/acre/acre/model/CodedValue"), (0, .methodref 8 32), (0, .nameAndType 33 34), (0, u "text"), (0, u "(I)Ljava/lang/String;"), (0, .methodref 8 36), (0, .nameAndType 37 38), (0, u "label"), (0, u "(IZ)Ljava/lang/String;"), (0, .methodref 29 40), (0, .nameAndType 5 41), (0, u "(Ljava/lang/String;Ljava/lang/String;Ljava/lang/String;)V"), (0, .methodref 29 43), (0, .nameAndType 44 45), (0, u "equals"), (0, u "(Ljava/lang/Object;)Z"), (0, .methodref 8 47), (0, .nameAndType 48 49), (0, u "sameText"), (0, u "(II)Z"), (3, u "law"), (0, u "(IIIIJI)Z")] 2

def k1m0 : Method := { name := "<init>", desc := "()V", sig := { parameters := [], returnType := none }, accessFlags := 1, code := none }
def k1c1 : Code := { maxStack := 2, maxLocals := 2, code := method_2_code, exceptionTable := #[], attributes := #[] }
def k1m1 : Method := { name := "firstChar", desc := "(I)C", sig := { parameters := [.int], returnType := some .char }, accessFlags := 10, code := some k1c1 }
def k1c2 : Code := { maxStack := 2, maxLocals := 1, code := method_3_code, exceptionTable := #[], attributes := #[] }
def k1m2 : Method := { name := "secondChar", desc := "(I)C", sig := { parameters := [.int], returnType := some .char }, accessFlags := 10, code := some k1c2 }
def k1c3 : Code := { maxStack := 3, maxLocals := 1, code := method_4_code, exceptionTable := #[], attributes := #[] }
def k1m3 : Method := { name := "len", desc := "(I)I", sig := { parameters := [.int], returnType := some .int }, accessFlags := 10, code := some k1c3 }
def k1c4 : Code := { maxStack := 6, maxLocals := 1, code := method_5_code, exceptionTable := #[], attributes := #[] }
def k1m4 : Method := { name := "text", desc := "(I)Ljava/lang/String;", sig := { parameters := [.int], returnType := some (.object "java/lang/String") }, accessFlags := 10, code := some k1c4 }
def k1c5 : Code := { maxStack := 2, maxLocals := 2, code := method_6_code, exceptionTable := #[], attributes := #[] }
def k1m5 : Method := { name := "sameText", desc := "(II)Z", sig := { parameters := [.int, .int], returnType := some .boolean }, accessFlags := 10, code := some k1c5 }
def k1c6 : Code := { maxStack := 3, maxLocals := 2, code := method_7_code, exceptionTable := #[], attributes := #[] }
def k1m6 : Method := { name := "partner", desc := "(II)I", sig := { parameters := [.int, .int], returnType := some .int }, accessFlags := 10, code := some k1c6 }
def k1c7 : Code := { maxStack := 7, maxLocals := 2, code := method_8_code, exceptionTable := #[], attributes := #[] }
def k1m7 : Method := { name := "label", desc := "(IZ)Ljava/lang/String;", sig := { parameters := [.int, .boolean], returnType := some (.object "java/lang/String") }, accessFlags := 10, code := some k1c7 }
def k1c8 : Code := { maxStack := 7, maxLocals := 14, code := code, exceptionTable := #[], attributes := #[] }
def k1m8 : Method := { name := "law", desc := "(IIIIJI)Z", sig := { parameters := [.int, .int, .int, .int, .long, .int], returnType := some .boolean }, accessFlags := 9, code := some k1c8 }
/-- com/example/acre/acre/model/CodedValueEqualsPinLaw -/
def k1 : Class := { plain "com/example/acre/acre/model/CodedValueEqualsPinLaw" (some 0) with
  accessFlags := 49
  interfaces := #[]
  cf := some (fileOf pool1 8 #[] #[{ accessFlags := 1, nameIndex := 5, descriptorIndex := 6, attributes := #[] }, { accessFlags := 10, nameIndex := 17, descriptorIndex := 18, attributes := #[] }, { accessFlags := 10, nameIndex := 24, descriptorIndex := 18, attributes := #[] }, { accessFlags := 10, nameIndex := 11, descriptorIndex := 12, attributes := #[] }, { accessFlags := 10, nameIndex := 33, descriptorIndex := 34, attributes := #[] }, { accessFlags := 10, nameIndex := 48, descriptorIndex := 49, attributes := #[] }, { accessFlags := 10, nameIndex := 27, descriptorIndex := 28, attributes := #[] }, { accessFlags := 10, nameIndex := 37, descriptorIndex := 38, attributes := #[] }, { accessFlags := 9, nameIndex := 53, descriptorIndex := 54, attributes := #[] }] 49 2 #[] #[])
  fields := #[]
  methods := #[k1m0, k1m1, k1m2, k1m3, k1m4, k1m5, k1m6, k1m7, k1m8]
  instanceTypes := #[]
  staticTypes := #[]
  resolved := Array.replicate 57 none
  statics := none }

def pool2 : Array CpInfo := pool [(1, .methodref 2 3), (0, .class_ 4), (0, .nameAndType 5 6), (0, u "java/lang/Object"), (0, u "<init>"), (0, u "()V"), (0, .class_ 8), (0, u "java/lang/Record")] 13

def k2c0 : Code := { maxStack := 1, maxLocals := 1, code := jdk_30_method_1_code, exceptionTable := #[], attributes := #[] }
def k2m0 : Method := { name := "<init>", desc := "()V", sig := { parameters := [], returnType := none }, accessFlags := 4, code := some k2c0 }
/-- java/lang/Record -/
def k2 : Class := { plain "java/lang/Record" (some 0) with
  accessFlags := 1057
  interfaces := #[]
  cf := some (fileOf pool2 7 #[] #[{ accessFlags := 4, nameIndex := 5, descriptorIndex := 6, attributes := #[] }] 1057 2 #[] #[])
  fields := #[]
  methods := #[k2m0]
  instanceTypes := #[]
  staticTypes := #[]
  resolved := Array.replicate 22 none
  statics := none }

def pool3 : Array CpInfo := pool [(1, .methodref 2 3), (0, .class_ 4), (0, .nameAndType 5 6), (0, u "java/lang/Record"), (0, u "<init>"), (0, u "()V"), (0, .string 8), (0, u "code"), (0, .methodref 10 11), (0, .class_ 12), (0, .nameAndType 13 14), (0, u "com/example/acre/acre/model/CodedValue"), (0, u "requireText"), (0, u "(Ljava/lang/String;Ljava/lang/String;)V"), (0, .string 16), (0, u "code system"), (0, .fieldref 10 18), (0, .nameAndType 8 19), (0, u "Ljava/lang/String;"), (0, .fieldref 10 21), (0, .nameAndType 22 19), (0, u "codeSystem"), (0, .fieldref 10 24), (0, .nameAndType 25 19), (0, u "displayName"), (2, u "(Ljava/lang/String;Ljava/lang/String;Ljava/lang/String;)V"), (0, .methodref 30 31), (0, .class_ 32), (0, .nameAndType 33 34), (0, u "java/lang/String"), (0, u "equals"), (0, u "(Ljava/lang/Object;)Z"), (8, .methodref 30 44), (0, .nameAndType 45 46), (0, u "isBlank"), (0, u "()Z")] 57

def k3c0 : Code := { maxStack := 2, maxLocals := 4, code := prog_21_method_1_code, exceptionTable := #[], attributes := #[] }
def k3m0 : Method := { name := "<init>", desc := "(Ljava/lang/String;Ljava/lang/String;Ljava/lang/String;)V", sig := { parameters := [(.object "java/lang/String"), (.object "java/lang/String"), (.object "java/lang/String")], returnType := none }, accessFlags := 1, code := some k3c0 }
def k3c1 : Code := { maxStack := 2, maxLocals := 3, code := prog_21_method_3_code, exceptionTable := #[], attributes := #[] }
def k3m1 : Method := { name := "equals", desc := "(Ljava/lang/Object;)Z", sig := { parameters := [(.object "java/lang/Object")], returnType := some .boolean }, accessFlags := 1, code := some k3c1 }
def k3c2 : Code := { maxStack := 4, maxLocals := 2, code := prog_21_method_5_code, exceptionTable := #[], attributes := #[] }
def k3m2 : Method := { name := "requireText", desc := "(Ljava/lang/String;Ljava/lang/String;)V", sig := { parameters := [(.object "java/lang/String"), (.object "java/lang/String")], returnType := none }, accessFlags := 10, code := some k3c2 }
/-- com/example/acre/acre/model/CodedValue -/
def k3 : Class := { plain "com/example/acre/acre/model/CodedValue" (some 2) with
  accessFlags := 49
  interfaces := #[]
  cf := some (fileOf pool3 10 #[] #[{ accessFlags := 1, nameIndex := 5, descriptorIndex := 28, attributes := #[] }, { accessFlags := 1, nameIndex := 33, descriptorIndex := 34, attributes := #[] }, { accessFlags := 10, nameIndex := 13, descriptorIndex := 14, attributes := #[] }] 49 2 #[] #[{ accessFlags := 18, nameIndex := 8, descriptorIndex := 19, attributes := #[] }, { accessFlags := 18, nameIndex := 22, descriptorIndex := 19, attributes := #[] }, { accessFlags := 18, nameIndex := 25, descriptorIndex := 19, attributes := #[] }])
  fields := #[{ name := "code", type := (.object "java/lang/String"), accessFlags := 18, slot := 0, constantValue := 0 }, { name := "codeSystem", type := (.object "java/lang/String"), accessFlags := 18, slot := 1, constantValue := 0 }, { name := "displayName", type := (.object "java/lang/String"), accessFlags := 18, slot := 2, constantValue := 0 }]
  methods := #[k3m0, k3m1, k3m2]
  instanceTypes := #[(.object "java/lang/String"), (.object "java/lang/String"), (.object "java/lang/String")]
  staticTypes := #[]
  resolved := Array.replicate 104 none
  statics := none }

def pool4 : Array CpInfo := pool [(1, .class_ 2), (0, u "java/io/Serializable"), (0, .class_ 4), (0, u "java/lang/Object")] 2

/-- java/io/Serializable -/
def k4 : Class := { plain "java/io/Serializable" (some 0) with
  accessFlags := 1537
  interfaces := #[]
  cf := some (fileOf pool4 1 #[] #[] 1537 3 #[] #[])
  fields := #[]
  methods := #[]
  instanceTypes := #[]
  staticTypes := #[]
  resolved := Array.replicate 7 none
  statics := none }

def pool5 : Array CpInfo := pool [(1, .class_ 2), (0, u "java/lang/Comparable"), (0, .class_ 4), (0, u "java/lang/Object")] 7

/-- java/lang/Comparable -/
def k5 : Class := { plain "java/lang/Comparable" (some 0) with
  accessFlags := 1537
  interfaces := #[]
  cf := some (fileOf pool5 1 #[] #[] 1537 3 #[] #[])
  fields := #[]
  methods := #[]
  instanceTypes := #[]
  staticTypes := #[]
  resolved := Array.replicate 12 none
  statics := none }

def pool6 : Array CpInfo := pool [(2, .class_ 4), (1, u "java/lang/CharSequence"), (42, .class_ 48), (0, u "java/lang/CharSequence$1CodePointIterator"), (10, .class_ 60), (0, u "java/lang/CharSequence$1CharIterator"), (5, .class_ 67), (0, u "java/lang/Object")] 63

/-- java/lang/CharSequence -/
def k6 : Class := { plain "java/lang/CharSequence" (some 0) with
  accessFlags := 1537
  interfaces := #[]
  cf := some (fileOf pool6 2 #[.nestMembers #[47, 59]] #[] 1537 66 #[] #[])
  fields := #[]
  methods := #[]
  instanceTypes := #[]
  staticTypes := #[]
  resolved := Array.replicate 131 none
  statics := none }

def pool7 : Array CpInfo := pool [(1, .class_ 2), (0, u "java/lang/constant/Constable"), (0, .class_ 4), (0, u "java/lang/Object")] 6

/-- java/lang/constant/Constable -/
def k7 : Class := { plain "java/lang/constant/Constable" (some 0) with
  accessFlags := 1537
  interfaces := #[]
  cf := some (fileOf pool7 1 #[] #[] 1537 3 #[] #[])
  fields := #[]
  methods := #[]
  instanceTypes := #[]
  staticTypes := #[]
  resolved := Array.replicate 11 none
  statics := none }

def pool8 : Array CpInfo := pool [(1, .class_ 2), (0, u "java/lang/constant/ConstantDesc"), (0, .class_ 4), (0, u "java/lang/Object")] 32

/-- java/lang/constant/ConstantDesc -/
def k8 : Class := { plain "java/lang/constant/ConstantDesc" (some 0) with
  accessFlags := 1537
  interfaces := #[]
  cf := some (fileOf pool8 1 #[] #[] 1537 3 #[] #[])
  fields := #[]
  methods := #[]
  instanceTypes := #[]
  staticTypes := #[]
  resolved := Array.replicate 37 none
  statics := none }

def pool9 : Array CpInfo := pool [(1, .methodref 2 3), (0, .class_ 4), (0, .nameAndType 5 6), (0, u "java/lang/Object"), (0, u "<init>"), (0, u "()V"), (2, .fieldref 10 11), (0, .class_ 12), (0, .nameAndType 13 14), (0, u "java/lang/String"), (0, u "value"), (0, u "[B"), (0, .fieldref 10 16), (0, .nameAndType 17 18), (0, u "coder"), (0, u "B"), (2, u "hash"), (0, u "I"), (2, u "hashIsZero"), (0, u "Z"), (0, .methodref 10 28), (0, .nameAndType 5 29), (0, u "([CIILjava/lang/Void;)V"), (8, .fieldref 10 39), (0, .nameAndType 40 26), (0, u "COMPACT_STRINGS"), (1, .class_ 44), (1, u "java/lang/StringUTF16"), (0, u "compress"), (1, .methodref 42 48), (0, .nameAndType 49 50), (0, u "coderFromArrayLen"), (0, u "([BI)B"), (56, .class_ 109), (1, u "java/lang/StringLatin1"), (32, u "()Z"), (34, .methodref 42 178), (0, .nameAndType 45 179), (0, u "([CII)[B"), (154, u "()I"), (0, .methodref 10 336), (0, .nameAndType 17 337), (0, u "()B"), (154, .methodref 10 493), (0, .nameAndType 494 142), (0, u "isLatin1"), (10, .methodref 10 506), (0, .nameAndType 507 334), (0, u "length"), (33, .methodref 107 542), (0, .nameAndType 543 544), (0, u "equals"), (0, u "([B[B)Z"), (28, u "(Ljava/lang/Object;)Z"), (1, .class_ 576), (0, u "java/lang/CharSequence"), (22, u "CASE_INSENSITIVE_ORDER"), (0, u "Ljava/util/Comparator;"), (30, u "([B)I"), (244, .methodref 10 877), (0, .nameAndType 878 334), (0, u "indexOfNonWhitespace"), (45, .methodref 107 925), (0, .nameAndType 878 631), (26, u "isBlank"), (57, u "([C)V"), (90, u "serialPersistentFields"), (0, u "[Ljava/io/ObjectStreamField;"), (0, .class_ 1104), (0, u "java/lang/String$CaseInsensitiveComparator"), (1, .class_ 1107), (0, u "java/io/Serializable"), (0, .class_ 1109), (0, u "java/lang/Comparable"), (0, .class_ 1111), (0, u "java/lang/constant/Constable"), (0, .class_ 1113), (0, u "java/lang/constant/ConstantDesc"), (2, u "serialVersionUID"), (0, u "J"), (3, u "REPL"), (0, u "C"), (2, u "LATIN1"), (1, u "UTF16")] 323

def k9m0 : Method := { name := "<init>", desc := "()V", sig := { parameters := [], returnType := none }, accessFlags := 1, code := none }
def k9c1 : Code := { maxStack := 5, maxLocals := 2, code := jdk_42_method_3_code, exceptionTable := #[], attributes := #[] }
def k9m1 : Method := { name := "<init>", desc := "([C)V", sig := { parameters := [(.array .char)], returnType := none }, accessFlags := 1, code := some k9c1 }
def k9c2 : Code := { maxStack := 2, maxLocals := 1, code := jdk_42_method_54_code, exceptionTable := #[], attributes := #[] }
def k9m2 : Method := { name := "length", desc := "()I", sig := { parameters := [], returnType := some .int }, accessFlags := 1, code := some k9c2 }
def k9c3 : Code := { maxStack := 2, maxLocals := 3, code := jdk_42_method_66_code, exceptionTable := #[], attributes := #[] }
def k9m3 : Method := { name := "equals", desc := "(Ljava/lang/Object;)Z", sig := { parameters := [(.object "java/lang/Object")], returnType := some .boolean }, accessFlags := 1, code := some k9c3 }
def k9c4 : Code := { maxStack := 2, maxLocals := 1, code := jdk_42_method_117_code, exceptionTable := #[], attributes := #[] }
def k9m4 : Method := { name := "isBlank", desc := "()Z", sig := { parameters := [], returnType := some .boolean }, accessFlags := 1, code := some k9c4 }
def k9c5 : Code := { maxStack := 1, maxLocals := 1, code := jdk_42_method_120_code, exceptionTable := #[], attributes := #[] }
def k9m5 : Method := { name := "indexOfNonWhitespace", desc := "()I", sig := { parameters := [], returnType := some .int }, accessFlags := 2, code := some k9c5 }
def k9c6 : Code := { maxStack := 4, maxLocals := 6, code := jdk_42_method_149_code, exceptionTable := #[], attributes := #[] }
def k9m6 : Method := { name := "<init>", desc := "([CIILjava/lang/Void;)V", sig := { parameters := [(.array .char), .int, .int, (.object "java/lang/Void")], returnType := none }, accessFlags := 2, code := some k9c6 }
def k9c7 : Code := { maxStack := 1, maxLocals := 1, code := jdk_42_method_152_code, exceptionTable := #[], attributes := #[] }
def k9m7 : Method := { name := "coder", desc := "()B", sig := { parameters := [], returnType := some .byte }, accessFlags := 0, code := some k9c7 }
def k9c8 : Code := { maxStack := 1, maxLocals := 1, code := jdk_42_method_154_code, exceptionTable := #[], attributes := #[] }
def k9m8 : Method := { name := "isLatin1", desc := "()Z", sig := { parameters := [], returnType := some .boolean }, accessFlags := 0, code := some k9c8 }
/-- java/lang/String -/
def k9 : Class := { plain "java/lang/String" (some 0) with
  accessFlags := 49
  interfaces := #[4, 5, 6, 7, 8]
  cf := some (fileOf pool9 10 #[.nestMembers #[1103]] #[{ accessFlags := 1, nameIndex := 5, descriptorIndex := 6, attributes := #[] }, { accessFlags := 1, nameIndex := 5, descriptorIndex := 1010, attributes := #[] }, { accessFlags := 1, nameIndex := 507, descriptorIndex := 334, attributes := #[] }, { accessFlags := 1, nameIndex := 543, descriptorIndex := 573, attributes := #[] }, { accessFlags := 1, nameIndex := 952, descriptorIndex := 142, attributes := #[] }, { accessFlags := 2, nameIndex := 878, descriptorIndex := 334, attributes := #[] }, { accessFlags := 2, nameIndex := 5, descriptorIndex := 29, attributes := #[] }, { accessFlags := 0, nameIndex := 17, descriptorIndex := 337, attributes := #[] }, { accessFlags := 0, nameIndex := 494, descriptorIndex := 142, attributes := #[] }] 49 2 #[1106, 1108, 575, 1110, 1112] #[{ accessFlags := 18, nameIndex := 13, descriptorIndex := 14, attributes := #[] }, { accessFlags := 18, nameIndex := 17, descriptorIndex := 18, attributes := #[] }, { accessFlags := 2, nameIndex := 21, descriptorIndex := 22, attributes := #[] }, { accessFlags := 2, nameIndex := 25, descriptorIndex := 26, attributes := #[] }, { accessFlags := 26, nameIndex := 1116, descriptorIndex := 1117, attributes := #[] }, { accessFlags := 24, nameIndex := 40, descriptorIndex := 26, attributes := #[] }, { accessFlags := 26, nameIndex := 1101, descriptorIndex := 1102, attributes := #[] }, { accessFlags := 26, nameIndex := 1121, descriptorIndex := 1122, attributes := #[] }, { accessFlags := 25, nameIndex := 599, descriptorIndex := 600, attributes := #[] }, { accessFlags := 24, nameIndex := 1125, descriptorIndex := 18, attributes := #[] }, { accessFlags := 24, nameIndex := 1127, descriptorIndex := 18, attributes := #[] }])
  fields := #[{ name := "value", type := (.array .byte), accessFlags := 18, slot := 0, constantValue := 0 }, { name := "coder", type := .byte, accessFlags := 18, slot := 1, constantValue := 0 }, { name := "hash", type := .int, accessFlags := 2, slot := 2, constantValue := 0 }, { name := "hashIsZero", type := .boolean, accessFlags := 2, slot := 3, constantValue := 0 }, { name := "serialVersionUID", type := .long, accessFlags := 26, slot := 0, constantValue := 0 }, { name := "COMPACT_STRINGS", type := .boolean, accessFlags := 24, slot := 1, constantValue := 0 }, { name := "serialPersistentFields", type := (.array (.object "java/io/ObjectStreamField")), accessFlags := 26, slot := 2, constantValue := 0 }, { name := "REPL", type := .char, accessFlags := 26, slot := 3, constantValue := 0 }, { name := "CASE_INSENSITIVE_ORDER", type := (.object "java/util/Comparator"), accessFlags := 25, slot := 4, constantValue := 0 }, { name := "LATIN1", type := .byte, accessFlags := 24, slot := 5, constantValue := 0 }, { name := "UTF16", type := .byte, accessFlags := 24, slot := 6, constantValue := 0 }]
  methods := #[k9m0, k9m1, k9m2, k9m3, k9m4, k9m5, k9m6, k9m7, k9m8]
  instanceTypes := #[(.array .byte), .byte, .int, .boolean]
  staticTypes := #[.long, .boolean, (.array (.object "java/io/ObjectStreamField")), .char, (.object "java/util/Comparator"), .byte, .byte]
  resolved := Array.replicate 1451 none
  statics := some 0 }

def pool10 : Array CpInfo := pool [(6, .class_ 8), (1, u "java/lang/Object"), (0, u "<init>"), (0, u "()V"), (1, .class_ 14), (1, u "java/lang/StringUTF16"), (31, u "$assertionsDisabled"), (0, u "Z"), (13, u "HI_BYTE_SHIFT"), (0, u "I"), (2, u "LO_BYTE_SHIFT"), (49, .methodref 12 116), (0, .nameAndType 117 118), (0, u "compress"), (0, u "([CI[BII)I"), (3, u "([CII)[B"), (138, u "coderFromArrayLen"), (0, u "([BI)B"), (106, .class_ 371), (1, u "java/lang/StringUTF16$LinesSpliterator"), (58, u "MAX_LENGTH"), (196, .class_ 628), (0, u "java/lang/StringUTF16$CodePointsSpliterator"), (0, .class_ 630), (0, u "java/lang/StringUTF16$CharsSpliterator")] 4

def k10m0 : Method := { name := "<init>", desc := "()V", sig := { parameters := [], returnType := none }, accessFlags := 0, code := none }
def k10c1 : Code := { maxStack := 2, maxLocals := 2, code := jdk_52_method_15_code, exceptionTable := #[], attributes := #[] }
def k10m1 : Method := { name := "coderFromArrayLen", desc := "([BI)B", sig := { parameters := [(.array .byte), .int], returnType := some .byte }, accessFlags := 8, code := some k10c1 }
def k10c2 : Code := { maxStack := 5, maxLocals := 6, code := jdk_52_method_16_code, exceptionTable := #[], attributes := #[] }
def k10m2 : Method := { name := "compress", desc := "([CII)[B", sig := { parameters := [(.array .char), .int, .int], returnType := some (.array .byte) }, accessFlags := 9, code := some k10c2 }
def k10c3 : Code := { maxStack := 3, maxLocals := 7, code := jdk_52_method_21_code, exceptionTable := #[], attributes := #[] }
def k10m3 : Method := { name := "compress", desc := "([CI[BII)I", sig := { parameters := [(.array .char), .int, (.array .byte), .int, .int], returnType := some .int }, accessFlags := 9, code := some k10c3 }
/-- java/lang/StringUTF16 -/
def k10 : Class := { plain "java/lang/StringUTF16" (some 0) with
  accessFlags := 48
  interfaces := #[]
  cf := some (fileOf pool10 12 #[.nestMembers #[627, 629, 369]] #[{ accessFlags := 0, nameIndex := 9, descriptorIndex := 10, attributes := #[] }, { accessFlags := 8, nameIndex := 261, descriptorIndex := 262, attributes := #[] }, { accessFlags := 9, nameIndex := 117, descriptorIndex := 122, attributes := #[] }, { accessFlags := 9, nameIndex := 117, descriptorIndex := 118, attributes := #[] }] 48 6 #[] #[{ accessFlags := 26, nameIndex := 61, descriptorIndex := 62, attributes := #[] }, { accessFlags := 26, nameIndex := 65, descriptorIndex := 62, attributes := #[] }, { accessFlags := 24, nameIndex := 430, descriptorIndex := 62, attributes := #[] }, { accessFlags := 4120, nameIndex := 46, descriptorIndex := 47, attributes := #[] }])
  fields := #[{ name := "HI_BYTE_SHIFT", type := .int, accessFlags := 26, slot := 0, constantValue := 0 }, { name := "LO_BYTE_SHIFT", type := .int, accessFlags := 26, slot := 1, constantValue := 0 }, { name := "MAX_LENGTH", type := .int, accessFlags := 24, slot := 2, constantValue := 0 }, { name := "$assertionsDisabled", type := .boolean, accessFlags := 4120, slot := 3, constantValue := 0 }]
  methods := #[k10m0, k10m1, k10m2, k10m3]
  instanceTypes := #[]
  staticTypes := #[.int, .int, .int, .boolean]
  resolved := Array.replicate 635 none
  statics := none }

def pool11 : Array CpInfo := pool [(4, .class_ 6), (1, u "java/lang/Object"), (0, u "<init>"), (0, u "()V"), (5, .class_ 16), (1, u "java/lang/StringLatin1"), (33, .methodref 14 51), (0, .nameAndType 52 53), (0, u "getChar"), (0, u "([BI)C"), (3, u "([B)I"), (8, .fieldref 67 68), (0, .class_ 69), (0, .nameAndType 70 71), (0, u "java/lang/CharacterDataLatin1"), (0, u "instance"), (0, u "Ljava/lang/CharacterDataLatin1;"), (19, u "(I)Z"), (29, u "$assertionsDisabled"), (0, u "Z"), (88, .methodref 67 212), (0, .nameAndType 213 91), (0, u "isWhitespace"), (2, u "indexOfNonWhitespace"), (4, .class_ 223), (1, u "java/lang/StringLatin1$LinesSpliterator"), (57, u "equals"), (0, u "([B[B)Z"), (107, .class_ 391), (0, u "java/lang/StringLatin1$CharsSpliterator")] 3

def k11m0 : Method := { name := "<init>", desc := "()V", sig := { parameters := [], returnType := none }, accessFlags := 0, code := none }
def k11c1 : Code := { maxStack := 3, maxLocals := 3, code := jdk_43_method_13_code, exceptionTable := #[], attributes := #[] }
def k11m1 : Method := { name := "equals", desc := "([B[B)Z", sig := { parameters := [(.array .byte), (.array .byte)], returnType := some .boolean }, accessFlags := 9, code := some k11c1 }
def k11c2 : Code := { maxStack := 2, maxLocals := 4, code := jdk_43_method_37_code, exceptionTable := #[], attributes := #[] }
def k11m2 : Method := { name := "indexOfNonWhitespace", desc := "([B)I", sig := { parameters := [(.array .byte)], returnType := some .int }, accessFlags := 9, code := some k11c2 }
def k11c3 : Code := { maxStack := 2, maxLocals := 2, code := jdk_43_method_44_code, exceptionTable := #[], attributes := #[] }
def k11m3 : Method := { name := "getChar", desc := "([BI)C", sig := { parameters := [(.array .byte), .int], returnType := some .char }, accessFlags := 9, code := some k11c3 }
/-- java/lang/StringLatin1 -/
def k11 : Class := { plain "java/lang/StringLatin1" (some 0) with
  accessFlags := 48
  interfaces := #[]
  cf := some (fileOf pool11 14 #[.nestMembers #[390, 221]] #[{ accessFlags := 0, nameIndex := 7, descriptorIndex := 8, attributes := #[] }, { accessFlags := 9, nameIndex := 281, descriptorIndex := 282, attributes := #[] }, { accessFlags := 9, nameIndex := 216, descriptorIndex := 57, attributes := #[] }, { accessFlags := 9, nameIndex := 52, descriptorIndex := 53, attributes := #[] }] 48 4 #[] #[{ accessFlags := 4120, nameIndex := 121, descriptorIndex := 122, attributes := #[] }])
  fields := #[{ name := "$assertionsDisabled", type := .boolean, accessFlags := 4120, slot := 0, constantValue := 0 }]
  methods := #[k11m0, k11m1, k11m2, k11m3]
  instanceTypes := #[]
  staticTypes := #[.boolean]
  resolved := Array.replicate 395 none
  statics := none }

def pool12 : Array CpInfo := pool [(2, .class_ 4), (1, u "java/lang/Object"), (0, u "<init>"), (0, u "()V"), (1, .class_ 10), (1, u "java/lang/CharacterData")] 75

def k12m0 : Method := { name := "<init>", desc := "()V", sig := { parameters := [], returnType := none }, accessFlags := 0, code := none }
/-- java/lang/CharacterData -/
def k12 : Class := { plain "java/lang/CharacterData" (some 0) with
  accessFlags := 1056
  interfaces := #[]
  cf := some (fileOf pool12 8 #[] #[{ accessFlags := 0, nameIndex := 5, descriptorIndex := 6, attributes := #[] }] 1056 2 #[] #[])
  fields := #[]
  methods := #[k12m0]
  instanceTypes := #[]
  staticTypes := #[]
  resolved := Array.replicate 86 none
  statics := none }

def pool13 : Array CpInfo := pool [(1, .fieldref 2 3), (0, .class_ 4), (0, .nameAndType 5 6), (0, u "java/lang/CharacterDataLatin1"), (0, u "A"), (0, u "[I"), (2, u "B"), (0, u "[C"), (3, u "(I)I"), (0, .methodref 2 16), (0, .nameAndType 17 14), (0, u "getProperties"), (3, u "(I)Z"), (5, u "DIGITS"), (0, u "[B"), (8, u "sharpsMap"), (1, .class_ 41), (1, u "java/lang/CharacterData"), (0, u "<init>"), (0, u "()V"), (3, u "instance"), (0, u "Ljava/lang/CharacterDataLatin1;"), (78, u "isWhitespace")] 13

def k13c0 : Code := { maxStack := 2, maxLocals := 4, code := jdk_116_method_1_code, exceptionTable := #[], attributes := #[] }
def k13m0 : Method := { name := "getProperties", desc := "(I)I", sig := { parameters := [.int], returnType := some .int }, accessFlags := 0, code := some k13c0 }
def k13c1 : Code := { maxStack := 2, maxLocals := 3, code := jdk_116_method_26_code, exceptionTable := #[], attributes := #[] }
def k13m1 : Method := { name := "isWhitespace", desc := "(I)Z", sig := { parameters := [.int], returnType := some .boolean }, accessFlags := 0, code := some k13c1 }
def k13m2 : Method := { name := "<init>", desc := "()V", sig := { parameters := [], returnType := none }, accessFlags := 2, code := none }
/-- java/lang/CharacterDataLatin1 -/
def k13 : Class := { plain "java/lang/CharacterDataLatin1" (some 12) with
  accessFlags := 32
  interfaces := #[]
  cf := some (fileOf pool13 2 #[] #[{ accessFlags := 0, nameIndex := 17, descriptorIndex := 14, attributes := #[] }, { accessFlags := 0, nameIndex := 127, descriptorIndex := 21, attributes := #[] }, { accessFlags := 2, nameIndex := 42, descriptorIndex := 43, attributes := #[] }] 32 39 #[] #[{ accessFlags := 26, nameIndex := 27, descriptorIndex := 28, attributes := #[] }, { accessFlags := 8, nameIndex := 37, descriptorIndex := 10, attributes := #[] }, { accessFlags := 24, nameIndex := 47, descriptorIndex := 48, attributes := #[] }, { accessFlags := 24, nameIndex := 5, descriptorIndex := 6, attributes := #[] }, { accessFlags := 24, nameIndex := 9, descriptorIndex := 10, attributes := #[] }])
  fields := #[{ name := "DIGITS", type := (.array .byte), accessFlags := 26, slot := 0, constantValue := 0 }, { name := "sharpsMap", type := (.array .char), accessFlags := 8, slot := 1, constantValue := 0 }, { name := "instance", type := (.object "java/lang/CharacterDataLatin1"), accessFlags := 24, slot := 2, constantValue := 0 }, { name := "A", type := (.array .int), accessFlags := 24, slot := 3, constantValue := 0 }, { name := "B", type := (.array .char), accessFlags := 24, slot := 4, constantValue := 0 }]
  methods := #[k13m0, k13m1, k13m2]
  instanceTypes := #[]
  staticTypes := #[(.array .byte), (.array .char), (.object "java/lang/CharacterDataLatin1"), (.array .int), (.array .char)]
  resolved := Array.replicate 141 none
  statics := some 1 }

def pool14 : Array CpInfo := pool [(2, .class_ 4), (1, u "java/lang/Object"), (0, u "<init>"), (0, u "()V"), (17, .class_ 26), (1, u "jdk/internal/util/Preconditions"), (28, .class_ 56), (0, u "jdk/internal/util/Preconditions$4"), (57, .class_ 115), (0, u "jdk/internal/util/Preconditions$1"), (7, u "SIOOBE_FORMATTER"), (0, u "Ljava/util/function/BiFunction;"), (0, .class_ 126), (0, u "jdk/internal/util/Preconditions$2"), (3, u "AIOOBE_FORMATTER"), (0, .class_ 132), (0, u "jdk/internal/util/Preconditions$3"), (3, u "IOOBE_FORMATTER")] 57

def k14m0 : Method := { name := "<init>", desc := "()V", sig := { parameters := [], returnType := none }, accessFlags := 1, code := none }
/-- jdk/internal/util/Preconditions -/
def k14 : Class := { plain "jdk/internal/util/Preconditions" (some 0) with
  accessFlags := 33
  interfaces := #[]
  cf := some (fileOf pool14 24 #[.nestMembers #[55, 131, 125, 114]] #[{ accessFlags := 1, nameIndex := 5, descriptorIndex := 6, attributes := #[] }] 33 2 #[] #[{ accessFlags := 25, nameIndex := 123, descriptorIndex := 124, attributes := #[] }, { accessFlags := 25, nameIndex := 130, descriptorIndex := 124, attributes := #[] }, { accessFlags := 25, nameIndex := 136, descriptorIndex := 124, attributes := #[] }])
  fields := #[{ name := "SIOOBE_FORMATTER", type := (.object "java/util/function/BiFunction"), accessFlags := 25, slot := 0, constantValue := 0 }, { name := "AIOOBE_FORMATTER", type := (.object "java/util/function/BiFunction"), accessFlags := 25, slot := 1, constantValue := 0 }, { name := "IOOBE_FORMATTER", type := (.object "java/util/function/BiFunction"), accessFlags := 25, slot := 2, constantValue := 0 }]
  methods := #[k14m0]
  instanceTypes := #[]
  staticTypes := #[(.object "java/util/function/BiFunction"), (.object "java/util/function/BiFunction"), (.object "java/util/function/BiFunction")]
  resolved := Array.replicate 194 none
  statics := some 2 }

def pool15 : Array CpInfo := pool [(9, u "<init>"), (6, .class_ 18), (1, u "java/lang/Object"), (0, u "()V"), (1, .class_ 23), (1, u "jdk/internal/util/ArraysSupport"), (0, u "LOG2_ARRAY_LONG_INDEX_SCALE"), (0, u "I"), (2, u "U"), (0, u "Ljdk/internal/misc/Unsafe;"), (8, u "BIG_ENDIAN"), (0, u "Z"), (8, u "LOG2_BYTE_BIT_SIZE"), (4, u "LOG2_ARRAY_INT_INDEX_SCALE"), (54, u "JLA"), (0, u "Ljdk/internal/access/JavaLangAccess;"), (11, u "LOG2_ARRAY_BOOLEAN_INDEX_SCALE"), (9, u "LOG2_ARRAY_BYTE_INDEX_SCALE"), (5, u "LOG2_ARRAY_CHAR_INDEX_SCALE"), (5, u "LOG2_ARRAY_SHORT_INDEX_SCALE"), (18, u "LOG2_ARRAY_FLOAT_INDEX_SCALE"), (24, u "LOG2_ARRAY_DOUBLE_INDEX_SCALE"), (89, u "T_BOOLEAN"), (2, u "T_CHAR"), (1, u "T_FLOAT"), (1, u "T_DOUBLE"), (1, u "T_BYTE"), (1, u "T_SHORT"), (1, u "T_INT"), (1, u "T_LONG"), (1, u "SOFT_MAX_ARRAY_LENGTH")] 83

def k15m0 : Method := { name := "<init>", desc := "()V", sig := { parameters := [], returnType := none }, accessFlags := 2, code := none }
/-- jdk/internal/util/ArraysSupport -/
def k15 : Class := { plain "jdk/internal/util/ArraysSupport" (some 0) with
  accessFlags := 33
  interfaces := #[]
  cf := some (fileOf pool15 21 #[] #[{ accessFlags := 2, nameIndex := 9, descriptorIndex := 19, attributes := #[] }] 33 16 #[] #[{ accessFlags := 24, nameIndex := 28, descriptorIndex := 29, attributes := #[] }, { accessFlags := 26, nameIndex := 38, descriptorIndex := 39, attributes := #[] }, { accessFlags := 25, nameIndex := 121, descriptorIndex := 25, attributes := #[] }, { accessFlags := 25, nameIndex := 131, descriptorIndex := 25, attributes := #[] }, { accessFlags := 25, nameIndex := 137, descriptorIndex := 25, attributes := #[] }, { accessFlags := 25, nameIndex := 143, descriptorIndex := 25, attributes := #[] }, { accessFlags := 25, nameIndex := 53, descriptorIndex := 25, attributes := #[] }, { accessFlags := 25, nameIndex := 24, descriptorIndex := 25, attributes := #[] }, { accessFlags := 25, nameIndex := 162, descriptorIndex := 25, attributes := #[] }, { accessFlags := 25, nameIndex := 187, descriptorIndex := 25, attributes := #[] }, { accessFlags := 26, nameIndex := 48, descriptorIndex := 25, attributes := #[] }, { accessFlags := 25, nameIndex := 277, descriptorIndex := 25, attributes := #[] }, { accessFlags := 25, nameIndex := 280, descriptorIndex := 25, attributes := #[] }, { accessFlags := 25, nameIndex := 282, descriptorIndex := 25, attributes := #[] }, { accessFlags := 25, nameIndex := 284, descriptorIndex := 25, attributes := #[] }, { accessFlags := 25, nameIndex := 286, descriptorIndex := 25, attributes := #[] }, { accessFlags := 25, nameIndex := 288, descriptorIndex := 25, attributes := #[] }, { accessFlags := 25, nameIndex := 290, descriptorIndex := 25, attributes := #[] }, { accessFlags := 25, nameIndex := 292, descriptorIndex := 25, attributes := #[] }, { accessFlags := 26, nameIndex := 108, descriptorIndex := 109, attributes := #[] }, { accessFlags := 25, nameIndex := 294, descriptorIndex := 25, attributes := #[] }])
  fields := #[{ name := "U", type := (.object "jdk/internal/misc/Unsafe"), accessFlags := 24, slot := 0, constantValue := 0 }, { name := "BIG_ENDIAN", type := .boolean, accessFlags := 26, slot := 1, constantValue := 0 }, { name := "LOG2_ARRAY_BOOLEAN_INDEX_SCALE", type := .int, accessFlags := 25, slot := 2, constantValue := 0 }, { name := "LOG2_ARRAY_BYTE_INDEX_SCALE", type := .int, accessFlags := 25, slot := 3, constantValue := 0 }, { name := "LOG2_ARRAY_CHAR_INDEX_SCALE", type := .int, accessFlags := 25, slot := 4, constantValue := 0 }, { name := "LOG2_ARRAY_SHORT_INDEX_SCALE", type := .int, accessFlags := 25, slot := 5, constantValue := 0 }, { name := "LOG2_ARRAY_INT_INDEX_SCALE", type := .int, accessFlags := 25, slot := 6, constantValue := 0 }, { name := "LOG2_ARRAY_LONG_INDEX_SCALE", type := .int, accessFlags := 25, slot := 7, constantValue := 0 }, { name := "LOG2_ARRAY_FLOAT_INDEX_SCALE", type := .int, accessFlags := 25, slot := 8, constantValue := 0 }, { name := "LOG2_ARRAY_DOUBLE_INDEX_SCALE", type := .int, accessFlags := 25, slot := 9, constantValue := 0 }, { name := "LOG2_BYTE_BIT_SIZE", type := .int, accessFlags := 26, slot := 10, constantValue := 0 }, { name := "T_BOOLEAN", type := .int, accessFlags := 25, slot := 11, constantValue := 0 }, { name := "T_CHAR", type := .int, accessFlags := 25, slot := 12, constantValue := 0 }, { name := "T_FLOAT", type := .int, accessFlags := 25, slot := 13, constantValue := 0 }, { name := "T_DOUBLE", type := .int, accessFlags := 25, slot := 14, constantValue := 0 }, { name := "T_BYTE", type := .int, accessFlags := 25, slot := 15, constantValue := 0 }, { name := "T_SHORT", type := .int, accessFlags := 25, slot := 16, constantValue := 0 }, { name := "T_INT", type := .int, accessFlags := 25, slot := 17, constantValue := 0 }, { name := "T_LONG", type := .int, accessFlags := 25, slot := 18, constantValue := 0 }, { name := "JLA", type := (.object "jdk/internal/access/JavaLangAccess"), accessFlags := 26, slot := 19, constantValue := 0 }, { name := "SOFT_MAX_ARRAY_LENGTH", type := .int, accessFlags := 25, slot := 20, constantValue := 0 }]
  methods := #[k15m0]
  instanceTypes := #[]
  staticTypes := #[(.object "jdk/internal/misc/Unsafe"), .boolean, .int, .int, .int, .int, .int, .int, .int, .int, .int, .int, .int, .int, .int, .int, .int, .int, .int, (.object "jdk/internal/access/JavaLangAccess"), .int]
  resolved := Array.replicate 378 none
  statics := none }

def pool16 : Array CpInfo := pool [(1, u "java/lang/Cloneable"), (0, .class_ 1), (0, u "java/lang/Object"), (0, .class_ 3)] 3

/-- java/lang/Cloneable -/
def k16 : Class := { plain "java/lang/Cloneable" (some 0) with
  accessFlags := 1537
  interfaces := #[]
  cf := some (fileOf pool16 2 #[] #[] 1537 4 #[] #[])
  fields := #[]
  methods := #[]
  instanceTypes := #[]
  staticTypes := #[]
  resolved := Array.replicate 8 none
  statics := none }

/-- the primitive byte -/
def k17 : Class := { plain "byte" none with kind := .primitive 'B', accessFlags := 0x411 }
/-- [B -/
def k18 : Class := { plain "[B" (some 0) with kind := .array 17 .byte, interfaces := #[16, 4], accessFlags := 1041 }

/-- the primitive char -/
def k19 : Class := { plain "char" none with kind := .primitive 'C', accessFlags := 0x411 }
/-- [C -/
def k20 : Class := { plain "[C" (some 0) with kind := .array 19 .char, interfaces := #[16, 4], accessFlags := 1041 }

/-- the primitive int -/
def k21 : Class := { plain "int" none with kind := .primitive 'I', accessFlags := 0x411 }
/-- [I -/
def k22 : Class := { plain "[I" (some 0) with kind := .array 21 .int, interfaces := #[16, 4], accessFlags := 1041 }

def heap : Heap := #[{ cls := 9, slots := #[.long 0, .int 1, .null, .int 0, .null, .int 0, .int 0], vm := .statics 9 },
  { cls := 13, slots := #[.null, .null, .ref 4, .ref 5, .null], vm := .statics 13 },
  { cls := 14, slots := #[.null, .null, .null], vm := .statics 14 },
  { cls := 15, slots := #[], vm := .none },
  { cls := 13, slots := #[], vm := .none },
  { cls := 22, slots := #[.int 1207963663, .int 1207963663, .int 1207963663, .int 1207963663, .int 1207963663, .int 1207963663, .int 1207963663, .int 1207963663, .int 1207963663, .int 1476411407, .int 1342193679, .int 1476411407, .int 1610629135, .int 1342193679, .int 1207963663, .int 1207963663, .int 1207963663, .int 1207963663, .int 1207963663, .int 1207963663, .int 1207963663, .int 1207963663, .int 1207963663, .int 1207963663, .int 1207963663, .int 1207963663, .int 1207963663, .int 1207963663, .int 1342193679, .int 1342193679, .int 1342193679, .int 1476411407, .int 1610629132, .int 1744830488, .int 1744830488, .int 671088664, .int 671113242, .int 671088664, .int 1744830488, .int 1744830488, .int (-402653163), .int (-402653162), .int 1744830488, .int 536870937, .int 939524120, .int 536870932, .int 939524120, .int 939524120, .int 402667017, .int 402667017, .int 402667017, .int 402667017, .int 402667017, .int 402667017, .int 402667017, .int 402667017, .int 402667017, .int 402667017, .int 939524120, .int 1744830488, .int (-402653159), .int 1744830489, .int (-402653159), .int 1744830488, .int 1744830488, .int 8552417, .int 8552417, .int 8552417, .int 8552417, .int 8552417, .int 8552417, .int 8552417, .int 8552417, .int 8552417, .int 8552417, .int 8552417, .int 8552417, .int 8552417, .int 8552417, .int 8552417, .int 8552417, .int 8552417, .int 8552417, .int 8552417, .int 8552417, .int 8552417, .int 8552417, .int 8552417, .int 8552417, .int 8552417, .int 8552417, .int (-402653163), .int 1744830488, .int (-402653162), .int 1744830491, .int 1744850967, .int 1744830491, .int 8486882, .int 8486882, .int 8486882, .int 8486882, .int 8486882, .int 8486882, .int 8486882, .int 8486882, .int 8486882, .int 8486882, .int 8486882, .int 8486882, .int 8486882, .int 8486882, .int 8486882, .int 8486882, .int 8486882, .int 8486882, .int 8486882, .int 8486882, .int 8486882, .int 8486882, .int 8486882, .int 8486882, .int 8486882, .int 8486882, .int (-402653163), .int 1744830489, .int (-402653162), .int 1744830489, .int 1207963663, .int 1207963663, .int 1207963663, .int 1207963663, .int 1207963663, .int 1207963663, .int 1342181391, .int 1207963663, .int 1207963663, .int 1207963663, .int 1207963663, .int 1207963663, .int 1207963663, .int 1207963663, .int 1207963663, .int 1207963663, .int 1207963663, .int 1207963663, .int 1207963663, .int 1207963663, .int 1207963663, .int 1207963663, .int 1207963663, .int 1207963663, .int 1207963663, .int 1207963663, .int 1207963663, .int 1207963663, .int 1207963663, .int 1207963663, .int 1207963663, .int 1207963663, .int 1207963663, .int 939524108, .int 1744830488, .int 671113242, .int 671113242, .int 671113242, .int 671113242, .int 1744830492, .int 1744830488, .int 1744830491, .int 1744830492, .int 28677, .int (-402653155), .int 1744830489, .int 1207963664, .int 1744830492, .int 1744830491, .int 671088668, .int 671088665, .int 402654731, .int 402654731, .int 1744830491, .int 134049794, .int 1744830488, .int 1744830488, .int 1744830491, .int 402654475, .int 28677, .int (-402653154), .int 1744832523, .int 1744832523, .int 1744832523, .int 1744830488, .int 8548353, .int 8548353, .int 8548353, .int 8548353, .int 8548353, .int 8548353, .int 8548353, .int 8548353, .int 8548353, .int 8548353, .int 8548353, .int 8548353, .int 8548353, .int 8548353, .int 8548353, .int 8548353, .int 8548353, .int 8548353, .int 8548353, .int 8548353, .int 8548353, .int 8548353, .int 8548353, .int 1744830489, .int 8548353, .int 8548353, .int 8548353, .int 8548353, .int 8548353, .int 8548353, .int 8548353, .int 134049794, .int 8482818, .int 8482818, .int 8482818, .int 8482818, .int 8482818, .int 8482818, .int 8482818, .int 8482818, .int 8482818, .int 8482818, .int 8482818, .int 8482818, .int 8482818, .int 8482818, .int 8482818, .int 8482818, .int 8482818, .int 8482818, .int 8482818, .int 8482818, .int 8482818, .int 8482818, .int 8482818, .int 1744830489, .int 8482818, .int 8482818, .int 8482818, .int 8482818, .int 8482818, .int 8482818, .int 8482818, .int 102592514], vm := .none }]
def classes : Array Class := #[k0, k1, k2, k3, k4, k5, k6, k7, k8, k9, k10, k11, k12, k13, k14, k15, k16, k17, k18, k19, k20, k21, k22]
def interned : List (Array UInt16 × Addr) := []
def slotsUsed : Nat := 271
def theMethod : MethodId := ⟨1, 8⟩
def args0 : Array Value := #[.int 97, .int 98, .int 4, .int 8, .long 5, .int 12]
def aboutOver (below : List Frame) : State where
  vm := { classes := classes, interned := interned.toArray }
  heap := heap
  slotsUsed := slotsUsed
  threads := #[{ frames := .invoking theMethod args0 :: below }]
def below0 : List Frame := [.native { method := ⟨0, 0⟩, args := #[] }]
def about1 : State := aboutOver below0
def p0 : Program := .bare "" "" ""
def e0 : Env := launch0.env 0 0 0
theorem w_frames : about1.frames = Frame.invoking theMethod args0 :: below0 := rfl
set_option maxRecDepth 65536 in
theorem w_args : argsFit about1.vm theMethod args0 = true := by decide +kernel
set_option maxRecDepth 65536 in
theorem w_heap : heapFits about1 = true := by decide +kernel
set_option maxRecDepth 65536 in
theorem w_runnable : about1.curStatus? = some .runnable := by decide +kernel
set_option maxRecDepth 65536 in
theorem w_alone : about1.alone = true := by decide +kernel
set_option maxRecDepth 65536 in
theorem w_named : about1.methodNamed? x = some theMethod := by decide +kernel
set_option maxRecDepth 65536 in
theorem w_hears : about1.hears theMethod below0 = true := by decide +kernel
set_option maxRecDepth 65536 in
theorem w_ripe : about1.ripe theMethod args0 below0 = true := by decide +kernel
theorem w_running : about1.status = .running := rfl
set_option maxRecDepth 65536 in
theorem w_room : about1.hasRoom e0.platform room_1 = true :=
  launch0.hasRoom_least _ room_1 (by decide +kernel) (by decide +kernel) (by decide +kernel) (by decide +kernel) (by decide +kernel) (by decide +kernel)
theorem allAtoms_all (ts : List Jvm.Cond) (a : Array Jvm.Value) (st : Jvm.State) : (allAtoms ts).before a st = ts.all (fun c => c.before a st) := by
  induction ts with
  | nil => rfl
  | cons c t ih =>
    show (Jvm.Cond.and c (allAtoms t)).before a st = _
    rw [Jvm.Cond.before_and, ih, List.all_cons]
def words1 : List Jvm.Cond := Jvm.Cond.code x code maxLocals ret :: tables_1
/-- a 'code' word, met by the world's own term for the bytes: nothing is compared byte by byte -/
theorem code_word {y : MethodName} {bytes : ByteArray} {mx : Nat} {rt : Option FieldType} {a : Array Value} {s : State} {m : MethodId} {meth : Method} {c : Code} (h1 : s.methodNamed? y = some m) (h2 : s.vm.method? m = some meth) (h3 : meth.code = some c) (h4 : c.code = bytes)
    (h5 : (c.maxLocals == mx && c.exceptionTable.isEmpty && decide (c.maxStack ≤ mostOperands) && decide (meth.sig.returnType = rt) && !meth.locks && decide (parseMethodDescriptor y.desc = some meth.sig)) = true) : (Jvm.Cond.code y bytes mx rt).before a s = true := by
  simp only [Bool.and_eq_true, beq_iff_eq, Bool.not_eq_true', decide_eq_true_eq] at h5
  obtain ⟨⟨⟨⟨⟨g1, g2⟩, g3⟩, g4⟩, g5⟩, g6⟩ := h5
  simp [Cond.before, Cond.holds, Cond.value, h1, h2, h3, h4, g1, g2, g3, g4, g5, g6]
def isCode : Jvm.Cond → Bool
  | .code _ _ _ _ => true
  | _ => false
theorem all_split {L : List Jvm.Cond} {P : Jvm.Cond → Bool} (h1 : L.all (fun c => isCode c || P c) = true) (h2 : ∀ c ∈ L.filter isCode, P c = true) : L.all P = true := by
  refine List.all_eq_true.mpr fun c hc => ?_
  have h := List.all_eq_true.mp h1 c hc
  rcases Bool.eq_false_or_eq_true (isCode c) with hi | hi
  · exact h2 c (List.mem_filter.mpr ⟨hc, hi⟩)
  · simpa [hi] using h
set_option maxRecDepth 65536 in
theorem w_c0 : (Jvm.Cond.code x code maxLocals ret).before args0 about1 = true := code_word (m := ⟨1, 8⟩) (meth := k1m8) (c := k1c8) (by decide +kernel) rfl rfl rfl (by decide +kernel)
set_option maxRecDepth 65536 in
theorem w_c1 : (Jvm.Cond.code ({ cls := "com/example/acre/acre/model/CodedValueEqualsPinLaw", name := "partner", desc := "(II)I" } : Jvm.MethodName) method_7_code (2 : Nat) (Option.some Jvm.ClassFile.FieldType.int)).before args0 about1 = true := code_word (m := ⟨1, 6⟩) (meth := k1m6) (c := k1c6) (by decide +kernel) rfl rfl rfl (by decide +kernel)
set_option maxRecDepth 65536 in
theorem w_c2 : (Jvm.Cond.code ({ cls := "com/example/acre/acre/model/CodedValueEqualsPinLaw", name := "text", desc := "(I)Ljava/lang/String;" } : Jvm.MethodName) method_5_code (1 : Nat) (Option.some (Jvm.ClassFile.FieldType.object "java/lang/String"))).before args0 about1 = true := code_word (m := ⟨1, 4⟩) (meth := k1m4) (c := k1c4) (by decide +kernel) rfl rfl rfl (by decide +kernel)
set_option maxRecDepth 65536 in
theorem w_c3 : (Jvm.Cond.code ({ cls := "com/example/acre/acre/model/CodedValueEqualsPinLaw", name := "len", desc := "(I)I" } : Jvm.MethodName) method_4_code (1 : Nat) (Option.some Jvm.ClassFile.FieldType.int)).before args0 about1 = true := code_word (m := ⟨1, 3⟩) (meth := k1m3) (c := k1c3) (by decide +kernel) rfl rfl rfl (by decide +kernel)
set_option maxRecDepth 65536 in
theorem w_c4 : (Jvm.Cond.code ({ cls := "com/example/acre/acre/model/CodedValueEqualsPinLaw", name := "firstChar", desc := "(I)C" } : Jvm.MethodName) method_2_code (2 : Nat) (Option.some Jvm.ClassFile.FieldType.char)).before args0 about1 = true := code_word (m := ⟨1, 1⟩) (meth := k1m1) (c := k1c1) (by decide +kernel) rfl rfl rfl (by decide +kernel)
set_option maxRecDepth 65536 in
theorem w_c5 : (Jvm.Cond.code ({ cls := "java/lang/String", name := "<init>", desc := "([C)V" } : Jvm.MethodName) jdk_42_method_3_code (2 : Nat) (Option.none : Option Jvm.ClassFile.FieldType)).before args0 about1 = true := code_word (m := ⟨9, 1⟩) (meth := k9m1) (c := k9c1) (by decide +kernel) rfl rfl rfl (by decide +kernel)
set_option maxRecDepth 65536 in
theorem w_c6 : (Jvm.Cond.code ({ cls := "java/lang/String", name := "<init>", desc := "([CIILjava/lang/Void;)V" } : Jvm.MethodName) jdk_42_method_149_code (6 : Nat) (Option.none : Option Jvm.ClassFile.FieldType)).before args0 about1 = true := code_word (m := ⟨9, 6⟩) (meth := k9m6) (c := k9c6) (by decide +kernel) rfl rfl rfl (by decide +kernel)
set_option maxRecDepth 65536 in
theorem w_c7 : (Jvm.Cond.code ({ cls := "java/lang/Object", name := "<init>", desc := "()V" } : Jvm.MethodName) object_method_1_code (1 : Nat) (Option.none : Option Jvm.ClassFile.FieldType)).before args0 about1 = true := code_word (m := ⟨0, 0⟩) (meth := k0m0) (c := k0c0) (by decide +kernel) rfl rfl rfl (by decide +kernel)
set_option maxRecDepth 65536 in
theorem w_c8 : (Jvm.Cond.code ({ cls := "java/lang/StringUTF16", name := "compress", desc := "([CII)[B" } : Jvm.MethodName) jdk_52_method_16_code (6 : Nat) (Option.some (Jvm.ClassFile.FieldType.array Jvm.ClassFile.FieldType.byte))).before args0 about1 = true := code_word (m := ⟨10, 2⟩) (meth := k10m2) (c := k10c2) (by decide +kernel) rfl rfl rfl (by decide +kernel)
set_option maxRecDepth 65536 in
theorem w_c9 : (Jvm.Cond.code ({ cls := "java/lang/StringUTF16", name := "compress", desc := "([CI[BII)I" } : Jvm.MethodName) jdk_52_method_21_code (7 : Nat) (Option.some Jvm.ClassFile.FieldType.int)).before args0 about1 = true := code_word (m := ⟨10, 3⟩) (meth := k10m3) (c := k10c3) (by decide +kernel) rfl rfl rfl (by decide +kernel)
set_option maxRecDepth 65536 in
theorem w_c10 : (Jvm.Cond.code ({ cls := "java/lang/StringUTF16", name := "coderFromArrayLen", desc := "([BI)B" } : Jvm.MethodName) jdk_52_method_15_code (2 : Nat) (Option.some Jvm.ClassFile.FieldType.byte)).before args0 about1 = true := code_word (m := ⟨10, 1⟩) (meth := k10m1) (c := k10c1) (by decide +kernel) rfl rfl rfl (by decide +kernel)
set_option maxRecDepth 65536 in
theorem w_c11 : (Jvm.Cond.code ({ cls := "com/example/acre/acre/model/CodedValueEqualsPinLaw", name := "label", desc := "(IZ)Ljava/lang/String;" } : Jvm.MethodName) method_8_code (2 : Nat) (Option.some (Jvm.ClassFile.FieldType.object "java/lang/String"))).before args0 about1 = true := code_word (m := ⟨1, 7⟩) (meth := k1m7) (c := k1c7) (by decide +kernel) rfl rfl rfl (by decide +kernel)
set_option maxRecDepth 65536 in
theorem w_c12 : (Jvm.Cond.code ({ cls := "com/example/acre/acre/model/CodedValue", name := "<init>", desc := "(Ljava/lang/String;Ljava/lang/String;Ljava/lang/String;)V" } : Jvm.MethodName) prog_21_method_1_code (4 : Nat) (Option.none : Option Jvm.ClassFile.FieldType)).before args0 about1 = true := code_word (m := ⟨3, 0⟩) (meth := k3m0) (c := k3c0) (by decide +kernel) rfl rfl rfl (by decide +kernel)
set_option maxRecDepth 65536 in
theorem w_c13 : (Jvm.Cond.code ({ cls := "java/lang/Record", name := "<init>", desc := "()V" } : Jvm.MethodName) jdk_30_method_1_code (1 : Nat) (Option.none : Option Jvm.ClassFile.FieldType)).before args0 about1 = true := code_word (m := ⟨2, 0⟩) (meth := k2m0) (c := k2c0) (by decide +kernel) rfl rfl rfl (by decide +kernel)
set_option maxRecDepth 65536 in
theorem w_c14 : (Jvm.Cond.code ({ cls := "com/example/acre/acre/model/CodedValue", name := "requireText", desc := "(Ljava/lang/String;Ljava/lang/String;)V" } : Jvm.MethodName) prog_21_method_5_code (2 : Nat) (Option.none : Option Jvm.ClassFile.FieldType)).before args0 about1 = true := code_word (m := ⟨3, 2⟩) (meth := k3m2) (c := k3c2) (by decide +kernel) rfl rfl rfl (by decide +kernel)
set_option maxRecDepth 65536 in
theorem w_c15 : (Jvm.Cond.code ({ cls := "java/lang/String", name := "isBlank", desc := "()Z" } : Jvm.MethodName) jdk_42_method_117_code (1 : Nat) (Option.some Jvm.ClassFile.FieldType.boolean)).before args0 about1 = true := code_word (m := ⟨9, 4⟩) (meth := k9m4) (c := k9c4) (by decide +kernel) rfl rfl rfl (by decide +kernel)
set_option maxRecDepth 65536 in
theorem w_c16 : (Jvm.Cond.code ({ cls := "java/lang/String", name := "indexOfNonWhitespace", desc := "()I" } : Jvm.MethodName) jdk_42_method_120_code (1 : Nat) (Option.some Jvm.ClassFile.FieldType.int)).before args0 about1 = true := code_word (m := ⟨9, 5⟩) (meth := k9m5) (c := k9c5) (by decide +kernel) rfl rfl rfl (by decide +kernel)
set_option maxRecDepth 65536 in
theorem w_c17 : (Jvm.Cond.code ({ cls := "java/lang/String", name := "isLatin1", desc := "()Z" } : Jvm.MethodName) jdk_42_method_154_code (1 : Nat) (Option.some Jvm.ClassFile.FieldType.boolean)).before args0 about1 = true := code_word (m := ⟨9, 8⟩) (meth := k9m8) (c := k9c8) (by decide +kernel) rfl rfl rfl (by decide +kernel)
set_option maxRecDepth 65536 in
theorem w_c18 : (Jvm.Cond.code ({ cls := "java/lang/StringLatin1", name := "indexOfNonWhitespace", desc := "([B)I" } : Jvm.MethodName) jdk_43_method_37_code (4 : Nat) (Option.some Jvm.ClassFile.FieldType.int)).before args0 about1 = true := code_word (m := ⟨11, 2⟩) (meth := k11m2) (c := k11c2) (by decide +kernel) rfl rfl rfl (by decide +kernel)
set_option maxRecDepth 65536 in
theorem w_c19 : (Jvm.Cond.code ({ cls := "java/lang/StringLatin1", name := "getChar", desc := "([BI)C" } : Jvm.MethodName) jdk_43_method_44_code (2 : Nat) (Option.some Jvm.ClassFile.FieldType.char)).before args0 about1 = true := code_word (m := ⟨11, 3⟩) (meth := k11m3) (c := k11c3) (by decide +kernel) rfl rfl rfl (by decide +kernel)
set_option maxRecDepth 65536 in
theorem w_c20 : (Jvm.Cond.code ({ cls := "java/lang/CharacterDataLatin1", name := "isWhitespace", desc := "(I)Z" } : Jvm.MethodName) jdk_116_method_26_code (3 : Nat) (Option.some Jvm.ClassFile.FieldType.boolean)).before args0 about1 = true := code_word (m := ⟨13, 1⟩) (meth := k13m1) (c := k13c1) (by decide +kernel) rfl rfl rfl (by decide +kernel)
set_option maxRecDepth 65536 in
theorem w_c21 : (Jvm.Cond.code ({ cls := "java/lang/CharacterDataLatin1", name := "getProperties", desc := "(I)I" } : Jvm.MethodName) jdk_116_method_1_code (4 : Nat) (Option.some Jvm.ClassFile.FieldType.int)).before args0 about1 = true := code_word (m := ⟨13, 0⟩) (meth := k13m0) (c := k13c0) (by decide +kernel) rfl rfl rfl (by decide +kernel)
set_option maxRecDepth 65536 in
theorem w_c22 : (Jvm.Cond.code ({ cls := "java/lang/String", name := "length", desc := "()I" } : Jvm.MethodName) jdk_42_method_54_code (1 : Nat) (Option.some Jvm.ClassFile.FieldType.int)).before args0 about1 = true := code_word (m := ⟨9, 2⟩) (meth := k9m2) (c := k9c2) (by decide +kernel) rfl rfl rfl (by decide +kernel)
set_option maxRecDepth 65536 in
theorem w_c23 : (Jvm.Cond.code ({ cls := "java/lang/String", name := "coder", desc := "()B" } : Jvm.MethodName) jdk_42_method_152_code (1 : Nat) (Option.some Jvm.ClassFile.FieldType.byte)).before args0 about1 = true := code_word (m := ⟨9, 7⟩) (meth := k9m7) (c := k9c7) (by decide +kernel) rfl rfl rfl (by decide +kernel)
set_option maxRecDepth 65536 in
theorem w_c24 : (Jvm.Cond.code ({ cls := "com/example/acre/acre/model/CodedValue", name := "equals", desc := "(Ljava/lang/Object;)Z" } : Jvm.MethodName) prog_21_method_3_code (3 : Nat) (Option.some Jvm.ClassFile.FieldType.boolean)).before args0 about1 = true := code_word (m := ⟨3, 1⟩) (meth := k3m1) (c := k3c1) (by decide +kernel) rfl rfl rfl (by decide +kernel)
set_option maxRecDepth 65536 in
theorem w_c25 : (Jvm.Cond.code ({ cls := "com/example/acre/acre/model/CodedValueEqualsPinLaw", name := "sameText", desc := "(II)Z" } : Jvm.MethodName) method_6_code (2 : Nat) (Option.some Jvm.ClassFile.FieldType.boolean)).before args0 about1 = true := code_word (m := ⟨1, 5⟩) (meth := k1m5) (c := k1c5) (by decide +kernel) rfl rfl rfl (by decide +kernel)
set_option maxRecDepth 65536 in
theorem w_c26 : (Jvm.Cond.code ({ cls := "java/lang/String", name := "equals", desc := "(Ljava/lang/Object;)Z" } : Jvm.MethodName) jdk_42_method_66_code (3 : Nat) (Option.some Jvm.ClassFile.FieldType.boolean)).before args0 about1 = true := code_word (m := ⟨9, 3⟩) (meth := k9m3) (c := k9c3) (by decide +kernel) rfl rfl rfl (by decide +kernel)
set_option maxRecDepth 65536 in
theorem w_c27 : (Jvm.Cond.code ({ cls := "java/lang/StringLatin1", name := "equals", desc := "([B[B)Z" } : Jvm.MethodName) jdk_43_method_13_code (3 : Nat) (Option.some Jvm.ClassFile.FieldType.boolean)).before args0 about1 = true := code_word (m := ⟨11, 1⟩) (meth := k11m1) (c := k11c1) (by decide +kernel) rfl rfl rfl (by decide +kernel)
set_option maxRecDepth 65536 in
theorem w_c28 : (Jvm.Cond.code ({ cls := "com/example/acre/acre/model/CodedValueEqualsPinLaw", name := "secondChar", desc := "(I)C" } : Jvm.MethodName) method_3_code (1 : Nat) (Option.some Jvm.ClassFile.FieldType.char)).before args0 about1 = true := code_word (m := ⟨1, 2⟩) (meth := k1m2) (c := k1c2) (by decide +kernel) rfl rfl rfl (by decide +kernel)
def codes1 : List Jvm.Cond := [Jvm.Cond.code x code maxLocals ret, Jvm.Cond.code ({ cls := "com/example/acre/acre/model/CodedValueEqualsPinLaw", name := "partner", desc := "(II)I" } : Jvm.MethodName) method_7_code (2 : Nat) (Option.some Jvm.ClassFile.FieldType.int), Jvm.Cond.code ({ cls := "com/example/acre/acre/model/CodedValueEqualsPinLaw", name := "text", desc := "(I)Ljava/lang/String;" } : Jvm.MethodName) method_5_code (1 : Nat) (Option.some (Jvm.ClassFile.FieldType.object "java/lang/String")), Jvm.Cond.code ({ cls := "com/example/acre/acre/model/CodedValueEqualsPinLaw", name := "len", desc := "(I)I" } : Jvm.MethodName) method_4_code (1 : Nat) (Option.some Jvm.ClassFile.FieldType.int), Jvm.Cond.code ({ cls := "com/example/acre/acre/model/CodedValueEqualsPinLaw", name := "firstChar", desc := "(I)C" } : Jvm.MethodName) method_2_code (2 : Nat) (Option.some Jvm.ClassFile.FieldType.char), Jvm.Cond.code ({ cls := "java/lang/String", name := "<init>", desc := "([C)V" } : Jvm.MethodName) jdk_42_method_3_code (2 : Nat) (Option.none : Option Jvm.ClassFile.FieldType), Jvm.Cond.code ({ cls := "java/lang/String", name := "<init>", desc := "([CIILjava/lang/Void;)V" } : Jvm.MethodName) jdk_42_method_149_code (6 : Nat) (Option.none : Option Jvm.ClassFile.FieldType), Jvm.Cond.code ({ cls := "java/lang/Object", name := "<init>", desc := "()V" } : Jvm.MethodName) object_method_1_code (1 : Nat) (Option.none : Option Jvm.ClassFile.FieldType), Jvm.Cond.code ({ cls := "java/lang/StringUTF16", name := "compress", desc := "([CII)[B" } : Jvm.MethodName) jdk_52_method_16_code (6 : Nat) (Option.some (Jvm.ClassFile.FieldType.array Jvm.ClassFile.FieldType.byte)), Jvm.Cond.code ({ cls := "java/lang/StringUTF16", name := "compress", desc := "([CI[BII)I" } : Jvm.MethodName) jdk_52_method_21_code (7 : Nat) (Option.some Jvm.ClassFile.FieldType.int), Jvm.Cond.code ({ cls := "java/lang/StringUTF16", name := "coderFromArrayLen", desc := "([BI)B" } : Jvm.MethodName) jdk_52_method_15_code (2 : Nat) (Option.some Jvm.ClassFile.FieldType.byte), Jvm.Cond.code ({ cls := "com/example/acre/acre/model/CodedValueEqualsPinLaw", name := "label", desc := "(IZ)Ljava/lang/String;" } : Jvm.MethodName) method_8_code (2 : Nat) (Option.some (Jvm.ClassFile.FieldType.object "java/lang/String")), Jvm.Cond.code ({ cls := "com/example/acre/acre/model/CodedValue", name := "<init>", desc := "(Ljava/lang/String;Ljava/lang/String;Ljava/lang/String;)V" } : Jvm.MethodName) prog_21_method_1_code (4 : Nat) (Option.none : Option Jvm.ClassFile.FieldType), Jvm.Cond.code ({ cls := "java/lang/Record", name := "<init>", desc := "()V" } : Jvm.MethodName) jdk_30_method_1_code (1 : Nat) (Option.none : Option Jvm.ClassFile.FieldType), Jvm.Cond.code ({ cls := "com/example/acre/acre/model/CodedValue", name := "requireText", desc := "(Ljava/lang/String;Ljava/lang/String;)V" } : Jvm.MethodName) prog_21_method_5_code (2 : Nat) (Option.none : Option Jvm.ClassFile.FieldType), Jvm.Cond.code ({ cls := "java/lang/String", name := "isBlank", desc := "()Z" } : Jvm.MethodName) jdk_42_method_117_code (1 : Nat) (Option.some Jvm.ClassFile.FieldType.boolean), Jvm.Cond.code ({ cls := "java/lang/String", name := "indexOfNonWhitespace", desc := "()I" } : Jvm.MethodName) jdk_42_method_120_code (1 : Nat) (Option.some Jvm.ClassFile.FieldType.int), Jvm.Cond.code ({ cls := "java/lang/String", name := "isLatin1", desc := "()Z" } : Jvm.MethodName) jdk_42_method_154_code (1 : Nat) (Option.some Jvm.ClassFile.FieldType.boolean), Jvm.Cond.code ({ cls := "java/lang/StringLatin1", name := "indexOfNonWhitespace", desc := "([B)I" } : Jvm.MethodName) jdk_43_method_37_code (4 : Nat) (Option.some Jvm.ClassFile.FieldType.int), Jvm.Cond.code ({ cls := "java/lang/StringLatin1", name := "getChar", desc := "([BI)C" } : Jvm.MethodName) jdk_43_method_44_code (2 : Nat) (Option.some Jvm.ClassFile.FieldType.char), Jvm.Cond.code ({ cls := "java/lang/CharacterDataLatin1", name := "isWhitespace", desc := "(I)Z" } : Jvm.MethodName) jdk_116_method_26_code (3 : Nat) (Option.some Jvm.ClassFile.FieldType.boolean), Jvm.Cond.code ({ cls := "java/lang/CharacterDataLatin1", name := "getProperties", desc := "(I)I" } : Jvm.MethodName) jdk_116_method_1_code (4 : Nat) (Option.some Jvm.ClassFile.FieldType.int), Jvm.Cond.code ({ cls := "java/lang/String", name := "length", desc := "()I" } : Jvm.MethodName) jdk_42_method_54_code (1 : Nat) (Option.some Jvm.ClassFile.FieldType.int), Jvm.Cond.code ({ cls := "java/lang/String", name := "coder", desc := "()B" } : Jvm.MethodName) jdk_42_method_152_code (1 : Nat) (Option.some Jvm.ClassFile.FieldType.byte), Jvm.Cond.code ({ cls := "com/example/acre/acre/model/CodedValue", name := "equals", desc := "(Ljava/lang/Object;)Z" } : Jvm.MethodName) prog_21_method_3_code (3 : Nat) (Option.some Jvm.ClassFile.FieldType.boolean), Jvm.Cond.code ({ cls := "com/example/acre/acre/model/CodedValueEqualsPinLaw", name := "sameText", desc := "(II)Z" } : Jvm.MethodName) method_6_code (2 : Nat) (Option.some Jvm.ClassFile.FieldType.boolean), Jvm.Cond.code ({ cls := "java/lang/String", name := "equals", desc := "(Ljava/lang/Object;)Z" } : Jvm.MethodName) jdk_42_method_66_code (3 : Nat) (Option.some Jvm.ClassFile.FieldType.boolean), Jvm.Cond.code ({ cls := "java/lang/StringLatin1", name := "equals", desc := "([B[B)Z" } : Jvm.MethodName) jdk_43_method_13_code (3 : Nat) (Option.some Jvm.ClassFile.FieldType.boolean), Jvm.Cond.code ({ cls := "com/example/acre/acre/model/CodedValueEqualsPinLaw", name := "secondChar", desc := "(I)C" } : Jvm.MethodName) method_3_code (1 : Nat) (Option.some Jvm.ClassFile.FieldType.char)]
set_option maxRecDepth 65536 in
theorem codes_eq : words1.filter isCode = codes1 := rfl
theorem w_codes : ∀ c ∈ words1.filter isCode, c.before args0 about1 = true := by
  rw [codes_eq]
  intro c hc
  simp only [codes1, List.mem_cons, List.not_mem_nil, or_false] at hc
  rcases hc with rfl | rfl | rfl | rfl | rfl | rfl | rfl | rfl | rfl | rfl | rfl | rfl | rfl | rfl | rfl | rfl | rfl | rfl | rfl | rfl | rfl | rfl | rfl | rfl | rfl | rfl | rfl | rfl | rfl
  · exact w_c0
  · exact w_c1
  · exact w_c2
  · exact w_c3
  · exact w_c4
  · exact w_c5
  · exact w_c6
  · exact w_c7
  · exact w_c8
  · exact w_c9
  · exact w_c10
  · exact w_c11
  · exact w_c12
  · exact w_c13
  · exact w_c14
  · exact w_c15
  · exact w_c16
  · exact w_c17
  · exact w_c18
  · exact w_c19
  · exact w_c20
  · exact w_c21
  · exact w_c22
  · exact w_c23
  · exact w_c24
  · exact w_c25
  · exact w_c26
  · exact w_c27
  · exact w_c28
set_option maxRecDepth 65536 in
theorem w_t1 : (words1.take 24).all (fun c => isCode c || c.before args0 about1) = true := by decide +kernel
set_option maxRecDepth 65536 in
theorem w_t2 : ((words1.drop 24).take 24).all (fun c => isCode c || c.before args0 about1) = true := by decide +kernel
set_option maxRecDepth 65536 in
theorem w_t3 : (((words1.drop 24).drop 24).take 24).all (fun c => isCode c || c.before args0 about1) = true := by decide +kernel
set_option maxRecDepth 65536 in
theorem w_t4 : ((((words1.drop 24).drop 24).drop 24).take 24).all (fun c => isCode c || c.before args0 about1) = true := by decide +kernel
set_option maxRecDepth 65536 in
theorem w_t5 : (((((words1.drop 24).drop 24).drop 24).drop 24).take 24).all (fun c => isCode c || c.before args0 about1) = true := by decide +kernel
set_option maxRecDepth 65536 in
theorem w_t6 : (((((words1.drop 24).drop 24).drop 24).drop 24).drop 24).all (fun c => isCode c || c.before args0 about1) = true := by decide +kernel
theorem w_tables : (allAtoms (Jvm.Cond.code x code maxLocals ret :: tables_1)).before args0 about1 = true := by
  rw [allAtoms_all]
  show words1.all (fun c => c.before args0 about1) = true
  refine all_split ?_ w_codes
  rw [← List.take_append_drop 24 words1, List.all_append, w_t1, ← List.take_append_drop 24 (words1.drop 24), List.all_append, w_t2, ← List.take_append_drop 24 ((words1.drop 24).drop 24), List.all_append, w_t3, ← List.take_append_drop 24 (((words1.drop 24).drop 24).drop 24), List.all_append, w_t4, ← List.take_append_drop 24 ((((words1.drop 24).drop 24).drop 24).drop 24), List.all_append, w_t5, w_t6]
  rfl
set_option maxRecDepth 65536 in
theorem w_rest : rest_1_c.before args0 about1 = true := by decide +kernel
set_option maxRecDepth 65536 in
theorem w_case : (Jvm.Cond.and given_1 narrow_1).before args0 about1 = true := by decide +kernel
theorem w_applies : (headSpec (Jvm.Cond.code x code maxLocals ret :: tables_1) room_1).applies x e0.platform about1 = true :=
  (Spec.applies_iff w_frames).mpr ⟨w_running, w_runnable, w_alone, w_named, w_hears, w_ripe, w_room, w_tables⟩
theorem atStart : AtStart classFile x code maxLocals ret World_1 tables_1 room_1 Calls_1 rest_1 Pre_1 launch0 p0 e0 about1 theMethod args0 below0 :=
  ⟨lists_1, trivial, launch0.admits_env _ _ _, launch0.least_env, fairChoices_fair.cas, fairChoices_fair.clock, w_frames, w_args, w_heap, w_applies, trivial, w_rest, w_case⟩
end start1
theorem witness_1 : WitnessClaimed_1 := ⟨start1.p0, start1.e0, start1.about1, start1.theMethod, start1.args0, start1.below0, start1.atStart⟩
end Jvm.Pilot.@@N@@
