import JvmDerived
import JvmDerived.Pilot.@@N@@Statement
import JvmDerived.Pilot.@@N@@Code
set_option linter.unusedVariables false
set_option linter.unusedSimpArgs false
/- laws to paste: Road.backV, Road.lenW, Road.chN, Road.codOf (cut by pick.py; bodies as the Statement names them) -/
namespace Jvm.Pilot.@@N@@
namespace StrChars
open Jvm Sem ClassFile Op Lib Jvm.Stand Jvm.Free.XT Jvm.Free.ALB Jvm.Free.JM Jvm.Free
open Jvm.Lib.Cold (StaticIs)
/-- a char array whose places are chars -/
def Ch (a : Addr) (A : Cell) (U : State) : Prop := Arr .char a A U ∧ Typed .char A
theorem Ch.mv {a : Addr} {A : Cell} {U U' : State} (h : Ch a A U) (hal : U.vm.Alike U'.vm) (hh : U'.heap = U.heap) : Ch a A U' := ⟨h.1.mv hal hh, h.2⟩
theorem Ch.keep {a : Addr} {A : Cell} {U U' : State} (h : Ch a A U) (hal : U.vm.Alike U'.vm) (hk : U'.heap[a]? = some A) : Ch a A U' := ⟨h.1.keep hal hk, h.2⟩
/-- what place i of a char[]'s cell holds -/
def cv (A : Cell) (i : Nat) : Int32 := match A.slots[i]? with | some (.int x) => x | _ => 0
theorem Ch.get {a : Addr} {A : Cell} {U : State} (h : Ch a A U) {i : Nat} (hi : i < A.slots.size) : A.slots[i]? = some (.int (cv A i)) := by
  have e := Array.getElem?_eq_getElem hi
  have f := h.2 i _ e
  unfold cv; rw [e]
  generalize A.slots[i] = v at f
  cases v <;> simp [fits] at f ⊢
/-- the byte that i2b leaves of a char -/
def lo8 (x : Int32) : Int32 := x.toInt8.toInt32
theorem fits_lo8 (y : Int32) : fits .byte (.int (lo8 y)) = true := by
  have h1 := y.toInt8.le_toInt
  have h2 := y.toInt8.toInt_lt
  simp only [lo8, fits, Bool.and_eq_true, decide_eq_true_eq, Int32.le_iff_toInt_le, Int8.toInt_toInt32, show (-128 : Int32).toInt = -128 from by decide, show (127 : Int32).toInt = 127 from by decide]
  omega
/-- A' is A but that each place j of lo .. hi - 1 holds f j -/
def Laid (A A' : Cell) (lo hi : Nat) (f : Nat → Value) : Prop := A'.cls = A.cls ∧ A'.vm = A.vm ∧ A'.slots.size = A.slots.size ∧ ∀ i, A'.slots[i]? = if lo ≤ i ∧ i < hi then some (f i) else A.slots[i]?
theorem Laid.zero (A : Cell) (lo : Nat) (f : Nat → Value) : Laid A A lo (lo + 0) f := ⟨rfl, rfl, rfl, fun i => by rw [if_neg (by omega)]⟩
theorem Laid.step {A Ak : Cell} {lo k : Nat} {f : Nat → Value} {v : Value} (h : Laid A Ak lo k f) (hlo : lo ≤ k) (hk : k < Ak.slots.size) (hv : v = f k) : Laid A (Ak.setSlot k v) lo (k + 1) f := by
  refine ⟨h.1, h.2.1, by simpa [Cell.setSlot] using h.2.2.1, fun i => ?_⟩
  by_cases e : k = i
  · subst e; rw [Cell.slots_setSlot_self v hk, if_pos (by omega), hv]
  · rw [Cell.slots_setSlot_ne v e, h.2.2.2 i]
    by_cases q : lo ≤ i ∧ i < k
    · rw [if_pos q, if_pos (by omega)]
    · rw [if_neg q, if_neg (by omega)]
def U16 : String := "java/lang/StringUTF16"
namespace Cmp5
def yN : MethodName := ⟨"java/lang/StringUTF16", "compress", "([CI[BII)I"⟩
abbrev yB : ByteArray := jdk_52_method_21_code
theorem d0 : decode yB 0 = .ok (.iconst 0, 1) := by decide +kernel
theorem d1 : decode yB 1 = .ok (.istore 5, 2) := by decide +kernel
theorem d3 : decode yB 3 = .ok (.iload 5, 2) := by decide +kernel
theorem d5 : decode yB 5 = .ok (.iload 4, 2) := by decide +kernel
theorem d7 : decode yB 7 = .ok (.if_icmp (.ge) 37, 3) := by decide +kernel
theorem d10 : decode yB 10 = .ok (.aload_n 0, 1) := by decide +kernel
theorem d11 : decode yB 11 = .ok (.iload_n 1, 1) := by decide +kernel
theorem d12 : decode yB 12 = .ok (.caload, 1) := by decide +kernel
theorem d13 : decode yB 13 = .ok (.istore 6, 2) := by decide +kernel
theorem d15 : decode yB 15 = .ok (.iload 6, 2) := by decide +kernel
theorem d17 : decode yB 17 = .ok (.sipush 255, 3) := by decide +kernel
theorem d20 : decode yB 20 = .ok (.if_icmp (.le) 6, 3) := by decide +kernel
theorem d26 : decode yB 26 = .ok (.aload_n 2, 1) := by decide +kernel
theorem d27 : decode yB 27 = .ok (.iload_n 3, 1) := by decide +kernel
theorem d28 : decode yB 28 = .ok (.iload 6, 2) := by decide +kernel
theorem d30 : decode yB 30 = .ok (.i2b, 1) := by decide +kernel
theorem d31 : decode yB 31 = .ok (.bastore, 1) := by decide +kernel
theorem d32 : decode yB 32 = .ok (.iinc 1 1, 3) := by decide +kernel
theorem d35 : decode yB 35 = .ok (.iinc 3 1, 3) := by decide +kernel
theorem d38 : decode yB 38 = .ok (.iinc 5 1, 3) := by decide +kernel
theorem d41 : decode yB 41 = .ok (.goto (-38), 3) := by decide +kernel
theorem d44 : decode yB 44 = .ok (.iload 4, 2) := by decide +kernel
theorem d46 : decode yB 46 = .ok (.ireturn, 1) := by decide +kernel
def site : List Cond := []
def tab : Cond := tabOf yN yB 7 (some .int) site
def P (b : Addr) (A : Cell) (d : Addr) (B : Cell) (o q len : Nat) (args : Array Value) (s : State) : Prop := args = #[.ref b, .int (Int32.ofNat o), .ref d, .int (Int32.ofNat q), .int (Int32.ofNat len)] ∧ Ch b A s ∧ Arr .byte d B s ∧ b ≠ d ∧ o + len ≤ A.slots.size ∧ q + len ≤ B.slots.size ∧ ∀ i, i < len → ¬ 255 < cv A (o + i)
def E (b : Addr) (A : Cell) (d : Addr) (B : Cell) (o q len : Nat) (r : Option Value) (s u : State) : Prop := r = some (.int (Int32.ofNat len)) ∧ ∃ B', Put d B' s u ∧ Laid B B' q (q + len) (fun j => Value.int (lo8 (cv A (o + (j - q)))))
/-- no char of the range above 255: len; the places written hold each char's low byte -/
theorem law (l : Launch) (b : Addr) (A : Cell) (d : Addr) (B : Cell) (o q len : Nat) : Law l yN 5 5 0 0 yB 7 (some .int) site (P b A d B o q len) (E b A d B o q len) (copyLocs d q len) 0 0 := by
  refine Law.of_walk (plainFor_of_name (by decide +kernel)) (by decide +kernel) (by decide +kernel) (by decide) (fun _ _ h => by rw [h.1]; rfl) (fun _ U U' hal hh h => ⟨h.1, h.2.1.mv hal hh, h.2.2.1.mv hal hh, h.2.2.2⟩) (fun r U U' V V' h1 hal h2 h => ⟨h.1, h.2.elim fun B' q => ⟨B', q.1.mv h1 h2, q.2⟩⟩) ?_
  intro p e s m args below meth c s₁ X0 hexec hbytes hml hret hlk hnm hown hh0 W hP
  obtain ⟨rfl, hA, hB, hne, l1, l2, hp⟩ := hP
  have c1 : Steps p.tables e below (s₁.setTop (entryFrame m #[.ref b, .int (Int32.ofNat o), .ref d, .int (Int32.ofNat q), .int (Int32.ofNat len)] 7)) (s₁.setTop (mkF m 0 #[.val (.ref b), .val (.int (Int32.ofNat o)), .val (.ref d), .val (.int (Int32.ofNat q)), .val (.int (Int32.ofNat len)), .unset, .unset] [])) := entry rfl
  have hA0 := hA.1.mv X0.warmed.alike hh0
  have hB0 := hB.mv X0.warmed.alike hh0
  have a31 := hA.1.2.2.2
  have c2 : Steps p.tables e below (s₁.setTop (entryFrame m #[.ref b, .int (Int32.ofNat o), .ref d, .int (Int32.ofNat q), .int (Int32.ofNat len)] 7)) (s₁.setTop (mkF m 3 #[.val (.ref b), .val (.int (Int32.ofNat o)), .val (.ref d), .val (.int (Int32.ofNat q)), .val (.int (Int32.ofNat len)), .val (.int 0), .unset] [])) := c1.trans (by
    refine iconstV X0.here hexec rfl 0 (hb hbytes d0) (by decide) ?_
    refine XS.istore X0.here hexec rfl (hb hbytes d1) rfl rfl ?_
    exact Steps.refl _)
  have loop : ∀ (r i : Nat), i + r = len → ∀ (z : Slot), (z = .unset ∨ ∃ w, z = .val w ∧ w.category = 1) → ∀ (Tl : State) (Bk : Cell), Stand p l e { frames := 0, locals := 0, cells := 0, slots := 0 } s m #[.ref b, .int (Int32.ofNat o), .ref d, .int (Int32.ofNat q), .int (Int32.ofNat len)] below meth c Tl ([] ++ copyLocs d q i) 0 0 → Put d Bk s₁ Tl → Laid B Bk q (q + i) (fun j => Value.int (lo8 (cv A (o + (j - q))))) →
      Steps p.tables e below (s₁.setTop (entryFrame m #[.ref b, .int (Int32.ofNat o), .ref d, .int (Int32.ofNat q), .int (Int32.ofNat len)] 7)) (Tl.setTop (mkF m 3 #[.val (.ref b), .val (.int (Int32.ofNat (o + i))), .val (.ref d), .val (.int (Int32.ofNat (q + i))), .val (.int (Int32.ofNat len)), .val (.int (Int32.ofNat i)), z] [])) → ∃ (T' : State) (B' : Cell) (z' : Slot), Stand p l e { frames := 0, locals := 0, cells := 0, slots := 0 } s m #[.ref b, .int (Int32.ofNat o), .ref d, .int (Int32.ofNat q), .int (Int32.ofNat len)] below meth c T' ([] ++ copyLocs d q len) 0 0 ∧ Put d B' s₁ T' ∧ Laid B B' q (q + len) (fun j => Value.int (lo8 (cv A (o + (j - q))))) ∧
      Steps p.tables e below (s₁.setTop (entryFrame m #[.ref b, .int (Int32.ofNat o), .ref d, .int (Int32.ofNat q), .int (Int32.ofNat len)] 7)) (T'.setTop (mkF m 3 #[.val (.ref b), .val (.int (Int32.ofNat (o + len))), .val (.ref d), .val (.int (Int32.ofNat (q + len))), .val (.int (Int32.ofNat len)), .val (.int (Int32.ofNat len)), z'] [])) := by
    intro r
    induction r with
    | zero =>
      intro i hi z hz Tl Bk Xl pl fl cl
      have hil : i = len := by omega
      rw [hil] at Xl fl cl
      exact ⟨Tl, Bk, z, Xl, pl, fl, cl⟩
    | succ r ih =>
      intro i hi z hz Tl Bk Xl pl fl cl
      have all := X0.warmed.alike.symm.trans Xl.warmed.alike
      have hAl := hA0.keep all (pl.other hne hA0.1)
      have hBk := hB0.like all pl.1 fl.1 fl.2.1 fl.2.2.1
      have hlt : q + i < Bk.slots.size := by rw [fl.2.2.1]; omega
      have c3 : Steps p.tables e below (s₁.setTop (entryFrame m #[.ref b, .int (Int32.ofNat o), .ref d, .int (Int32.ofNat q), .int (Int32.ofNat len)] 7)) (Tl.setTop (mkF m 12 #[.val (.ref b), .val (.int (Int32.ofNat (o + i))), .val (.ref d), .val (.int (Int32.ofNat (q + i))), .val (.int (Int32.ofNat len)), .val (.int (Int32.ofNat i)), z] [.int (Int32.ofNat (o + i)), .ref b])) := cl.trans (by
        refine XS.iload Xl.here hexec rfl (hb hbytes d3) rfl ?_
        refine XS.iload Xl.here hexec rfl (hb hbytes d5) rfl ?_
        refine XS.icmpNo Xl.here hexec rfl (hb hbytes d7) rfl (ii_ge_f (lt32 (by omega) (by omega))) ?_
        refine XS.aloadN Xl.here hexec rfl (hb hbytes d10) rfl rfl ?_
        refine XS.iloadN Xl.here hexec rfl (hb hbytes d11) rfl ?_
        exact Steps.refl _)
      have c4 : Steps p.tables e below (s₁.setTop (entryFrame m #[.ref b, .int (Int32.ofNat o), .ref d, .int (Int32.ofNat q), .int (Int32.ofNat len)] 7)) (Tl.setTop (mkF m 13 #[.val (.ref b), .val (.int (Int32.ofNat (o + i))), .val (.ref d), .val (.int (Int32.ofNat (q + i))), .val (.int (Int32.ofNat len)), .val (.int (Int32.ofNat i)), z] [.int (cv A (o + i))])) := c3.trans (by
        refine Xl.aget hexec hAl rfl (hA.get (i := o + i) (by omega)) rfl rfl (hb hbytes d12) ?_
        exact Steps.refl _)
      have c5 : Steps p.tables e below (s₁.setTop (entryFrame m #[.ref b, .int (Int32.ofNat o), .ref d, .int (Int32.ofNat q), .int (Int32.ofNat len)] 7)) (Tl.setTop (mkF m 15 #[.val (.ref b), .val (.int (Int32.ofNat (o + i))), .val (.ref d), .val (.int (Int32.ofNat (q + i))), .val (.int (Int32.ofNat len)), .val (.int (Int32.ofNat i)), .val (.int (cv A (o + i)))] [])) := c4.trans (by
        refine XS.istoreS Xl.here hexec rfl (hb hbytes d13) rfl rfl hz ?_
        exact Steps.refl _)
      have c6 : Steps p.tables e below (s₁.setTop (entryFrame m #[.ref b, .int (Int32.ofNat o), .ref d, .int (Int32.ofNat q), .int (Int32.ofNat len)] 7)) (Tl.setTop (mkF m 31 #[.val (.ref b), .val (.int (Int32.ofNat (o + i))), .val (.ref d), .val (.int (Int32.ofNat (q + i))), .val (.int (Int32.ofNat len)), .val (.int (Int32.ofNat i)), .val (.int (cv A (o + i)))] [.int (lo8 (cv A (o + i))), .int (Int32.ofNat (q + i)), .ref d])) := c5.trans (by
        refine XS.iload Xl.here hexec rfl (hb hbytes d15) rfl ?_
        refine sipushV Xl.here hexec rfl 255 (hb hbytes d17) (by decide) ?_
        refine XS.icmpYes Xl.here hexec rfl (pc0 := 20) rfl (hb hbytes d20) rfl (ii_le_t (hp i (by omega))) (by decide) rfl ?_
        refine XS.aloadN Xl.here hexec rfl (hb hbytes d26) rfl rfl ?_
        refine XS.iloadN Xl.here hexec rfl (hb hbytes d27) rfl ?_
        refine XS.iload Xl.here hexec rfl (hb hbytes d28) rfl ?_
        refine i2b Xl.here hexec rfl (hb hbytes d30) rfl ?_
        exact Steps.refl _)
      obtain ⟨T7, X7, p7, st7⟩ := Xl.aput hexec hBk rfl hlt rfl (fits_lo8 (cv A (o + i))) (g := (mkF m 31 #[.val (.ref b), .val (.int (Int32.ofNat (o + i))), .val (.ref d), .val (.int (Int32.ofNat (q + i))), .val (.int (Int32.ofNat len)), .val (.int (Int32.ofNat i)), .val (.int (cv A (o + i)))] [.int (lo8 (cv A (o + i))), .int (Int32.ofNat (q + i)), .ref d])) rfl (rest := []) rfl (hb hbytes d31)
      have c8 : Steps p.tables e below (s₁.setTop (entryFrame m #[.ref b, .int (Int32.ofNat o), .ref d, .int (Int32.ofNat q), .int (Int32.ofNat len)] 7)) (T7.setTop (mkF m 32 #[.val (.ref b), .val (.int (Int32.ofNat (o + i))), .val (.ref d), .val (.int (Int32.ofNat (q + i))), .val (.int (Int32.ofNat len)), .val (.int (Int32.ofNat i)), .val (.int (cv A (o + i)))] [])) := c6.trans (st7 _ (Steps.refl _))
      have c9 : Steps p.tables e below (s₁.setTop (entryFrame m #[.ref b, .int (Int32.ofNat o), .ref d, .int (Int32.ofNat q), .int (Int32.ofNat len)] 7)) (T7.setTop (mkF m 3 #[.val (.ref b), .val (.int (Int32.ofNat (o + i) + 1)), .val (.ref d), .val (.int (Int32.ofNat (q + i) + 1)), .val (.int (Int32.ofNat len)), .val (.int (Int32.ofNat i + 1)), .val (.int (cv A (o + i)))] [])) := c8.trans (by
        refine iincV X7.here hexec rfl 1 (hb hbytes d32) (by decide) rfl rfl ?_
        refine iincV X7.here hexec rfl 1 (hb hbytes d35) (by decide) rfl rfl ?_
        refine iincV X7.here hexec rfl 1 (hb hbytes d38) (by decide) rfl rfl ?_
        refine XS.goto X7.here hexec rfl (pc0 := 41) rfl (hb hbytes d41) (by decide) rfl ?_
        exact Steps.refl _)
      have c10 : Steps p.tables e below (s₁.setTop (entryFrame m #[.ref b, .int (Int32.ofNat o), .ref d, .int (Int32.ofNat q), .int (Int32.ofNat len)] 7)) (T7.setTop (mkF m 3 #[.val (.ref b), .val (.int (Int32.ofNat (o + (i + 1)))), .val (.ref d), .val (.int (Int32.ofNat (q + (i + 1)))), .val (.int (Int32.ofNat len)), .val (.int (Int32.ofNat (i + 1))), .val (.int (cv A (o + i)))] [])) := by
        have := c9
        rw [succ32, succ32, succ32] at this
        exact this
      exact ih (i + 1) (by omega) _ (Or.inr ⟨_, rfl, rfl⟩) T7 _ (by rw [copyLocs_step, ← List.append_assoc]; exact X7) (pl.trans p7) (fl.step (by omega) hlt (by simp)) c10
  obtain ⟨T9, B9, z9, X9, p9, f9, g9⟩ := loop len 0 (by omega) .unset (Or.inl rfl) s₁ B (by simpa [copyLocs] using X0) ⟨hB0.1, fun _ _ => rfl, rfl⟩ (Laid.zero _ _ _) c2
  have c11 : Steps p.tables e below (s₁.setTop (entryFrame m #[.ref b, .int (Int32.ofNat o), .ref d, .int (Int32.ofNat q), .int (Int32.ofNat len)] 7)) (T9.setTop (mkF m 46 #[.val (.ref b), .val (.int (Int32.ofNat (o + len))), .val (.ref d), .val (.int (Int32.ofNat (q + len))), .val (.int (Int32.ofNat len)), .val (.int (Int32.ofNat len)), z9] [.int (Int32.ofNat len)])) := g9.trans (by
    refine XS.iload X9.here hexec rfl (hb hbytes d3) rfl ?_
    refine XS.iload X9.here hexec rfl (hb hbytes d5) rfl ?_
    refine XS.icmpYes X9.here hexec rfl (pc0 := 7) rfl (hb hbytes d7) rfl (ii_ge_t (nlt32 (by omega) (Nat.le_refl _))) (by decide) rfl ?_
    refine XS.iload X9.here hexec rfl (hb hbytes d44) rfl ?_
    exact Steps.refl _)
  exact ⟨T9, some (.int (Int32.ofNat len)), _, _, _, X9, by simp, rfl, rfl, (fun h => by cases h), ⟨rfl, B9, p9.from hh0, f9⟩, fun fs hl => c11.trans (X9.ireturnOut hexec hret rfl (Or.inl rfl) (hb hbytes d46) hl)⟩
end Cmp5
namespace Cmp3
def yN : MethodName := ⟨"java/lang/StringUTF16", "compress", "([CII)[B"⟩
abbrev yB : ByteArray := jdk_52_method_16_code
theorem d0 : decode yB 0 = .ok (.iload_n 2, 1) := by decide +kernel
theorem d1 : decode yB 1 = .ok (.newarray .byte, 2) := by decide +kernel
theorem d3 : decode yB 3 = .ok (.astore_n 3, 1) := by decide +kernel
theorem d4 : decode yB 4 = .ok (.aload_n 0, 1) := by decide +kernel
theorem d5 : decode yB 5 = .ok (.iload_n 1, 1) := by decide +kernel
theorem d6 : decode yB 6 = .ok (.aload_n 3, 1) := by decide +kernel
theorem d7 : decode yB 7 = .ok (.iconst 0, 1) := by decide +kernel
theorem d8 : decode yB 8 = .ok (.iload_n 2, 1) := by decide +kernel
theorem d9 : decode yB 9 = .ok (.invokestatic 115, 3) := by decide +kernel
theorem d12 : decode yB 12 = .ok (.istore 4, 2) := by decide +kernel
theorem d14 : decode yB 14 = .ok (.iload 4, 2) := by decide +kernel
theorem d16 : decode yB 16 = .ok (.iload_n 2, 1) := by decide +kernel
theorem d17 : decode yB 17 = .ok (.if_icmp (.eq) 40, 3) := by decide +kernel
theorem d57 : decode yB 57 = .ok (.aload_n 3, 1) := by decide +kernel
theorem d58 : decode yB 58 = .ok (.areturn, 1) := by decide +kernel
def site : List Cond := [.arrayClass .byte, Cmp5.tab] ++ staticW U16 115 Cmp5.yN
def tab : Cond := tabOf yN yB 6 (some (.array .byte)) site
def P (b : Addr) (A : Cell) (o len : Nat) (args : Array Value) (s : State) : Prop := args = #[.ref b, .int (Int32.ofNat o), .int (Int32.ofNat len)] ∧ Ch b A s ∧ o + len ≤ A.slots.size ∧ len ≤ 536870912 ∧ ∀ i, i < len → ¬ 255 < cv A (o + i)
def E (b : Addr) (A : Cell) (o len : Nat) (r : Option Value) (s u : State) : Prop := NewArr .byte "[B" len (fun j => .int (lo8 (cv A (o + j)))) r s u ∧ u.heap.size = s.heap.size + 1
/-- no char of the range above 255: a new byte[] of their low bytes -/
theorem law (l : Launch) (b : Addr) (A : Cell) (o len : Nat) : Law l yN 3 3 1 18 yB 6 (some (.array .byte)) site (P b A o len) (E b A o len) [] 1 len := by
  refine Law.of_walk (plainFor_of_name (by decide +kernel)) (by decide +kernel) (by decide +kernel) (by decide) (fun _ _ h => by rw [h.1]; rfl) (fun _ U U' hal hh h => ⟨h.1, h.2.1.mv hal hh, h.2.2⟩) (fun r U U' V V' h1 hal h2 h => ⟨NewArr.mv r U U' V V' h1 hal h2 h.1, by rw [h1, h2]; exact h.2⟩) ?_
  intro p e s m args below meth c s₁ X0 hexec hbytes hml hret hlk hnm hown hh0 W hP
  obtain ⟨rfl, hA, l1, l2, hp⟩ := hP
  have a31 := hA.1.2.2.2
  have c1 : Steps p.tables e below (s₁.setTop (entryFrame m #[.ref b, .int (Int32.ofNat o), .int (Int32.ofNat len)] 6)) (s₁.setTop (mkF m 0 #[.val (.ref b), .val (.int (Int32.ofNat o)), .val (.int (Int32.ofNat len)), .unset, .unset, .unset] [])) := entry rfl
  have c2 : Steps p.tables e below (s₁.setTop (entryFrame m #[.ref b, .int (Int32.ofNat o), .int (Int32.ofNat len)] 6)) (s₁.setTop (mkF m 1 #[.val (.ref b), .val (.int (Int32.ofNat o)), .val (.int (Int32.ofNat len)), .unset, .unset, .unset] [.int (Int32.ofNat len)])) := c1.trans (by
    refine XS.iloadN X0.here hexec rfl (hb hbytes d0) rfl ?_
    exact Steps.refl _)
  obtain ⟨T3, B3, X3, ba3, bs3, bv3, bh3, bf3, st3⟩ := X0.anew hexec (atype := .byte) (wk W (.arrayClass .byte)) rfl (by show len * 1 ≤ _; omega) (by omega) (g := (mkF m 1 #[.val (.ref b), .val (.int (Int32.ofNat o)), .val (.int (Int32.ofNat len)), .unset, .unset, .unset] [.int (Int32.ofNat len)])) rfl (hb hbytes d1) (rest := []) rfl (Nat.le_refl _) (by show 0 + len ≤ len; omega)
  rw [hh0] at ba3 st3
  have kp3 : XT.Kept s T3 := (XT.Kept.of_eq hh0).push bh3
  have hA3 := hA.keep X3.warmed.alike (kp3 _ _ hA.1.1)
  have hne : b ≠ s.heap.size := hA.1.ne
  have c4 : Steps p.tables e below (s₁.setTop (entryFrame m #[.ref b, .int (Int32.ofNat o), .int (Int32.ofNat len)] 6)) (T3.setTop (mkF m 3 #[.val (.ref b), .val (.int (Int32.ofNat o)), .val (.int (Int32.ofNat len)), .unset, .unset, .unset] [.ref s.heap.size])) := c2.trans (st3 _ (Steps.refl _))
  have c5 : Steps p.tables e below (s₁.setTop (entryFrame m #[.ref b, .int (Int32.ofNat o), .int (Int32.ofNat len)] 6)) (T3.setTop (mkF m 9 #[.val (.ref b), .val (.int (Int32.ofNat o)), .val (.int (Int32.ofNat len)), .val (.ref s.heap.size), .unset, .unset] [.int (Int32.ofNat len), .int 0, .ref s.heap.size, .int (Int32.ofNat o), .ref b])) := c4.trans (by
    refine XS.astoreN X3.here hexec rfl (hb hbytes d3) rfl rfl rfl ?_
    refine XS.aloadN X3.here hexec rfl (hb hbytes d4) rfl rfl ?_
    refine XS.iloadN X3.here hexec rfl (hb hbytes d5) rfl ?_
    refine XS.aloadN X3.here hexec rfl (hb hbytes d6) rfl rfl ?_
    refine iconstV X3.here hexec rfl 0 (hb hbytes d7) (by decide) ?_
    refine XS.iloadN X3.here hexec rfl (hb hbytes d8) rfl ?_
    exact Steps.refl _)
  obtain ⟨v6, T6, X6, E6, g6⟩ := X3.callS hexec (Cmp5.law l b A s.heap.size B3 o 0 len) hown (wks W (staticW U16 115 Cmp5.yN)) (wk W Cmp5.tab) (W := 0) (Nat.le_of_ble_eq_true rfl) (Nat.le_of_ble_eq_true rfl) (Nat.le_refl _) (by show 0 + len + 0 ≤ len; omega) (g := (mkF m 9 #[.val (.ref b), .val (.int (Int32.ofNat o)), .val (.int (Int32.ofNat len)), .val (.ref s.heap.size), .unset, .unset] [.int (Int32.ofNat len), .int (Int32.ofNat 0), .ref s.heap.size, .int (Int32.ofNat o), .ref b])) rfl (by rw [hml]; rfl) c5 (argsL := [.ref b, .int (Int32.ofNat o), .ref s.heap.size, .int (Int32.ofNat 0), .int (Int32.ofNat len)]) (rest := []) rfl rfl (by show 2 * 0 + 0 ≤ _; decide) (hb hbytes d9) (⟨rfl, hA3, ba3, hne, l1, by rw [bs3]; simp, hp⟩)
  obtain ⟨rfl, B6, p6, f6⟩ := E6
  have c7 : Steps p.tables e below (s₁.setTop (entryFrame m #[.ref b, .int (Int32.ofNat o), .int (Int32.ofNat len)] 6)) (T6.setTop (mkF m 12 #[.val (.ref b), .val (.int (Int32.ofNat o)), .val (.int (Int32.ofNat len)), .val (.ref s.heap.size), .unset, .unset] [.int (Int32.ofNat len)])) := g6
  have c8 : Steps p.tables e below (s₁.setTop (entryFrame m #[.ref b, .int (Int32.ofNat o), .int (Int32.ofNat len)] 6)) (T6.setTop (mkF m 58 #[.val (.ref b), .val (.int (Int32.ofNat o)), .val (.int (Int32.ofNat len)), .val (.ref s.heap.size), .val (.int (Int32.ofNat len)), .unset] [.ref s.heap.size])) := c7.trans (by
    refine XS.istore X6.here hexec rfl (hb hbytes d12) rfl rfl ?_
    refine XS.iload X6.here hexec rfl (hb hbytes d14) rfl ?_
    refine XS.iloadN X6.here hexec rfl (hb hbytes d16) rfl ?_
    refine XS.icmpYes X6.here hexec rfl (pc0 := 17) rfl (hb hbytes d17) rfl (ii_eq_t rfl) (by decide) rfl ?_
    refine XS.aloadN X6.here hexec rfl (hb hbytes d57) rfl rfl ?_
    exact Steps.refl _)
  have X8 := X6.wide (L' := []) (cells' := 1) (slots' := len) (fun x hx hlt => by
    simp only [List.nil_append, copyLocs, List.mem_map, List.mem_range] at hx
    obtain ⟨i, -, rfl⟩ := hx
    exact absurd hlt (Nat.lt_irrefl _)) (Nat.le_refl _) (by omega)
  exact ⟨T6, some (.ref s.heap.size), _, _, _, X8, rfl, rfl, rfl, (fun h => by cases h), ⟨⟨rfl, B6, ba3.like (X3.warmed.alike.symm.trans X6.warmed.alike) p6.1 f6.1 f6.2.1 f6.2.2.1, f6.2.1.trans bv3, by rw [X6.warmed.alike.findClass, f6.1]; exact bf3, by rw [f6.2.2.1, bs3]; simp, fun j hj => by rw [f6.2.2.2 j, if_pos (by omega)]; rfl, kp3.put p6 (Nat.le_refl _)⟩, by rw [p6.2.2, bh3, hh0]; simp⟩, fun fs hl => c8.trans (X8.areturnOut hexec rfl hret rfl (hb hbytes d58) hl)⟩
end Cmp3
namespace CodL
def yN : MethodName := ⟨"java/lang/StringUTF16", "coderFromArrayLen", "([BI)B"⟩
abbrev yB : ByteArray := jdk_52_method_15_code
theorem d0 : decode yB 0 = .ok (.iload_n 1, 1) := by decide +kernel
theorem d1 : decode yB 1 = .ok (.aload_n 0, 1) := by decide +kernel
theorem d2 : decode yB 2 = .ok (.arraylength, 1) := by decide +kernel
theorem d3 : decode yB 3 = .ok (.isub, 1) := by decide +kernel
theorem d4 : decode yB 4 = .ok (.bipush 31, 2) := by decide +kernel
theorem d6 : decode yB 6 = .ok (.iushr, 1) := by decide +kernel
theorem d7 : decode yB 7 = .ok (.i2b, 1) := by decide +kernel
theorem d8 : decode yB 8 = .ok (.ireturn, 1) := by decide +kernel
def site : List Cond := []
def tab : Cond := tabOf yN yB 2 (some .byte) site
def P (d : Addr) (B : Cell) (args : Array Value) (s : State) : Prop := args = #[.ref d, .int (Int32.ofNat B.slots.size)] ∧ Arr .byte d B s
def E (r : Option Value) (s u : State) : Prop := XT.PureE (some (.int 0)) r s u
/-- an array as long as the number of chars: LATIN1 -/
theorem law (l : Launch) (d : Addr) (B : Cell) : Law l yN 2 2 0 0 yB 2 (some .byte) site (P d B) E [] 0 0 := by
  refine Law.of_walk (plainFor_of_name (by decide +kernel)) (by decide +kernel) (by decide +kernel) (by decide) (fun _ _ h => by rw [h.1]; rfl) (fun _ U U' hal hh h => ⟨h.1, h.2.mv hal hh⟩) (fun r U U' V V' h1 hal h2 h => XT.PureE.mv r U U' V V' h1 hal h2 h) ?_
  intro p e s m args below meth c s₁ X0 hexec hbytes hml hret hlk hnm hown hh0 W hP
  obtain ⟨rfl, hB⟩ := hP
  have hB0 := hB.mv X0.warmed.alike hh0
  have c1 : Steps p.tables e below (s₁.setTop (entryFrame m #[.ref d, .int (Int32.ofNat B.slots.size)] 2)) (s₁.setTop (mkF m 0 #[.val (.ref d), .val (.int (Int32.ofNat B.slots.size))] [])) := entry rfl
  have c2 : Steps p.tables e below (s₁.setTop (entryFrame m #[.ref d, .int (Int32.ofNat B.slots.size)] 2)) (s₁.setTop (mkF m 2 #[.val (.ref d), .val (.int (Int32.ofNat B.slots.size))] [.ref d, .int (Int32.ofNat B.slots.size)])) := c1.trans (by
    refine XS.iloadN X0.here hexec rfl (hb hbytes d0) rfl ?_
    refine XS.aloadN X0.here hexec rfl (hb hbytes d1) rfl rfl ?_
    exact Steps.refl _)
  have c3 : Steps p.tables e below (s₁.setTop (entryFrame m #[.ref d, .int (Int32.ofNat B.slots.size)] 2)) (s₁.setTop (mkF m 8 #[.val (.ref d), .val (.int (Int32.ofNat B.slots.size))] [.int (lo8 (ushr (Int32.ofNat B.slots.size - Int32.ofNat B.slots.size) 31))])) := c2.trans (by
    refine X0.alen hexec hB0 rfl rfl (hb hbytes d2) ?_
    refine XS.isub X0.here hexec rfl (hb hbytes d3) rfl ?_
    refine bipushV X0.here hexec rfl 31 (hb hbytes d4) (by decide) ?_
    refine iushr X0.here hexec rfl (hb hbytes d6) rfl ?_
    refine i2b X0.here hexec rfl (hb hbytes d7) rfl ?_
    exact Steps.refl _)
  have e0 : lo8 (ushr (Int32.ofNat B.slots.size - Int32.ofNat B.slots.size) 31) = 0 := by rw [Int32.sub_self]; decide
  rw [e0] at c3
  exact ⟨s₁, some (.int 0), _, _, _, X0, rfl, rfl, rfl, (fun h => by cases h), ⟨rfl, hh0⟩, fun fs hl => c3.trans (X0.ireturnOut hexec hret rfl (Or.inr (Or.inr (Or.inl rfl))) (hb hbytes d8) hl)⟩
end CodL
/-- the String at a is Latin-1 over a new byte[] (the heap's one new cell): the low bytes of the len chars of A from o on; every cell but a is kept -/
def Got (a : Addr) (D : Cell) (fV fC : Field) (A : Cell) (o len : Nat) (r : Option Value) (s u : State) : Prop := r = none ∧ ∃ D' V : Cell, Blank "java/lang/String" a D' u ∧ Same D D' [fV.slot, fC.slot] ∧ D'.slots[fV.slot]? = some (.ref s.heap.size) ∧ D'.slots[fC.slot]? = some (.int 0) ∧ Arr .byte s.heap.size V u ∧ V.vm = .none ∧ u.vm.findClass "[B" = some V.cls ∧ V.slots.size = len ∧ (∀ j, j < len → V.slots[j]? = some (.int (lo8 (cv A (o + j))))) ∧ (∀ (y : Addr) (c : Cell), y ≠ a → s.heap[y]? = some c → u.heap[y]? = some c) ∧ u.heap.size = s.heap.size + 1
theorem Got.mv {a : Addr} {D A : Cell} {fV fC : Field} {o len : Nat} : ∀ r (U U' V V' : State), U'.heap = U.heap → V.vm.Alike V'.vm → V'.heap = V.heap → Got a D fV fC A o len r U V → Got a D fV fC A o len r U' V' :=
  fun r U U' V V' h1 hal h2 ⟨e0, D', X, a1, a2, a3, a4, a5, a6, a7, a8, a9, a10, a11⟩ => ⟨e0, D', X, a1.mv hal h2, a2, by rw [h1]; exact a3, a4, by rw [h1]; exact a5.mv hal h2, a6, by rw [hal.findClass]; exact a7, a8, a9, by rw [h1, h2]; exact a10, by rw [h1, h2]; exact a11⟩
namespace New4
def yN : MethodName := ⟨"java/lang/String", "<init>", "([CIILjava/lang/Void;)V"⟩
abbrev yB : ByteArray := jdk_42_method_149_code
theorem d0 : decode yB 0 = .ok (.aload_n 0, 1) := by decide +kernel
theorem d1 : decode yB 1 = .ok (.invokespecial 1, 3) := by decide +kernel
theorem d4 : decode yB 4 = .ok (.iload_n 3, 1) := by decide +kernel
theorem d5 : decode yB 5 = .ok (.ifCond (.ne) 22, 3) := by decide +kernel
theorem d27 : decode yB 27 = .ok (.getstatic 38, 3) := by decide +kernel
theorem d30 : decode yB 30 = .ok (.ifCond (.eq) 28, 3) := by decide +kernel
theorem d33 : decode yB 33 = .ok (.aload_n 1, 1) := by decide +kernel
theorem d34 : decode yB 34 = .ok (.iload_n 2, 1) := by decide +kernel
theorem d35 : decode yB 35 = .ok (.iload_n 3, 1) := by decide +kernel
theorem d36 : decode yB 36 = .ok (.invokestatic 177, 3) := by decide +kernel
theorem d39 : decode yB 39 = .ok (.astore 5, 2) := by decide +kernel
theorem d41 : decode yB 41 = .ok (.aload_n 0, 1) := by decide +kernel
theorem d42 : decode yB 42 = .ok (.aload 5, 2) := by decide +kernel
theorem d44 : decode yB 44 = .ok (.iload_n 3, 1) := by decide +kernel
theorem d45 : decode yB 45 = .ok (.invokestatic 47, 3) := by decide +kernel
theorem d48 : decode yB 48 = .ok (.putfield 15, 3) := by decide +kernel
theorem d51 : decode yB 51 = .ok (.aload_n 0, 1) := by decide +kernel
theorem d52 : decode yB 52 = .ok (.aload 5, 2) := by decide +kernel
theorem d54 : decode yB 54 = .ok (.putfield 9, 3) := by decide +kernel
theorem d57 : decode yB 57 = .ok (.return_, 1) := by decide +kernel
def site : List Cond := [.fieldLink "java/lang/String" 38 "java/lang/String" "COMPACT_STRINGS" "Z", Cmp3.tab, CodL.tab, .laysFinal "java/lang/String" "java/lang/String" "value" "[B", .fieldLink "java/lang/String" 9 "java/lang/String" "value" "[B", .laysFinal "java/lang/String" "java/lang/String" "coder" "B", .fieldLink "java/lang/String" 15 "java/lang/String" "coder" "B"] ++ objW "java/lang/String" 1 ++ staticW "java/lang/String" 177 Cmp3.yN ++ staticW "java/lang/String" 47 CodL.yN
def tab : Cond := tabOf yN yB 6 none site
def P (a : Addr) (D : Cell) (fV fC : Field) (b : Addr) (A : Cell) (z : Int32) (o len : Nat) (args : Array Value) (s : State) : Prop := args = #[.ref a, .ref b, .int (Int32.ofNat o), .int (Int32.ofNat len), .null] ∧ Blank "java/lang/String" a D s ∧ Found "java/lang/String" "value" "[B" fV s ∧ Found "java/lang/String" "coder" "B" fC s ∧ Ch b A s ∧ StaticIs s "java/lang/String" "COMPACT_STRINGS" "Z" (.int z) ∧ ¬ z = 0 ∧ 0 < len ∧ o + len ≤ A.slots.size ∧ len ≤ 536870912 ∧ ∀ i, i < len → ¬ 255 < cv A (o + i)
def E (a : Addr) (D : Cell) (fV fC : Field) (A : Cell) (o len : Nat) (r : Option Value) (s u : State) : Prop := Got a D fV fC A o len r s u
/-- len > 0, no char of the range above 255: a Latin-1 String of their low bytes -/
theorem law (l : Launch) (a : Addr) (D : Cell) (fV fC : Field) (b : Addr) (A : Cell) (z : Int32) (o len : Nat) : Law l yN 5 4 2 35 yB 6 none site (P a D fV fC b A z o len) (E a D fV fC A o len) [⟨a, fC.slot⟩, ⟨a, fV.slot⟩] 1 len := by
  refine Law.of_walk (plainFor_of_name (by decide +kernel)) (by decide +kernel) (by decide +kernel) (by decide) (fun _ _ h => by rw [h.1]; rfl) (fun _ U U' hal hh h => ⟨h.1, h.2.1.mv hal hh, h.2.2.1.al hal, h.2.2.2.1.al hal, h.2.2.2.2.1.mv hal hh, h.2.2.2.2.2.1.there hal hh, h.2.2.2.2.2.2⟩) (fun r U U' V V' h1 hal h2 h => Got.mv r U U' V V' h1 hal h2 h) ?_
  intro p e s m args below meth c s₁ X0 hexec hbytes hml hret hlk hnm hown hh0 W hP
  obtain ⟨rfl, hB, f1, f2, hA, s1, hz, l0, l1, l2, hp⟩ := hP
  have a31 := hA.1.2.2.2
  have c1 : Steps p.tables e below (s₁.setTop (entryFrame m #[.ref a, .ref b, .int (Int32.ofNat o), .int (Int32.ofNat len), .null] 6)) (s₁.setTop (mkF m 0 #[.val (.ref a), .val (.ref b), .val (.int (Int32.ofNat o)), .val (.int (Int32.ofNat len)), .val .null, .unset] [])) := entry rfl
  have c2 : Steps p.tables e below (s₁.setTop (entryFrame m #[.ref a, .ref b, .int (Int32.ofNat o), .int (Int32.ofNat len), .null] 6)) (s₁.setTop (mkF m 1 #[.val (.ref a), .val (.ref b), .val (.int (Int32.ofNat o)), .val (.int (Int32.ofNat len)), .val .null, .unset] [.ref a])) := c1.trans (by
    refine XS.aloadN X0.here hexec rfl (hb hbytes d0) rfl rfl ?_
    exact Steps.refl _)
  obtain ⟨T3, X3, q3, st3⟩ := X0.oinit hexec hown (wks W (objW "java/lang/String" 1)) (g := (mkF m 1 #[.val (.ref a), .val (.ref b), .val (.int (Int32.ofNat o)), .val (.int (Int32.ofNat len)), .val .null, .unset] [.ref a])) rfl (by rw [hml]; rfl) (rest := []) rfl (hb hbytes d1) (W := 0) (by show 2 * 0 + 0 ≤ _; decide) (Nat.le_of_ble_eq_true rfl) (Nat.le_of_ble_eq_true rfl)
  have hh3 := q3.trans hh0
  have c4 : Steps p.tables e below (s₁.setTop (entryFrame m #[.ref a, .ref b, .int (Int32.ofNat o), .int (Int32.ofNat len), .null] 6)) (T3.setTop (mkF m 27 #[.val (.ref a), .val (.ref b), .val (.int (Int32.ofNat o)), .val (.int (Int32.ofNat len)), .val .null, .unset] [])) := (c2.trans (st3 _ (Steps.refl _))).trans (by
    refine XS.iloadN X3.here hexec rfl (hb hbytes d4) rfl ?_
    refine XS.ifYes X3.here hexec rfl (pc0 := 5) rfl (hb hbytes d5) rfl (i0_ne_t (nz32 (by omega) l0)) (by decide) rfl ?_
    exact Steps.refl _)
  obtain ⟨T5, X5, q5, st5⟩ := X3.sget hexec hown (wk W (.fieldLink "java/lang/String" 38 "java/lang/String" "COMPACT_STRINGS" "Z")) s1 (fun _ _ h => by rw [hh3]; exact h) (g := (mkF m 27 #[.val (.ref a), .val (.ref b), .val (.int (Int32.ofNat o)), .val (.int (Int32.ofNat len)), .val .null, .unset] [])) rfl (hb hbytes d27)
  have hh5 := q5.trans hh3
  have c6 : Steps p.tables e below (s₁.setTop (entryFrame m #[.ref a, .ref b, .int (Int32.ofNat o), .int (Int32.ofNat len), .null] 6)) (T5.setTop (mkF m 30 #[.val (.ref a), .val (.ref b), .val (.int (Int32.ofNat o)), .val (.int (Int32.ofNat len)), .val .null, .unset] [.int z])) := c4.trans (st5 _ (Steps.refl _))
  have c7 : Steps p.tables e below (s₁.setTop (entryFrame m #[.ref a, .ref b, .int (Int32.ofNat o), .int (Int32.ofNat len), .null] 6)) (T5.setTop (mkF m 36 #[.val (.ref a), .val (.ref b), .val (.int (Int32.ofNat o)), .val (.int (Int32.ofNat len)), .val .null, .unset] [.int (Int32.ofNat len), .int (Int32.ofNat o), .ref b])) := c6.trans (by
    refine XS.ifNo X5.here hexec rfl (hb hbytes d30) rfl (i0_eq_f hz) ?_
    refine XS.aloadN X5.here hexec rfl (hb hbytes d33) rfl rfl ?_
    refine XS.iloadN X5.here hexec rfl (hb hbytes d34) rfl ?_
    refine XS.iloadN X5.here hexec rfl (hb hbytes d35) rfl ?_
    exact Steps.refl _)
  obtain ⟨v8, T8, X8, E8, g8⟩ := X5.callS hexec (Cmp3.law l b A o len) hown (wks W (staticW "java/lang/String" 177 Cmp3.yN)) (wk W Cmp3.tab) (W := 0) (Nat.le_of_ble_eq_true rfl) (Nat.le_of_ble_eq_true rfl) (Nat.le_refl _) (by show 0 + len ≤ len; omega) (g := (mkF m 36 #[.val (.ref a), .val (.ref b), .val (.int (Int32.ofNat o)), .val (.int (Int32.ofNat len)), .val .null, .unset] [.int (Int32.ofNat len), .int (Int32.ofNat o), .ref b])) rfl (by rw [hml]; rfl) c7 (argsL := [.ref b, .int (Int32.ofNat o), .int (Int32.ofNat len)]) (rest := []) rfl rfl (by show 2 * 0 + 0 ≤ _; decide) (hb hbytes d36) (⟨rfl, hA.mv X5.warmed.alike hh5, l1, l2, hp⟩)
  obtain ⟨e8, z8⟩ := E8
  obtain ⟨rfl, N, n1, n2, n3, n4, n5, n6⟩ := NewArr.mv _ T5 s _ _ hh5.symm (Vm.Alike.refl _) rfl e8
  rw [hh5] at z8
  have hB1 := hB.keep X8.warmed.alike (n6 _ _ hB.1)
  have hne : s.heap.size ≠ a := (Nat.ne_of_lt (Array.getElem?_eq_some_iff.mp hB.1).1).symm
  have c9 : Steps p.tables e below (s₁.setTop (entryFrame m #[.ref a, .ref b, .int (Int32.ofNat o), .int (Int32.ofNat len), .null] 6)) (T8.setTop (mkF m 39 #[.val (.ref a), .val (.ref b), .val (.int (Int32.ofNat o)), .val (.int (Int32.ofNat len)), .val .null, .unset] [.ref s.heap.size])) := g8
  have c10 : Steps p.tables e below (s₁.setTop (entryFrame m #[.ref a, .ref b, .int (Int32.ofNat o), .int (Int32.ofNat len), .null] 6)) (T8.setTop (mkF m 45 #[.val (.ref a), .val (.ref b), .val (.int (Int32.ofNat o)), .val (.int (Int32.ofNat len)), .val .null, .val (.ref s.heap.size)] [.int (Int32.ofNat N.slots.size), .ref s.heap.size, .ref a])) := by
    have hc : Steps p.tables e below (s₁.setTop (entryFrame m #[.ref a, .ref b, .int (Int32.ofNat o), .int (Int32.ofNat len), .null] 6)) (T8.setTop (mkF m 45 #[.val (.ref a), .val (.ref b), .val (.int (Int32.ofNat o)), .val (.int (Int32.ofNat len)), .val .null, .val (.ref s.heap.size)] [.int (Int32.ofNat len), .ref s.heap.size, .ref a])) := c9.trans (by
      refine XS.astore X8.here hexec rfl (hb hbytes d39) rfl rfl rfl ?_
      refine XS.aloadN X8.here hexec rfl (hb hbytes d41) rfl rfl ?_
      refine XS.aload X8.here hexec rfl (hb hbytes d42) rfl rfl ?_
      refine XS.iloadN X8.here hexec rfl (hb hbytes d44) rfl ?_
      exact Steps.refl _)
    rw [n4]; exact hc
  obtain ⟨v11, T11, X11, E11, g11⟩ := X8.callS hexec (CodL.law l s.heap.size N) hown (wks W (staticW "java/lang/String" 47 CodL.yN)) (wk W CodL.tab) (W := 1) (Nat.le_of_ble_eq_true rfl) (Nat.le_of_ble_eq_true rfl) (Nat.le_refl _) (by show 0 + len + 0 ≤ len; omega) (g := (mkF m 45 #[.val (.ref a), .val (.ref b), .val (.int (Int32.ofNat o)), .val (.int (Int32.ofNat len)), .val .null, .val (.ref s.heap.size)] [.int (Int32.ofNat N.slots.size), .ref s.heap.size, .ref a])) rfl (by rw [hml]; rfl) c10 (argsL := [.ref s.heap.size, .int (Int32.ofNat N.slots.size)]) (rest := [.ref a]) rfl rfl (by show 2 * 0 + (1 + 0) ≤ _; decide) (hb hbytes d45) (⟨rfl, n1⟩)
  obtain ⟨rfl, q11⟩ := E11
  have hB11 := hB1.mv (X8.warmed.alike.symm.trans X11.warmed.alike) q11
  have c12 : Steps p.tables e below (s₁.setTop (entryFrame m #[.ref a, .ref b, .int (Int32.ofNat o), .int (Int32.ofNat len), .null] 6)) (T11.setTop (mkF m 48 #[.val (.ref a), .val (.ref b), .val (.int (Int32.ofNat o)), .val (.int (Int32.ofNat len)), .val .null, .val (.ref s.heap.size)] [.int 0, .ref a])) := g11
  obtain ⟨T13, X13, p13, bl13, sl13, st13⟩ := X11.finit hexec hown (wk W (.fieldLink "java/lang/String" 15 "java/lang/String" "coder" "B")) (Or.inr ⟨_, (wk W (.laysFinal "java/lang/String" "java/lang/String" "coder" "B"))⟩) (Or.inl ⟨rfl, hnm⟩) f2 (Or.inl rfl) hB11 (t := .byte) (by decide +kernel) rfl (g := (mkF m 48 #[.val (.ref a), .val (.ref b), .val (.int (Int32.ofNat o)), .val (.int (Int32.ofNat len)), .val .null, .val (.ref s.heap.size)] [.int 0, .ref a])) rfl (rest := []) rfl (hb hbytes d48)
  have c14 : Steps p.tables e below (s₁.setTop (entryFrame m #[.ref a, .ref b, .int (Int32.ofNat o), .int (Int32.ofNat len), .null] 6)) (T13.setTop (mkF m 54 #[.val (.ref a), .val (.ref b), .val (.int (Int32.ofNat o)), .val (.int (Int32.ofNat len)), .val .null, .val (.ref s.heap.size)] [.ref s.heap.size, .ref a])) := (c12.trans (st13 _ (Steps.refl _))).trans (by
    refine XS.aloadN X13.here hexec rfl (hb hbytes d51) rfl rfl ?_
    refine XS.aload X13.here hexec rfl (hb hbytes d52) rfl rfl ?_
    exact Steps.refl _)
  obtain ⟨T15, X15, p15, bl15, sl15, st15⟩ := X13.finit hexec hown (wk W (.fieldLink "java/lang/String" 9 "java/lang/String" "value" "[B")) (Or.inr ⟨_, (wk W (.laysFinal "java/lang/String" "java/lang/String" "value" "[B"))⟩) (Or.inl ⟨rfl, hnm⟩) f1 (Or.inl rfl) bl13 (t := (.array .byte)) (by decide +kernel) rfl (g := (mkF m 54 #[.val (.ref a), .val (.ref b), .val (.int (Int32.ofNat o)), .val (.int (Int32.ofNat len)), .val .null, .val (.ref s.heap.size)] [.ref s.heap.size, .ref a])) rfl (rest := []) rfl (hb hbytes d54)
  have c16 : Steps p.tables e below (s₁.setTop (entryFrame m #[.ref a, .ref b, .int (Int32.ofNat o), .int (Int32.ofNat len), .null] 6)) (T15.setTop (mkF m 57 #[.val (.ref a), .val (.ref b), .val (.int (Int32.ofNat o)), .val (.int (Int32.ofNat len)), .val .null, .val (.ref s.heap.size)] [])) := c14.trans (st15 _ (Steps.refl _))
  have ap := apart (Or.inr ⟨_, (wk W (.laysFinal "java/lang/String" "java/lang/String" "value" "[B"))⟩) (Or.inr ⟨_, (wk W (.laysFinal "java/lang/String" "java/lang/String" "coder" "B"))⟩) f1 f2 (t₁ := .array .byte) (t₂ := .byte) (by decide +kernel) (by decide +kernel) (by decide)
  have al := X8.warmed.alike.symm.trans X15.warmed.alike
  have n7 : T11.heap[s.heap.size]? = some N := by rw [q11]; exact n1.1
  exact ⟨T15, none, _, _, _, X15, by simp, rfl, by omega, (fun _ => rfl), ⟨rfl, _, N, bl15, ((Same.refl D _).set _ (by simp)).set _ (by simp), sl15, (Cell.slots_setSlot_ne _ ap).trans sl13, n1.keep al (p15.other hne (p13.other hne n7)), n2, by rw [al.findClass]; exact n3, n4, n5, fun y c h1 h2 => p15.other h1 (p13.other h1 (by rw [q11]; exact n6 y c h2)), by rw [p15.2.2, p13.2.2, q11]; exact z8⟩, fun fs hl => c16.trans (X15.returnOut hexec hret (hb hbytes d57) hl)⟩
end New4
namespace New1
def yN : MethodName := ⟨"java/lang/String", "<init>", "([C)V"⟩
abbrev yB : ByteArray := jdk_42_method_3_code
theorem d0 : decode yB 0 = .ok (.aload_n 0, 1) := by decide +kernel
theorem d1 : decode yB 1 = .ok (.aload_n 1, 1) := by decide +kernel
theorem d2 : decode yB 2 = .ok (.iconst 0, 1) := by decide +kernel
theorem d3 : decode yB 3 = .ok (.aload_n 1, 1) := by decide +kernel
theorem d4 : decode yB 4 = .ok (.arraylength, 1) := by decide +kernel
theorem d5 : decode yB 5 = .ok (.aconst_null, 1) := by decide +kernel
theorem d6 : decode yB 6 = .ok (.invokespecial 27, 3) := by decide +kernel
theorem d9 : decode yB 9 = .ok (.return_, 1) := by decide +kernel
def site : List Cond := [New4.tab] ++ initW "java/lang/String" 27 New4.yN
def tab : Cond := tabOf yN yB 2 none site
def P (a : Addr) (D : Cell) (fV fC : Field) (b : Addr) (A : Cell) (z : Int32) (args : Array Value) (s : State) : Prop := args = #[.ref a, .ref b] ∧ Blank "java/lang/String" a D s ∧ Found "java/lang/String" "value" "[B" fV s ∧ Found "java/lang/String" "coder" "B" fC s ∧ Ch b A s ∧ StaticIs s "java/lang/String" "COMPACT_STRINGS" "Z" (.int z) ∧ ¬ z = 0 ∧ 0 < A.slots.size ∧ A.slots.size ≤ 536870912 ∧ ∀ i, i < A.slots.size → ¬ 255 < cv A i
def E (a : Addr) (D : Cell) (fV fC : Field) (A : Cell) (r : Option Value) (s u : State) : Prop := Got a D fV fC A 0 A.slots.size r s u
/-- new String(chars), not empty, no char above 255: a Latin-1 String of their low bytes -/
theorem law (l : Launch) (a : Addr) (D : Cell) (fV fC : Field) (b : Addr) (A : Cell) (z : Int32) : Law l yN 2 1 3 52 yB 2 none site (P a D fV fC b A z) (E a D fV fC A) [⟨a, fC.slot⟩, ⟨a, fV.slot⟩] 1 A.slots.size := by
  refine Law.of_walk (plainFor_of_name (by decide +kernel)) (by decide +kernel) (by decide +kernel) (by decide) (fun _ _ h => by rw [h.1]; rfl) (fun _ U U' hal hh h => ⟨h.1, h.2.1.mv hal hh, h.2.2.1.al hal, h.2.2.2.1.al hal, h.2.2.2.2.1.mv hal hh, h.2.2.2.2.2.1.there hal hh, h.2.2.2.2.2.2⟩) (fun r U U' V V' h1 hal h2 h => Got.mv r U U' V V' h1 hal h2 h) ?_
  intro p e s m args below meth c s₁ X0 hexec hbytes hml hret hlk hnm hown hh0 W hP
  obtain ⟨rfl, hB, f1, f2, hA, s1, hz, l0, l2, hp⟩ := hP
  have c1 : Steps p.tables e below (s₁.setTop (entryFrame m #[.ref a, .ref b] 2)) (s₁.setTop (mkF m 0 #[.val (.ref a), .val (.ref b)] [])) := entry rfl
  have c2 : Steps p.tables e below (s₁.setTop (entryFrame m #[.ref a, .ref b] 2)) (s₁.setTop (mkF m 6 #[.val (.ref a), .val (.ref b)] [.null, .int (Int32.ofNat A.slots.size), .int 0, .ref b, .ref a])) := c1.trans (by
    refine XS.aloadN X0.here hexec rfl (hb hbytes d0) rfl rfl ?_
    refine XS.aloadN X0.here hexec rfl (hb hbytes d1) rfl rfl ?_
    refine iconstV X0.here hexec rfl 0 (hb hbytes d2) (by decide) ?_
    refine XS.aloadN X0.here hexec rfl (hb hbytes d3) rfl rfl ?_
    refine X0.alen hexec (hA.1.mv X0.warmed.alike hh0) rfl rfl (hb hbytes d4) ?_
    refine XS.aconstNull X0.here hexec rfl (hb hbytes d5) ?_
    exact Steps.refl _)
  obtain ⟨v3, T3, X3, E3, g3⟩ := X0.callN hexec (New4.law l a D fV fC b A z 0 A.slots.size) rfl hown (wks W (initW "java/lang/String" 27 New4.yN)) (W New4.tab (by simp only [site, List.mem_cons, List.mem_append, true_or, or_true])) (W := 0) (Nat.le_of_ble_eq_true rfl) (Nat.le_of_ble_eq_true rfl) (Nat.le_refl _) (by show 0 + A.slots.size ≤ A.slots.size; omega) (g := (mkF m 6 #[.val (.ref a), .val (.ref b)] [.null, .int (Int32.ofNat A.slots.size), .int (Int32.ofNat 0), .ref b, .ref a])) rfl (by rw [hml]; rfl) c2 (argsL := [.ref b, .int (Int32.ofNat 0), .int (Int32.ofNat A.slots.size), .null]) (rest := []) rfl rfl (by show 2 * 0 + 0 ≤ _; decide) (hb hbytes d6) (⟨rfl, hB.mv X0.warmed.alike hh0, f1.al X0.warmed.alike, f2.al X0.warmed.alike, hA.mv X0.warmed.alike hh0, s1.there X0.warmed.alike hh0, hz, l0, by omega, l2, fun i hi => by rw [Nat.zero_add]; exact hp i hi⟩)
  have e0 := Got.mv _ s₁ s _ _ hh0.symm (Vm.Alike.refl _) rfl E3
  obtain rfl := e0.1
  have c4 : Steps p.tables e below (s₁.setTop (entryFrame m #[.ref a, .ref b] 2)) (T3.setTop (mkF m 9 #[.val (.ref a), .val (.ref b)] [])) := g3
  exact ⟨T3, none, _, _, _, X3, by simp, rfl, by omega, (fun _ => rfl), e0, fun fs hl => c4.trans (X3.returnOut hexec hret (hb hbytes d9) hl)⟩
theorem pays {l : Launch} {R : Room} {p : Program} {e : Env} {below : List Frame} {s : State} {sargs : Array Value} {len W : Nat} (a : Addr) (D : Cell) (fV fC : Field) (b : Addr) (A : Cell) (z : Int32) (htab : tab.before sargs s = true) (hfr : 4 ≤ R.frames) (hlo : W + 65 ≤ R.locals) :
    Back l R p e below s sargs yN len W (fun A₁ a₁ => A₁.cells + 1 ≤ R.cells ∧ A₁.slots + A.slots.size ≤ R.slots ∧ P a D fV fC b A z a₁ A₁.U) (fun A₁ _ v₁ B₁ => E a D fV fC A v₁ A₁.U B₁.U ∧ B₁.locs = A₁.locs ++ [⟨a, fC.slot⟩, ⟨a, fV.slot⟩] ∧ B₁.cells = A₁.cells + 1 ∧ B₁.slots = A₁.slots + A.slots.size) :=
  (law l a D fV fC b A z).pays htab hfr (by omega)
end New1
/-- the byte, read back as charAt reads it, is the char -/
theorem lo8_mask {x : Int32} (h0 : ¬ x < 0) (h1 : ¬ 255 < x) : lo8 x &&& 255 = x := by
  have t : ∀ k : Fin 256, lo8 (Int32.ofNat k.val) &&& 255 = Int32.ofNat k.val := by decide +kernel
  rw [Int32.lt_iff_toInt_lt] at h0 h1
  have e0 : (0 : Int32).toInt = 0 := rfl
  have e1 : (255 : Int32).toInt = 255 := rfl
  obtain ⟨k, hk⟩ : ∃ k : Nat, x.toInt = k := ⟨x.toInt.toNat, by omega⟩
  have hx : x = Int32.ofNat k := Int32.toInt_inj.mp (by rw [hk, Int32.toInt_ofNat_small (by omega)])
  rw [hx]
  exact t ⟨k, by omega⟩
end StrChars
namespace StrChars.Road
open Jvm Sem ClassFile Op Lib Jvm.Stand Jvm.Free Jvm.Free.XT
open Jvm.Lib.Cold (StaticIs)
abbrev ST : String := "java/lang/String"
/-- every table word that New1's law asks, flat -/
abbrev words : List Jvm.Cond := [.code New1.yN New1.yB 2 none, .initialized ST, .methodLink ST 27 New4.yN, .instanceMethod New4.yN,
  .code New4.yN New4.yB 6 none, .fieldLink ST 38 ST "COMPACT_STRINGS" "Z", .laysFinal ST ST "value" "[B", .fieldLink ST 9 ST "value" "[B", .laysFinal ST ST "coder" "B", .fieldLink ST 15 ST "coder" "B",
  .methodLink ST 1 Lib.objectInit, .instanceMethod Lib.objectInit, .code Lib.objectInit ⟨#[0xb1]⟩ 1 none, .methodLink ST 177 Cmp3.yN, .static Cmp3.yN, .methodLink ST 47 CodL.yN, .static CodL.yN,
  .code Cmp3.yN Cmp3.yB 6 (some (.array .byte)), .initialized U16, .arrayClass .byte, .methodLink U16 115 Cmp5.yN, .static Cmp5.yN, .code Cmp5.yN Cmp5.yB 7 (some .int), .code CodL.yN CodL.yB 2 (some .byte)]
theorem tab_of {a : Array Value} {s : State} (h : ∀ w ∈ words, w.before a s = true) : New1.tab.before a s = true := by
  have h5 : Cmp5.tab.before a s = true := unparts (wk h (.code Cmp5.yN Cmp5.yB 7 (some .int))) (wks h (.initialized Cmp5.yN.cls :: Cmp5.site))
  have hc : CodL.tab.before a s = true := unparts (wk h (.code CodL.yN CodL.yB 2 (some .byte))) (wks h (.initialized CodL.yN.cls :: CodL.site))
  have q5 : ∀ w ∈ Cmp5.tab :: words, w.before a s = true := fun w hw => (List.mem_cons.mp hw).elim (fun e => e ▸ h5) (h w)
  have h3 : Cmp3.tab.before a s = true := unparts (wk q5 (.code Cmp3.yN Cmp3.yB 6 (some (.array .byte)))) (wks q5 (.initialized Cmp3.yN.cls :: Cmp3.site))
  have q3 : ∀ w ∈ Cmp3.tab :: CodL.tab :: words, w.before a s = true := fun w hw => (List.mem_cons.mp hw).elim (fun e => e ▸ h3) fun hw => (List.mem_cons.mp hw).elim (fun e => e ▸ hc) (h w)
  have h4 : New4.tab.before a s = true := unparts (wk q3 (.code New4.yN New4.yB 6 none)) (wks q3 (.initialized New4.yN.cls :: New4.site))
  have q4 : ∀ w ∈ New4.tab :: words, w.before a s = true := fun w hw => (List.mem_cons.mp hw).elim (fun e => e ▸ h4) (h w)
  exact unparts (wk q4 (.code New1.yN New1.yB 2 none)) (wks q4 (.initialized New1.yN.cls :: New1.site))
/-- the words ride from the start Z to the walk's own state -/
theorem moved {Z s : State} {a0 args : Array Value} (hZ : Z.Warmed39 s.vm) (hw : ∀ d ∈ words, d.before a0 Z = true) : ∀ d ∈ words, d.before args s = true := fun d hd => by
  have q := hw d hd
  have t : ∀ d ∈ words, d = .arrayClass .byte ∨ (d.onTables && d.keepsFace) = true := by decide +kernel
  rcases t d hd with rfl | t
  · exact RoadKit.mvA hZ q
  · exact RoadKit.mv hZ q t
/-- WHAT COMES BACK, over the tables of the start Z: h the heap at the call, h' behind it -/
def Q (Z : State) (x : Addr) (A : Cell) (h : Heap) (v : Option Value) (h' : Heap) (L : List Loc) : Prop := v = none ∧ (∀ y ∈ L, y.base = x) ∧ RoadKit.Keep h h' [x] ∧ h'.size = h.size + 1 ∧ RoadKit.Exa Z h' x ST ∧ RoadKit.Fld Z h' x ST "value" "[B" (.ref h.size) ∧ RoadKit.Fld Z h' x ST "coder" "B" (.int 0) ∧
  (∃ V : Cell, RoadKit.Arr Z h' h.size V .byte ∧ V.vm = .none ∧ Z.vm.findClass "[B" = some V.cls ∧ V.slots.size = A.slots.size ∧ ∀ j, j < A.slots.size → V.slots[j]? = some (.int (lo8 (cv A j)))) ∧
  ∀ (O n d : String) (w : Value), RoadKit.Fld Z h x O n d w → RoadKit.slotOf Z O n d ≠ RoadKit.slotOf Z ST "value" "[B" → RoadKit.slotOf Z O n d ≠ RoadKit.slotOf Z ST "coder" "B" → RoadKit.Fld Z h' x O n d w
/-- **new String(chars) AT A CALL, IN THE ROAD'S FORM**: for specialBack behind newO: x the fresh String, b the char[] with the cell A -/
theorem back {p : Program} {l : Launch} {e : Env} {R : Room} {s : State} {args : Array Value} {below : List Frame} {len W : Nat} {Z : State} {a0 : Array Value} {h : Heap} (hZ : Z.Warmed39 s.vm) (hw : ∀ d ∈ words, d.before a0 Z = true) {kI : Nat} (wi : (Jvm.Cond.instantiable ST kI).before a0 Z = true)
    {x b : Addr} {A : Cell} {z : Int32} {v0 c0 : Value} (E : RoadKit.Exa Z h x ST) (V : RoadKit.Fld Z h x ST "value" "[B" v0) (C : RoadKit.Fld Z h x ST "coder" "B" c0) (K : RoadKit.Arr Z h b A .char) (hty : Typed .char A) (S : RoadKit.Sta Z h ST "COMPACT_STRINGS" "Z" (.int z)) (hz : ¬ z = 0)
    (l0 : 0 < A.slots.size) (l2 : A.slots.size ≤ 536870912) (hp : ∀ i, i < A.slots.size → ¬ 255 < cv A i) (hfr : 4 ≤ R.frames) (hlo : W + 65 ≤ R.locals) :
    Back l R p e below s args New1.yN len W (fun P a => a = #[.ref x, .ref b] ∧ P.U.heap = h ∧ P.cells + 1 ≤ R.cells ∧ P.slots + A.slots.size ≤ R.slots)
      (fun P _ v B => ∃ L, Q Z x A h v B.U.heap L ∧ B.locs = P.locs ++ L ∧ B.cells = P.cells + 1 ∧ B.slots = P.slots + A.slots.size) := by
  intro m meth c P g ig mk a X hg hsize hdg hW hn hp'
  obtain ⟨rfl, rfl, r1, r2⟩ := hp'
  have al : Z.vm.Alike P.U.vm := hZ.alike.trans X.warmed.alike
  obtain ⟨D, cfV, kV, iV, fV, hD, gV, stV, knV, obV, asV, slV⟩ := id V
  obtain ⟨D', cfC, kC, iC, fC, hD', gC, stC, -, -, asC, slC⟩ := id C
  cases hD.symm.trans hD'
  obtain ⟨D2, kD, e1, e2, e3, e4, e5⟩ := id E
  cases hD.symm.trans e1
  obtain ⟨c2, k2, i1, i2, i3, -⟩ := Cond.instantiable_spec wi
  cases e2.symm.trans i1
  cases e3.symm.trans i2
  obtain ⟨kU, u1, u2⟩ := al.2.2 _ _ e3
  have hB : Blank ST x D P.U := ⟨hD, ⟨knV, fun q hq => by rw [hq] at obV; cases obV⟩, by rw [al.findClass]; exact e2, kU, u1, by rw [u2]; exact i3, by rw [u2]; exact e5 i3⟩
  have F1 : Found ST "value" "[B" fV P.U := ⟨SBG.found_only al ⟨cfV, kV, iV, gV⟩, stV⟩
  have F2 : Found ST "coder" "B" fC P.U := ⟨SBG.found_only al ⟨cfC, kC, iC, gC⟩, stC⟩
  have hA : Ch b A P.U := ⟨⟨K.1, State.isArrayOf_alike al K.2.1, K.2.2, by omega⟩, hty⟩
  have hS : StaticIs P.U ST "COMPACT_STRINGS" "Z" (.int z) := by
    obtain ⟨cfS, iS, kS, fS, st, cS, t1, t2, t3, t4, t5, t6, t7⟩ := S
    exact StaticIs.there (s := { Z with heap := P.U.heap }) ⟨cfS, iS, kS, fS, st, cS, t1, t2, t3, t4, t5, (fun q => by rw [q] at t6; cases t6), t7⟩ al rfl
  obtain ⟨v, B, X', ⟨⟨hv, E', V', q1, q2, q3, q4, q5, q6, q7, q8, q9, q10, q11⟩, hl, hc, hs⟩, st⟩ := New1.pays x D fV fC b A z (tab_of (moved hZ hw)) hfr hlo m meth c P g ig mk _ X hg hsize hdg hW hn ⟨r1, r2, rfl, hB, F1, F2, hA, hS, hz, l0, l2, hp⟩
  have al' : Z.vm.Alike B.U.vm := hZ.alike.trans X'.warmed.alike
  have hsz : E'.slots.size = D.slots.size := by
    obtain ⟨-, -, -, kB, w1, w2, w3⟩ := q1
    obtain ⟨kB', y1, y2⟩ := al'.2.2 _ _ e3
    rw [q2.2.1] at w1
    cases w1.symm.trans y1
    rw [w3, e5 i3, y2]
  refine ⟨v, B, X', ⟨_, ⟨hv, ?_, ⟨by omega, fun y cy hy hn' => q10 y cy (by simpa using hn') hy, fun y cy hy => ?_⟩, q11, ⟨E', _, q1.1, by rw [q2.2.1]; exact e2, by rw [q2.2.1]; exact e3, by rw [q2.1]; exact obV, fun _ => by rw [hsz]; exact e5 i3⟩,
    ⟨E', cfV, kV, iV, fV, q1.1, gV, stV, by rw [q2.1]; exact knV, by rw [q2.1]; exact obV, by rw [q2.2.1]; exact asV, q3⟩, ⟨E', cfC, kC, iC, fC, q1.1, gC, stC, by rw [q2.1]; exact knV, by rw [q2.1]; exact obV, by rw [q2.2.1]; exact asC, q4⟩,
    ⟨V', ⟨q5.1, State.isArrayOf_alike al'.symm q5.2.1, q5.2.2.1⟩, q6, by rw [← al'.findClass]; exact q7, q8, fun j hj => by have := q9 j hj; rwa [Nat.zero_add] at this⟩, fun O n d w F n1 n2 => ?_⟩, hl, hc, hs⟩, st⟩
  · intro y hy
    simp only [List.mem_cons, List.not_mem_nil, or_false] at hy
    rcases hy with rfl | rfl <;> rfl
  · by_cases q : y = x
    · subst q
      cases hD.symm.trans hy
      exact ⟨E', q1.1, q2.2.1, q2.1, hsz⟩
    · exact ⟨cy, q10 y cy q hy, rfl, rfl, rfl⟩
  · obtain ⟨D3, cf, k, i, f, g1, g2, g3, g4, g5, g6, g7⟩ := F
    cases hD.symm.trans g1
    simp only [RoadKit.slotOf, g2, gV, gC, Option.map_some, Option.getD_some] at n1 n2
    exact ⟨E', cf, k, i, f, q1.1, g2, g3, by rw [q2.1]; exact g4, by rw [q2.1]; exact g5, by rw [q2.2.1]; exact g6, by rw [q2.2.2 f.slot (by simp [n1, n2])]; exact g7⟩
end StrChars.Road
namespace StrChars.Road
open Jvm Sem ClassFile Op Lib Jvm.Stand Jvm.Free Jvm.Free.XT
/-- WHAT COMES BACK, the byte[] as a list of values -/
def QA (Z : State) (x : Addr) (zn : Int32) (cs : List Int32) (h : Heap) (v : Option Value) (h' : Heap) (L : List Loc) : Prop := v = none ∧ (∀ y ∈ L, y.base = x) ∧ RoadKit.Keep h h' [x] ∧ h'.size = h.size + 1 ∧ RoadKit.Exa Z h' x ST ∧ RoadKit.Fld Z h' x ST "value" "[B" (.ref h.size) ∧ RoadKit.Fld Z h' x ST "coder" "B" (.int 0) ∧
  (∃ kb, Z.vm.findClass "[B" = some kb ∧ RoadKit.Arv Z h' h.size kb .byte zn (cs.map fun c => .int (lo8 c)) (.int 0)) ∧
  ∀ (O n d : String) (w : Value), RoadKit.Fld Z h x O n d w → RoadKit.slotOf Z O n d ≠ RoadKit.slotOf Z ST "value" "[B" → RoadKit.slotOf Z O n d ≠ RoadKit.slotOf Z ST "coder" "B" → RoadKit.Fld Z h' x O n d w
/-- **new String(chars) AT A CALL, THE ARRAYS AS LISTS**: the char[] at b holds cs, not empty, no char above 255 -/
theorem backArv {p : Program} {l : Launch} {e : Env} {R : Room} {s : State} {args : Array Value} {below : List Frame} {len W : Nat} {Z : State} {a0 : Array Value} {h : Heap} (hZ : Z.Warmed39 s.vm) (hw : ∀ d ∈ words, d.before a0 Z = true) {kI : Nat} (wi : (Jvm.Cond.instantiable ST kI).before a0 Z = true)
    {x b : Addr} {k : ClassId} {zn z : Int32} {cs : List Int32} {dv v0 c0 : Value} (E : RoadKit.Exa Z h x ST) (V : RoadKit.Fld Z h x ST "value" "[B" v0) (C : RoadKit.Fld Z h x ST "coder" "B" c0) (K : RoadKit.Arv Z h b k .char zn (cs.map Value.int) dv) (S : RoadKit.Sta Z h ST "COMPACT_STRINGS" "Z" (.int z)) (hz : ¬ z = 0)
    (hlen : zn.toNatClampNeg = cs.length) (h0 : 0 < cs.length) (hbig : cs.length ≤ 536870912) (hall : ∀ c ∈ cs, ¬ 255 < c) (hfr : 4 ≤ R.frames) (hlo : W + 65 ≤ R.locals) :
    Back l R p e below s args New1.yN len W (fun P a => a = #[.ref x, .ref b] ∧ P.U.heap = h ∧ P.cells + 1 ≤ R.cells ∧ P.slots + cs.length ≤ R.slots)
      (fun P _ v B => ∃ L, QA Z x zn cs h v B.U.heap L ∧ B.locs = P.locs ++ L ∧ B.cells = P.cells + 1 ∧ B.slots = P.slots + cs.length) := by
  obtain ⟨A, K1, K2, K3, K4, K5, K6⟩ := K
  have e : A.slots.size = cs.length := K3.trans hlen
  have hat : ∀ (i : Nat) (hi : i < cs.length), A.slots[i]? = some (.int cs[i]) := fun i hi => by rw [K5 i (by omega)]; simp [List.getD_eq_getElem?_getD, hi]
  have hcv : ∀ (i : Nat) (hi : i < cs.length), cv A i = cs[i] := fun i hi => by unfold cv; rw [hat i hi]
  have hty : Typed .char A := fun i v hv => by
    have hi : i < A.slots.size := (Array.getElem?_eq_some_iff.mp hv).1
    have q := K5 i hi
    rw [hv] at q
    rw [Option.some.inj q]
    exact K6 i hi
  refine Back.mono (back hZ hw wi E V C K1 hty S hz (by omega) (by omega) (fun i hi => by rw [hcv i (by omega)]; exact hall _ (List.getElem_mem _)) hfr hlo) (fun P a hp => ⟨hp.1, hp.2.1, hp.2.2.1, by rw [e]; exact hp.2.2.2⟩) (fun P a v B hp hq => ?_)
  obtain ⟨L, ⟨q1, q2, q3, q4, q5, q6, q7, ⟨V', v1, v2, v3, v4, v5⟩, q9⟩, hl, hc, hs⟩ := hq
  refine ⟨L, ⟨q1, q2, q3, q4, q5, q6, q7, ⟨V'.cls, v3, V', v1, rfl, by rw [v4, e, hlen], K4, fun i hi => ?_, fun i hi => ?_⟩, q9⟩, hl, hc, by rw [hs, e]⟩
  · have hi' : i < cs.length := by omega
    rw [v5 i (by omega), hcv i hi']; simp [List.getD_eq_getElem?_getD, hi']
  · have hi' : i < cs.length := by omega
    simp only [List.getD_eq_getElem?_getD, List.getElem?_map, List.getElem?_eq_getElem hi', Option.map_some, Option.getD_some]
    exact fits_lo8 _
end StrChars.Road
namespace StrChars.Road
open Jvm Sem ClassFile Op Lib Jvm.Stand Jvm.Free Jvm.Free.XT
/-- WHAT COMES BACK, in the writer's own shape -/
def QV (Z : State) (x : Addr) (N : Int32) (bs : List Int32) (h : Heap) (n0 : Nat) (v : Option Value) (h' : Heap) (L : List Loc) : Prop := v = none ∧ RoadKit.Fr n0 L ∧ RoadKit.Keep h h' [x] ∧ RoadKit.Exa Z h' x ST ∧ RoadKit.Fld Z h' x ST "coder" "B" (.int 0) ∧
  ∃ (t : Addr) (kb : ClassId), n0 ≤ t ∧ h.size ≤ t ∧ ¬ t = x ∧ RoadKit.Fld Z h' x ST "value" "[B" (.ref t) ∧ RoadKit.Arv Z h' t kb .byte N (bs.map Value.int) (.int 0)
/-- **new String(chars) AT A CALL, FOR THE WRITER**: a char[] of n known ints, each 0 to 255 -/
theorem backV {p : Program} {l : Launch} {e : Env} {R : Room} {s : State} {args : Array Value} {below : List Frame} {len W : Nat} {Z : State} {a0 : Array Value} {h : Heap} (hZ : Z.Warmed39 s.vm) (hw : ∀ d ∈ words, d.before a0 Z = true) {kI : Nat} (wi : (Jvm.Cond.instantiable ST kI).before a0 Z = true)
    {x b : Addr} {kC : ClassId} {cs bs : List Int32} {d v0 c0 : Value} {z N : Int32} {n n0 : Nat} (hx0 : n0 ≤ x) (hh0 : n0 ≤ h.size) (E : RoadKit.Exa Z h x ST) (V : RoadKit.Fld Z h x ST "value" "[B" v0) (C : RoadKit.Fld Z h x ST "coder" "B" c0) (K : RoadKit.Arv Z h b kC .char N (cs.map Value.int) d) (S : RoadKit.Sta Z h ST "COMPACT_STRINGS" "Z" (.int z)) (hz : ¬ z = 0)
    (hn : cs.length = n) (hN : N = Int32.ofNat n) (l0 : 0 < n) (l2 : n ≤ 4000) (hp : ∀ c ∈ cs, ¬ c < 0 ∧ ¬ (255 : Int32) < c) (hb : bs = cs.map (fun c => c.toInt8.toInt32)) (hfr : 4 ≤ R.frames) (hlo : W + 65 ≤ R.locals) :
    Back l R p e below s args (⟨"java/lang/String", "<init>", "([C)V"⟩ : MethodName) len W (fun P a => a = #[.ref x, .ref b] ∧ P.U.heap = h ∧ P.cells + 1 ≤ R.cells ∧ P.slots + n ≤ R.slots)
      (fun P _ v B => ∃ L, QV Z x N bs h n0 v B.U.heap L ∧ B.locs = P.locs ++ L ∧ B.cells = P.cells + 1 ∧ B.slots = P.slots + n) := by
  subst hn hN hb
  refine Back.mono (backArv hZ hw wi E V C K S hz (n32 (by omega)) l0 (by omega) (fun c hc => (hp c hc).2) hfr hlo) (fun P a hp => hp) (fun P a v B hp hq => ?_)
  obtain ⟨L, ⟨q1, q2, q3, q4, q5, q6, q7, ⟨kb, v1, v2⟩, q9⟩, hl, hc, hs⟩ := hq
  exact ⟨L, ⟨q1, fun y hy => by rw [q2 y hy]; exact hx0, q3, q5, q7, h.size, kb, hh0, Nat.le_refl _, Nat.ne_of_gt E.lt, q6, by rw [List.map_map]; exact v2⟩, hl, hc, hs⟩
end StrChars.Road
namespace StrChars
open Jvm Sem ClassFile Op Lib Jvm.Stand Jvm.Free.XT Jvm.Free.ALB Jvm.Free.JM Jvm.Free
open Jvm.Lib.Cold (StaticIs)
def hi8 (x : Int32) : Int32 := lo8 (x >>> ((8 : Int32) &&& 31))
/-- what StringUTF16.getChar makes of two bytes -/
def pairCh (u v : Int32) : Int32 := (((u &&& 255) <<< ((0 : Int32) &&& 31)) ||| ((v &&& 255) <<< ((8 : Int32) &&& 31))).toUInt32.toUInt16.toUInt32.toInt32
theorem shr0 (c : Int32) : c >>> ((0 : Int32) &&& 31) = c := by
  have e : ((0 : Int32) &&& 31) = 0 := by decide
  rw [e]
  apply Int32.toBitVec_inj.mp
  rw [Int32.toBitVec_shiftRight]
  have e1 : ((0 : Int32).toBitVec.smod 32) = 0#32 := by decide
  rw [e1, BitVec.sshiftRight_eq']
  exact BitVec.sshiftRight_zero
theorem lo8_and (x : Int32) : (lo8 x &&& 255).toBitVec.toNat = x.toBitVec.toNat % 256 := by
  have h : (lo8 x).toBitVec = (x.toBitVec.signExtend 8).signExtend 32 := by rw [lo8, Int8.toBitVec_toInt32, Int32.toBitVec_toInt8]
  rw [Int32.toBitVec_and, BitVec.toNat_and, h]
  have e : ((x.toBitVec.signExtend 8).signExtend 32).toNat % 256 = x.toBitVec.toNat % 256 := by
    rw [BitVec.toNat_signExtend]
    have hlt := x.toBitVec.isLt
    simp only [BitVec.toNat_setWidth, BitVec.toNat_signExtend]
    split <;> split <;> omega
  rw [← e]
  exact Nat.and_two_pow_sub_one_eq_mod _ 8
theorem pair_says {c : Int32} (h0 : ¬ c < 0) (h1 : ¬ 65535 < c) : pairCh (lo8 c) (hi8 c) = c := by
  rw [Int32.lt_iff_toInt_lt] at h0 h1
  have e0 : (0 : Int32).toInt = 0 := rfl
  have e1 : (65535 : Int32).toInt = 65535 := rfl
  have hc : c.toInt = c.toBitVec.toNat := by
    have := c.toBitVec.isLt
    have e : c.toInt = c.toBitVec.toInt := rfl
    rw [e] at h0 h1
    rw [e]
    rw [BitVec.toInt_eq_toNat_cond] at h0 h1 ⊢
    split at h0 <;> split <;> omega
  have hn : c.toBitVec.toNat < 65536 := by omega
  have a1 := lo8_and c
  have a2 : (hi8 c &&& 255).toBitVec.toNat = c.toBitVec.toNat / 256 := by
    rw [hi8, lo8_and]
    have e : ((8 : Int32) &&& 31) = 8 := by decide
    rw [e, Int32.toBitVec_shiftRight]
    have e2 : ((8 : Int32).toBitVec.smod 32) = 8#32 := by decide
    rw [e2, BitVec.sshiftRight_eq', BitVec.toNat_sshiftRight_of_msb_false (by rw [BitVec.msb_eq_false_iff_two_mul_lt]; omega)]
    show c.toBitVec.toNat >>> 8 % 256 = _
    rw [Nat.shiftRight_eq_div_pow]
    omega
  unfold pairCh
  apply Int32.toBitVec_inj.mp
  apply BitVec.eq_of_toNat_eq
  have f0 : ((0 : Int32) &&& 31) = 0 := by decide
  have f8 : ((8 : Int32) &&& 31) = 8 := by decide
  rw [f0, f8]
  have g : (((lo8 c &&& 255) <<< (0 : Int32)) ||| ((hi8 c &&& 255) <<< (8 : Int32))).toBitVec.toNat = c.toBitVec.toNat := by
    rw [Int32.toBitVec_or, Int32.toBitVec_shiftLeft, Int32.toBitVec_shiftLeft]
    have s0 : ((0 : Int32).toBitVec.smod 32) = 0#32 := by decide
    have s8 : ((8 : Int32).toBitVec.smod 32) = 8#32 := by decide
    rw [s0, s8, BitVec.toNat_or]
    simp only [BitVec.shiftLeft_eq', BitVec.toNat_shiftLeft, a1, a2]
    show (c.toBitVec.toNat % 256) <<< 0 % 2 ^ 32 ||| (c.toBitVec.toNat / 256) <<< 8 % 2 ^ 32 = _
    rw [Nat.shiftLeft_zero, Nat.mod_eq_of_lt (show c.toBitVec.toNat % 256 < 2 ^ 32 by omega), Nat.mod_eq_of_lt (show (c.toBitVec.toNat / 256) <<< 8 < 2 ^ 32 by rw [Nat.shiftLeft_eq]; omega), Nat.or_comm, ← Nat.shiftLeft_add_eq_or_of_lt (by omega), Nat.shiftLeft_eq]
    omega
  show BitVec.toNat (((((lo8 c &&& 255) <<< (0 : Int32)) ||| ((hi8 c &&& 255) <<< (8 : Int32))).toBitVec.setWidth 16).setWidth 32) = _
  rw [BitVec.toNat_setWidth, BitVec.toNat_setWidth, g]
  omega
end StrChars
namespace StrChars
open Jvm Sem ClassFile Op Lib Jvm.Stand Jvm.Free.XT Jvm.Free.ALB Jvm.Free.JM Jvm.Free
open Jvm.Lib.Cold (StaticIs)
theorem shr1 {n : Nat} (h : 2 * n < 2 ^ 31) : Int32.ofNat (2 * n) >>> ((1 : Int32) &&& 31) = Int32.ofNat n := by
  have e : ((1 : Int32) &&& 31) = 1 := by decide
  rw [e]
  apply Int32.toBitVec_inj.mp
  rw [Int32.toBitVec_shiftRight]
  have e1 : ((1 : Int32).toBitVec.smod 32) = 1#32 := by decide
  have hm : (BitVec.ofNat 32 (2 * n)).toNat = 2 * n := by rw [BitVec.toNat_ofNat, Nat.mod_eq_of_lt (by omega)]
  rw [e1, BitVec.sshiftRight_eq']
  apply BitVec.eq_of_toNat_eq
  show ((BitVec.ofNat 32 (2 * n)).sshiftRight 1).toNat = (BitVec.ofNat 32 n).toNat
  rw [BitVec.toNat_sshiftRight_of_msb_false (by rw [BitVec.msb_eq_false_iff_two_mul_lt, hm]; omega), hm, BitVec.toNat_ofNat, Nat.shiftRight_eq_div_pow]
  omega
/-- charAt's cast of a byte read back -/
def chr8 (u : Int32) : Int32 := (u &&& 255).toUInt32.toUInt16.toUInt32.toInt32
theorem chr8_lo8 {c : Int32} (h0 : ¬ c < 0) (h1 : ¬ 255 < c) : chr8 (lo8 c) = c := by
  have t : ∀ k : Fin 256, (Int32.ofNat k.val).toUInt32.toUInt16.toUInt32.toInt32 = Int32.ofNat k.val := by decide +kernel
  unfold chr8
  rw [lo8_mask h0 h1]
  rw [Int32.lt_iff_toInt_lt] at h0 h1
  have e0 : (0 : Int32).toInt = 0 := rfl
  have e1 : (255 : Int32).toInt = 255 := rfl
  obtain ⟨k, hk⟩ : ∃ k : Nat, c.toInt = k := ⟨c.toInt.toNat, by omega⟩
  have hx : c = Int32.ofNat k := Int32.toInt_inj.mp (by rw [hk, Int32.toInt_ofNat_small (by omega)])
  rw [hx]
  exact t ⟨k, by omega⟩
theorem narrow_ch {c : Int32} (h0 : ¬ c < 0) (h1 : ¬ 65535 < c) : narrow .char (.int c) = .int c := by
  have q : narrow .char (.int (pairCh (lo8 c) (hi8 c))) = .int (pairCh (lo8 c) (hi8 c)) := narrow_c _
  rwa [pair_says h0 h1] at q
/-- the array's cell V codes the n chars f 0 .. f (n - 1) by the coder cd, as the JDK does: coder 1 just where some char is above 255 -/
def Cod (cd : Int32) (n : Nat) (f : Nat → Int32) (V : Cell) : Prop := (cd = 0 ∧ V.slots.size = n ∧ ∀ j, j < n → V.slots[j]? = some (.int (lo8 (f j))) ∧ ¬ 255 < f j) ∨ (cd = 1 ∧ V.slots.size = 2 * n ∧ (∀ j, j < n → V.slots[2 * j]? = some (.int (lo8 (f j))) ∧ V.slots[2 * j + 1]? = some (.int (hi8 (f j)))) ∧ ∃ j, j < n ∧ 255 < f j)
theorem Cod.cd {cd : Int32} {n : Nat} {f : Nat → Int32} {V : Cell} (h : Cod cd n f V) : cd = 0 ∨ cd = 1 := h.imp (fun q => q.1) fun q => q.1
theorem Cod.len {cd : Int32} {n : Nat} {f : Nat → Int32} {V : Cell} (h : Cod cd n f V) (hs : V.slots.size < 2 ^ 31) : Int32.ofNat V.slots.size >>> (cd &&& 31) = Int32.ofNat n := by
  rcases h with ⟨rfl, h, -⟩ | ⟨rfl, h, -⟩
  · rw [shr0, h]
  · rw [h, shr1 (by omega)]
/-- **x is a String of the n chars f 0 .. f (n - 1)**, Latin-1 or UTF-16; its array at t has the cell V -/
def Txt (x t : Addr) (V : Cell) (cd : Int32) (n : Nat) (f : Nat → Int32) (U : State) : Prop := Exact "java/lang/String" x U ∧ Has x "java/lang/String" "value" "[B" (.ref t) U ∧ Has x "java/lang/String" "coder" "B" (.int cd) U ∧ XT.Arr .byte t V U ∧ Cod cd n f V ∧ ∀ j, j < n → ¬ f j < 0 ∧ ¬ 65535 < f j
theorem Txt.mv {x t : Addr} {V : Cell} {cd : Int32} {n : Nat} {f : Nat → Int32} {U U' : State} (h : Txt x t V cd n f U) (hal : U.vm.Alike U'.vm) (hh : U'.heap = U.heap) : Txt x t V cd n f U' := ⟨h.1.mv hal hh, h.2.1.mv hal hh, h.2.2.1.mv hal hh, h.2.2.2.1.mv hal hh, h.2.2.2.2⟩
namespace Cdr
def yN : MethodName := ⟨"java/lang/String", "coder", "()B"⟩
abbrev yB : ByteArray := jdk_42_method_152_code
theorem d0 : decode yB 0 = .ok (.getstatic 38, 3) := by decide +kernel
theorem d3 : decode yB 3 = .ok (.ifCond (.eq) 10, 3) := by decide +kernel
theorem d6 : decode yB 6 = .ok (.aload_n 0, 1) := by decide +kernel
theorem d7 : decode yB 7 = .ok (.getfield 15, 3) := by decide +kernel
theorem d10 : decode yB 10 = .ok (.goto 4, 3) := by decide +kernel
theorem d14 : decode yB 14 = .ok (.ireturn, 1) := by decide +kernel
def site : List Cond := [.fieldLink "java/lang/String" 38 "java/lang/String" "COMPACT_STRINGS" "Z", .fieldLink "java/lang/String" 15 "java/lang/String" "coder" "B"]
def tab : Cond := tabOf yN yB 1 (some .byte) site
def P (x : Addr) (cd z : Int32) (args : Array Value) (s : State) : Prop := args = #[.ref x] ∧ Has x "java/lang/String" "coder" "B" (.int cd) s ∧ (cd = 0 ∨ cd = 1) ∧ StaticIs s "java/lang/String" "COMPACT_STRINGS" "Z" (.int z) ∧ ¬ z = 0
def E (cd : Int32) (r : Option Value) (s u : State) : Prop := XT.PureE (some (.int cd)) r s u
theorem law (l : Launch) (x : Addr) (cd z : Int32) : Law l yN 1 0 0 0 yB 1 (some .byte) site (P x cd z) (E cd) [] 0 0 := by
  refine Law.of_walk (plainFor_of_name (by decide +kernel)) (by decide +kernel) (by decide +kernel) (by decide) (fun _ _ h => by rw [h.1]; rfl) (fun _ U U' hal hh h => ⟨h.1, h.2.1.mv hal hh, h.2.2.1, h.2.2.2.1.there hal hh, h.2.2.2.2⟩) (fun r U U' V V' h1 hal h2 h => XT.PureE.mv r U U' V V' h1 hal h2 h) ?_
  intro p e s m args below meth c s₁ X0 hexec hbytes hml hret hlk hnm hown hh0 W hP
  obtain ⟨rfl, hx, hc, s1, hz⟩ := hP
  have c1 : Steps p.tables e below (s₁.setTop (entryFrame m #[.ref x] 1)) (s₁.setTop (mkF m 0 #[.val (.ref x)] [])) := entry rfl
  obtain ⟨T2, X2, q2, st2⟩ := X0.sget hexec hown (wk W (.fieldLink "java/lang/String" 38 "java/lang/String" "COMPACT_STRINGS" "Z")) s1 (fun _ _ h => by rw [hh0]; exact h) (g := (mkF m 0 #[.val (.ref x)] [])) rfl (hb hbytes d0)
  have hh2 := q2.trans hh0
  have c3 : Steps p.tables e below (s₁.setTop (entryFrame m #[.ref x] 1)) (T2.setTop (mkF m 7 #[.val (.ref x)] [.ref x])) := (c1.trans (st2 _ (Steps.refl _))).trans (by
    refine XS.ifNo X2.here hexec rfl (hb hbytes d3) rfl (i0_eq_f hz) ?_
    refine XS.aloadN X2.here hexec rfl (hb hbytes d6) rfl rfl ?_
    exact Steps.refl _)
  obtain ⟨T4, X4, q4, st4⟩ := X2.hget hexec hown (wk W (.fieldLink "java/lang/String" 15 "java/lang/String" "coder" "B")) (hx.mv X2.warmed.alike hh2) (g := (mkF m 7 #[.val (.ref x)] [.ref x])) rfl (rest := []) rfl (hb hbytes d7)
  have c5 : Steps p.tables e below (s₁.setTop (entryFrame m #[.ref x] 1)) (T4.setTop (mkF m 14 #[.val (.ref x)] [.int cd])) := (c3.trans (st4 _ (Steps.refl _))).trans (by
    refine XS.goto X4.here hexec rfl (pc0 := 10) rfl (hb hbytes d10) (by decide) rfl ?_
    exact Steps.refl _)
  exact ⟨T4, some (.int cd), _, _, _, X4, rfl, rfl, rfl, (fun h => by cases h), ⟨rfl, q4.trans hh2⟩, fun fs hl => c5.trans (X4.ireturnOut hexec hret (by rcases hc with rfl | rfl <;> rfl) (Or.inr (Or.inr (Or.inl rfl))) (hb hbytes d14) hl)⟩
end Cdr
namespace Len
def yN : MethodName := ⟨"java/lang/String", "length", "()I"⟩
abbrev yB : ByteArray := jdk_42_method_54_code
theorem d0 : decode yB 0 = .ok (.aload_n 0, 1) := by decide +kernel
theorem d1 : decode yB 1 = .ok (.getfield 9, 3) := by decide +kernel
theorem d4 : decode yB 4 = .ok (.arraylength, 1) := by decide +kernel
theorem d5 : decode yB 5 = .ok (.aload_n 0, 1) := by decide +kernel
theorem d6 : decode yB 6 = .ok (.invokevirtual 335, 3) := by decide +kernel
theorem d9 : decode yB 9 = .ok (.ishr, 1) := by decide +kernel
theorem d10 : decode yB 10 = .ok (.ireturn, 1) := by decide +kernel
def site : List Cond := [.fieldLink "java/lang/String" 9 "java/lang/String" "value" "[B", Cdr.tab] ++ virtW "java/lang/String" 335 "java/lang/String" Cdr.yN Cdr.yN
def tab : Cond := tabOf yN yB 1 (some .int) site
def P (x t : Addr) (V : Cell) (cd : Int32) (n : Nat) (f : Nat → Int32) (z : Int32) (args : Array Value) (s : State) : Prop := args = #[.ref x] ∧ Txt x t V cd n f s ∧ StaticIs s "java/lang/String" "COMPACT_STRINGS" "Z" (.int z) ∧ ¬ z = 0
def E (n : Nat) (r : Option Value) (s u : State) : Prop := XT.PureE (some (.int (Int32.ofNat n))) r s u
/-- length() of a String of n chars, in either coding -/
theorem law (l : Launch) (x t : Addr) (V : Cell) (cd : Int32) (n : Nat) (f : Nat → Int32) (z : Int32) : Law l yN 1 0 1 13 yB 1 (some .int) site (P x t V cd n f z) (E n) [] 0 0 := by
  refine Law.of_walk (plainFor_of_name (by decide +kernel)) (by decide +kernel) (by decide +kernel) (by decide) (fun _ _ h => by rw [h.1]; rfl) (fun _ U U' hal hh h => ⟨h.1, h.2.1.mv hal hh, h.2.2.1.there hal hh, h.2.2.2⟩) (fun r U U' V V' h1 hal h2 h => XT.PureE.mv r U U' V V' h1 hal h2 h) ?_
  intro p e s m args below meth c s₁ X0 hexec hbytes hml hret hlk hnm hown hh0 W hP
  obtain ⟨rfl, hx, s1, hz⟩ := hP
  have v31 := hx.2.2.2.1.2.2.2
  have c1 : Steps p.tables e below (s₁.setTop (entryFrame m #[.ref x] 1)) (s₁.setTop (mkF m 1 #[.val (.ref x)] [.ref x])) := Steps.trans (entry rfl) (by
    show Steps p.tables e below (s₁.setTop (mkF m 0 #[.val (.ref x)] [])) _
    refine XS.aloadN X0.here hexec rfl (hb hbytes d0) rfl rfl ?_
    exact Steps.refl _)
  obtain ⟨T2, X2, q2, st2⟩ := X0.hget hexec hown (wk W (.fieldLink "java/lang/String" 9 "java/lang/String" "value" "[B")) (hx.mv X0.warmed.alike hh0).2.1 (g := (mkF m 1 #[.val (.ref x)] [.ref x])) rfl (rest := []) rfl (hb hbytes d1)
  have hh2 := q2.trans hh0
  have hx2 := hx.mv X2.warmed.alike hh2
  have c3 : Steps p.tables e below (s₁.setTop (entryFrame m #[.ref x] 1)) (T2.setTop (mkF m 6 #[.val (.ref x)] [.ref x, .int (Int32.ofNat V.slots.size)])) := (c1.trans (st2 _ (Steps.refl _))).trans (by
    refine X2.alen hexec hx2.2.2.2.1 rfl rfl (hb hbytes d4) ?_
    refine XS.aloadN X2.here hexec rfl (hb hbytes d5) rfl rfl ?_
    exact Steps.refl _)
  obtain ⟨v4, T4, X4, E4, g4⟩ := X2.callV hexec (Cdr.law l x cd z) hown (wks W (virtW "java/lang/String" 335 "java/lang/String" Cdr.yN Cdr.yN)) rfl (by decide) (wk W Cdr.tab) (W := 1) (Nat.le_of_ble_eq_true rfl) (Nat.le_of_ble_eq_true rfl) (Nat.le_refl _) (Nat.le_refl _) (hx2.1.fc X2.warmed.alike) hx2.1.is (g := (mkF m 6 #[.val (.ref x)] [.ref x, .int (Int32.ofNat V.slots.size)])) rfl (by rw [hml]; rfl) c3 (argsL := []) (rest := [.int (Int32.ofNat V.slots.size)]) rfl rfl (by show 2 * 0 + (1 + 0) ≤ _; decide) (hb hbytes d6) (⟨rfl, hx2.2.2.1, hx.2.2.2.2.1.cd, s1.there X2.warmed.alike hh2, hz⟩)
  obtain ⟨rfl, q4⟩ := E4
  have c5 : Steps p.tables e below (s₁.setTop (entryFrame m #[.ref x] 1)) (T4.setTop (mkF m 10 #[.val (.ref x)] [.int (Int32.ofNat V.slots.size >>> (cd &&& 31))])) := Steps.trans g4 (by
    refine ishr X4.here hexec rfl (hb hbytes d9) rfl ?_
    exact Steps.refl _)
  rw [hx.2.2.2.2.1.len v31] at c5
  exact ⟨T4, some (.int (Int32.ofNat n)), _, _, _, X4, rfl, rfl, rfl, (fun h => by cases h), ⟨rfl, q4.trans hh2⟩, fun fs hl => c5.trans (X4.ireturnOut hexec hret rfl (Or.inl rfl) (hb hbytes d10) hl)⟩
theorem pays {l : Launch} {R : Room} {p : Program} {e : Env} {below : List Frame} {s : State} {sargs : Array Value} {len W : Nat} (x t : Addr) (V : Cell) (cd : Int32) (n : Nat) (f : Nat → Int32) (z : Int32) (htab : tab.before sargs s = true) (hfr : 2 ≤ R.frames) (hlo : W + 25 ≤ R.locals) :
    Back l R p e below s sargs yN len W (fun A₁ a₁ => A₁.cells + 0 ≤ R.cells ∧ A₁.slots + 0 ≤ R.slots ∧ P x t V cd n f z a₁ A₁.U) (fun A₁ _ v₁ B₁ => E n v₁ A₁.U B₁.U ∧ B₁.locs = A₁.locs ++ [] ∧ B₁.cells = A₁.cells + 0 ∧ B₁.slots = A₁.slots + 0) :=
  (law l x t V cd n f z).pays htab hfr (by omega)
end Len
namespace IsL
def yN : MethodName := ⟨"java/lang/String", "isLatin1", "()Z"⟩
abbrev yB : ByteArray := jdk_42_method_154_code
theorem d0 : decode yB 0 = .ok (.getstatic 38, 3) := by decide +kernel
theorem d3 : decode yB 3 = .ok (.ifCond (.eq) 14, 3) := by decide +kernel
theorem d6 : decode yB 6 = .ok (.aload_n 0, 1) := by decide +kernel
theorem d7 : decode yB 7 = .ok (.getfield 15, 3) := by decide +kernel
theorem d10 : decode yB 10 = .ok (.ifCond (.ne) 7, 3) := by decide +kernel
theorem d13 : decode yB 13 = .ok (.iconst 1, 1) := by decide +kernel
theorem d14 : decode yB 14 = .ok (.goto 4, 3) := by decide +kernel
theorem d17 : decode yB 17 = .ok (.iconst 0, 1) := by decide +kernel
theorem d18 : decode yB 18 = .ok (.ireturn, 1) := by decide +kernel
def site : List Cond := [.fieldLink "java/lang/String" 38 "java/lang/String" "COMPACT_STRINGS" "Z", .fieldLink "java/lang/String" 15 "java/lang/String" "coder" "B"]
def tab : Cond := tabOf yN yB 1 (some .boolean) site
def P (x : Addr) (cd z : Int32) (args : Array Value) (s : State) : Prop := args = #[.ref x] ∧ Has x "java/lang/String" "coder" "B" (.int cd) s ∧ (cd = 0 ∨ cd = 1) ∧ StaticIs s "java/lang/String" "COMPACT_STRINGS" "Z" (.int z) ∧ ¬ z = 0
def E (cd : Int32) (r : Option Value) (s u : State) : Prop := XT.PureE (some (.int (1 - cd))) r s u
theorem law (l : Launch) (x : Addr) (cd z : Int32) : Law l yN 1 0 0 0 yB 1 (some .boolean) site (P x cd z) (E cd) [] 0 0 := by
  refine Law.of_walk (plainFor_of_name (by decide +kernel)) (by decide +kernel) (by decide +kernel) (by decide) (fun _ _ h => by rw [h.1]; rfl) (fun _ U U' hal hh h => ⟨h.1, h.2.1.mv hal hh, h.2.2.1, h.2.2.2.1.there hal hh, h.2.2.2.2⟩) (fun r U U' V V' h1 hal h2 h => XT.PureE.mv r U U' V V' h1 hal h2 h) ?_
  intro p e s m args below meth c s₁ X0 hexec hbytes hml hret hlk hnm hown hh0 W hP
  obtain ⟨rfl, hx, hc, s1, hz⟩ := hP
  have c1 : Steps p.tables e below (s₁.setTop (entryFrame m #[.ref x] 1)) (s₁.setTop (mkF m 0 #[.val (.ref x)] [])) := entry rfl
  obtain ⟨T2, X2, q2, st2⟩ := X0.sget hexec hown (wk W (.fieldLink "java/lang/String" 38 "java/lang/String" "COMPACT_STRINGS" "Z")) s1 (fun _ _ h => by rw [hh0]; exact h) (g := (mkF m 0 #[.val (.ref x)] [])) rfl (hb hbytes d0)
  have hh2 := q2.trans hh0
  have c3 : Steps p.tables e below (s₁.setTop (entryFrame m #[.ref x] 1)) (T2.setTop (mkF m 7 #[.val (.ref x)] [.ref x])) := (c1.trans (st2 _ (Steps.refl _))).trans (by
    refine XS.ifNo X2.here hexec rfl (hb hbytes d3) rfl (i0_eq_f hz) ?_
    refine XS.aloadN X2.here hexec rfl (hb hbytes d6) rfl rfl ?_
    exact Steps.refl _)
  obtain ⟨T4, X4, q4, st4⟩ := X2.hget hexec hown (wk W (.fieldLink "java/lang/String" 15 "java/lang/String" "coder" "B")) (hx.mv X2.warmed.alike hh2) (g := (mkF m 7 #[.val (.ref x)] [.ref x])) rfl (rest := []) rfl (hb hbytes d7)
  have c5 : Steps p.tables e below (s₁.setTop (entryFrame m #[.ref x] 1)) (T4.setTop (mkF m 10 #[.val (.ref x)] [.int cd])) := c3.trans (st4 _ (Steps.refl _))
  have c6 : Steps p.tables e below (s₁.setTop (entryFrame m #[.ref x] 1)) (T4.setTop (mkF m 18 #[.val (.ref x)] [.int (1 - cd)])) := by
    rcases hc with rfl | rfl
    · exact c5.trans (by
        refine XS.ifNo X4.here hexec rfl (hb hbytes d10) rfl (i0_ne_f rfl) ?_
        refine iconstV X4.here hexec rfl 1 (hb hbytes d13) (by decide) ?_
        refine XS.goto X4.here hexec rfl (pc0 := 14) rfl (hb hbytes d14) (by decide) rfl ?_
        exact Steps.refl _)
    · exact c5.trans (by
        refine XS.ifYes X4.here hexec rfl (pc0 := 10) rfl (hb hbytes d10) rfl (i0_ne_t (by decide)) (by decide) rfl ?_
        refine iconstV X4.here hexec rfl 0 (hb hbytes d17) (by decide) ?_
        exact Steps.refl _)
  exact ⟨T4, some (.int (1 - cd)), _, _, _, X4, rfl, rfl, rfl, (fun h => by cases h), ⟨rfl, q4.trans hh2⟩, fun fs hl => c6.trans (X4.ireturnOut hexec hret (by rcases hc with rfl | rfl <;> rfl) (Or.inr (Or.inl rfl)) (hb hbytes d18) hl)⟩
end IsL
namespace LChA
def yN : MethodName := ⟨"java/lang/StringLatin1", "charAt", "([BI)C"⟩
abbrev yB : ByteArray := jdk_43_method_2_code
theorem d0 : decode yB 0 = .ok (.iload_n 1, 1) := by decide +kernel
theorem d1 : decode yB 1 = .ok (.aload_n 0, 1) := by decide +kernel
theorem d2 : decode yB 2 = .ok (.arraylength, 1) := by decide +kernel
theorem d3 : decode yB 3 = .ok (.invokestatic 9, 3) := by decide +kernel
theorem d6 : decode yB 6 = .ok (.aload_n 0, 1) := by decide +kernel
theorem d7 : decode yB 7 = .ok (.iload_n 1, 1) := by decide +kernel
theorem d8 : decode yB 8 = .ok (.baload, 1) := by decide +kernel
theorem d9 : decode yB 9 = .ok (.sipush 255, 3) := by decide +kernel
theorem d12 : decode yB 12 = .ok (.iand, 1) := by decide +kernel
theorem d13 : decode yB 13 = .ok (.i2c, 1) := by decide +kernel
theorem d14 : decode yB 14 = .ok (.ireturn, 1) := by decide +kernel
def site : List Cond := [JO.Str_checkIndex.tab] ++ staticW "java/lang/StringLatin1" 9 JO.Str_checkIndex.yN
def tab : Cond := tabOf yN yB 2 (some .char) site
def P (t : Addr) (V : Cell) (i : Nat) (u : Int32) (fm : Value) (args : Array Value) (s : State) : Prop := args = #[.ref t, .int (Int32.ofNat i)] ∧ XT.Arr .byte t V s ∧ V.slots[i]? = some (.int u) ∧ (StaticIs s "jdk/internal/util/Preconditions" "SIOOBE_FORMATTER" "Ljava/util/function/BiFunction;" fm ∧ fm.isRef = true)
def E (u : Int32) (r : Option Value) (s w : State) : Prop := XT.PureE (some (.int (chr8 u))) r s w
theorem law (l : Launch) (t : Addr) (V : Cell) (i : Nat) (u : Int32) (fm : Value) : Law l yN 2 2 2 27 yB 2 (some .char) site (P t V i u fm) (E u) [] 0 0 := by
  refine Law.of_walk (plainFor_of_name (by decide +kernel)) (by decide +kernel) (by decide +kernel) (by decide) (fun _ _ h => by rw [h.1]; rfl) (fun _ U U' hal hh h => ⟨h.1, h.2.1.mv hal hh, h.2.2.1, h.2.2.2.1.there hal hh, h.2.2.2.2⟩) (fun r U U' V V' h1 hal h2 h => XT.PureE.mv r U U' V V' h1 hal h2 h) ?_
  intro p e s m args below meth c s₁ X0 hexec hbytes hml hret hlk hnm hown hh0 W hP
  obtain ⟨rfl, hV, hu, s1, rf⟩ := hP
  have v31 := hV.2.2.2
  have hi : i < V.slots.size := (Array.getElem?_eq_some_iff.mp hu).1
  have c1 : Steps p.tables e below (s₁.setTop (entryFrame m #[.ref t, .int (Int32.ofNat i)] 2)) (s₁.setTop (mkF m 0 #[.val (.ref t), .val (.int (Int32.ofNat i))] [])) := entry rfl
  have c2 : Steps p.tables e below (s₁.setTop (entryFrame m #[.ref t, .int (Int32.ofNat i)] 2)) (s₁.setTop (mkF m 3 #[.val (.ref t), .val (.int (Int32.ofNat i))] [.int (Int32.ofNat V.slots.size), .int (Int32.ofNat i)])) := c1.trans (by
    refine XS.iloadN X0.here hexec rfl (hb hbytes d0) rfl ?_
    refine XS.aloadN X0.here hexec rfl (hb hbytes d1) rfl rfl ?_
    refine X0.alen hexec (hV.mv X0.warmed.alike hh0) rfl rfl (hb hbytes d2) ?_
    exact Steps.refl _)
  obtain ⟨v3, T3, X3, E3, g3⟩ := X0.callS hexec (JO.Str_checkIndex.law l (Int32.ofNat i) (Int32.ofNat V.slots.size) fm) hown (wks W (staticW "java/lang/StringLatin1" 9 JO.Str_checkIndex.yN)) (wk W JO.Str_checkIndex.tab) (W := 0) (Nat.le_of_ble_eq_true rfl) (Nat.le_of_ble_eq_true rfl) (Nat.le_refl _) (Nat.le_refl _) (g := (mkF m 3 #[.val (.ref t), .val (.int (Int32.ofNat i))] [.int (Int32.ofNat V.slots.size), .int (Int32.ofNat i)])) rfl (by rw [hml]; rfl) c2 (argsL := [.int (Int32.ofNat i), .int (Int32.ofNat V.slots.size)]) (rest := []) rfl rfl (by show 2 * 0 + 0 ≤ _; decide) (hb hbytes d3) (⟨rfl, rf, s1.there X0.warmed.alike hh0, Int32.ofNat_not_neg (by omega), lt32 v31 hi⟩)
  obtain ⟨rfl, q3⟩ := E3
  have hh3 := q3.trans hh0
  have c4 : Steps p.tables e below (s₁.setTop (entryFrame m #[.ref t, .int (Int32.ofNat i)] 2)) (T3.setTop (mkF m 14 #[.val (.ref t), .val (.int (Int32.ofNat i))] [.int (chr8 u)])) := Steps.trans g3 (by
    refine XS.aloadN X3.here hexec rfl (hb hbytes d6) rfl rfl ?_
    refine XS.iloadN X3.here hexec rfl (hb hbytes d7) rfl ?_
    refine X3.aget hexec (hV.mv X3.warmed.alike hh3) rfl hu rfl rfl (hb hbytes d8) ?_
    refine sipushV X3.here hexec rfl 255 (hb hbytes d9) (by decide) ?_
    refine XS.iand X3.here hexec rfl (hb hbytes d12) rfl ?_
    refine i2c X3.here hexec rfl (hb hbytes d13) rfl ?_
    exact Steps.refl _)
  exact ⟨T3, some (.int (chr8 u)), _, _, _, X3, rfl, rfl, rfl, (fun h => by cases h), ⟨rfl, hh3⟩, fun fs hl => c4.trans (X3.ireturnOut hexec hret (narrow_c _) (Or.inr (Or.inr (Or.inr (Or.inl rfl)))) (hb hbytes d14) hl)⟩
end LChA
end StrChars
namespace StrChars.Road
open Jvm Sem ClassFile Op Lib Jvm.Stand Jvm.Free Jvm.Free.XT
open Jvm.Lib.Cold (StaticIs)
theorem consq {a : Array Value} {s : State} {c : Jvm.Cond} {L : List Jvm.Cond} (h0 : c.before a s = true) (h : ∀ w ∈ L, w.before a s = true) : ∀ w ∈ c :: L, w.before a s = true := fun w hw => (List.mem_cons.mp hw).elim (fun e => e ▸ h0) (h w)
/-- the words of String.length(), either coding -/
abbrev wordsLen : List Jvm.Cond := [.code Len.yN Len.yB 1 (some .int), .initialized ST, .fieldLink ST 9 ST "value" "[B", .fieldLink ST 38 ST "COMPACT_STRINGS" "Z", .fieldLink ST 15 ST "coder" "B", .code Cdr.yN Cdr.yB 1 (some .byte), .methodLink ST 335 Cdr.yN, .declares Cdr.yN, .selects ST Cdr.yN Cdr.yN, .instanceMethod Cdr.yN]
theorem tabLen_of {a : Array Value} {s : State} (h : ∀ w ∈ wordsLen, w.before a s = true) : Len.tab.before a s = true := by
  have hc : Cdr.tab.before a s = true := unparts (wk h (.code Cdr.yN Cdr.yB 1 (some .byte))) (wks h (.initialized Cdr.yN.cls :: Cdr.site))
  have q := consq hc h
  exact unparts (wk q (.code Len.yN Len.yB 1 (some .int))) (wks q (.initialized Len.yN.cls :: Len.site))
theorem movedLen {Z s : State} {a0 args : Array Value} (hZ : Z.Warmed39 s.vm) (hw : ∀ d ∈ wordsLen, d.before a0 Z = true) : ∀ d ∈ wordsLen, d.before args s = true := fun d hd => by
  have q := hw d hd
  have t : ∀ d ∈ wordsLen, d = .arrayClass .byte ∨ (d.onTables && d.keepsFace) = true := by decide +kernel
  rcases t d hd with rfl | t
  · exact RoadKit.mvA hZ q
  · exact RoadKit.mv hZ q t
/-- the bytes of the chars cs, low before high -/
def wideBytes : List Int32 → List Value
  | [] => []
  | c :: cs => .int (lo8 c) :: .int (hi8 c) :: wideBytes cs
theorem wide_lo (d : Value) : ∀ (cs : List Int32) (j : Nat), j < cs.length → (wideBytes cs).getD (2 * j) d = .int (lo8 (cs.getD j 0))
  | [], j, h => absurd h (Nat.not_lt_zero j)
  | c :: cs, 0, _ => rfl
  | c :: cs, j + 1, h => by
    have q := wide_lo d cs j (by simpa using h)
    rw [show 2 * (j + 1) = 2 * j + 1 + 1 from by omega]
    simpa [wideBytes] using q
theorem wide_hi (d : Value) : ∀ (cs : List Int32) (j : Nat), j < cs.length → (wideBytes cs).getD (2 * j + 1) d = .int (hi8 (cs.getD j 0))
  | [], j, h => absurd h (Nat.not_lt_zero j)
  | c :: cs, 0, _ => rfl
  | c :: cs, j + 1, h => by
    have q := wide_hi d cs j (by simpa using h)
    rw [show 2 * (j + 1) + 1 = 2 * j + 1 + 1 + 1 from by omega]
    simpa [wideBytes] using q
theorem low_at (d : Value) (cs : List Int32) (j : Nat) (h : j < cs.length) : (cs.map fun c => Value.int (lo8 c)).getD j d = .int (lo8 (cs.getD j 0)) := by
  simp [List.getD_eq_getElem?_getD, h]
/-- an array of N2 bytes vs codes the chars cs by the coder cd -/
def CodA (cs : List Int32) (cd N2 : Int32) (vs : List Value) : Prop := (cd = 0 ∧ N2 = Int32.ofNat cs.length ∧ vs = (cs.map fun c => Value.int (lo8 c)) ∧ ∀ c ∈ cs, ¬ 255 < c) ∨ (cd = 1 ∧ N2 = Int32.ofNat (2 * cs.length) ∧ vs = wideBytes cs ∧ ∃ c ∈ cs, 255 < c)
theorem CodA.cod {cs : List Int32} {cd N2 : Int32} {vs : List Value} {V : Cell} (h : CodA cs cd N2 vs) (hn : 2 * cs.length < 2 ^ 31) (hs : V.slots.size = N2.toNatClampNeg) (hv : RoadKit.Has V vs (.int 0)) : Cod cd cs.length (fun j => cs.getD j 0) V := by
  rcases h with ⟨rfl, rfl, rfl, h⟩ | ⟨rfl, rfl, rfl, c, hc, hw⟩
  · rw [n32 (by omega)] at hs
    exact Or.inl ⟨rfl, hs, fun j hj => ⟨by rw [hv j (by omega), low_at _ _ _ hj], by
      have e : cs.getD j 0 = cs[j] := by simp [List.getD_eq_getElem?_getD, hj]
      show ¬ 255 < cs.getD j 0
      rw [e]; exact h _ (List.getElem_mem _)⟩⟩
  · rw [n32 (by omega)] at hs
    obtain ⟨j, hj, rfl⟩ := List.getElem_of_mem hc
    exact Or.inr ⟨rfl, hs, fun j hj => ⟨by rw [hv _ (by omega), wide_lo _ _ _ hj], by rw [hv _ (by omega), wide_hi _ _ _ hj]⟩, j, hj, by
      have e : cs.getD j 0 = cs[j] := by simp [List.getD_eq_getElem?_getD, hj]
      show 255 < cs.getD j 0
      rw [e]; exact hw⟩
/-- an object of exactly java/lang/String, its two fields found: as the laws ask it -/
theorem strObj {Z U : State} {a0 : Array Value} {kI : Nat} (wi : (Jvm.Cond.instantiable ST kI).before a0 Z = true) (al : Z.vm.Alike U.vm) {x : Addr} {v0 c0 : Value} (E : RoadKit.Exa Z U.heap x ST) (V : RoadKit.Fld Z U.heap x ST "value" "[B" v0) (C : RoadKit.Fld Z U.heap x ST "coder" "B" c0) :
    ∃ (D : Cell) (fV fC : Field), Blank ST x D U ∧ Found ST "value" "[B" fV U ∧ Found ST "coder" "B" fC U ∧ D.slots[fV.slot]? = some v0 ∧ D.slots[fC.slot]? = some c0 ∧ RoadKit.slotOf Z ST "value" "[B" = fV.slot ∧ RoadKit.slotOf Z ST "coder" "B" = fC.slot := by
  obtain ⟨D, cfV, kV, iV, fV, hD, gV, stV, knV, obV, asV, slV⟩ := V
  obtain ⟨D', cfC, kC, iC, fC, hD', gC, stC, -, -, asC, slC⟩ := C
  cases hD.symm.trans hD'
  obtain ⟨D2, kD, e1, e2, e3, e4, e5⟩ := E
  cases hD.symm.trans e1
  obtain ⟨c2, k2, i1, i2, i3, -⟩ := Cond.instantiable_spec wi
  cases e2.symm.trans i1
  cases e3.symm.trans i2
  obtain ⟨kU, u1, u2⟩ := al.2.2 _ _ e3
  exact ⟨D, fV, fC, ⟨hD, ⟨knV, fun q hq => by rw [hq] at obV; cases obV⟩, by rw [al.findClass]; exact e2, kU, u1, by rw [u2]; exact i3, by rw [u2]; exact e5 i3⟩, ⟨SBG.found_only al ⟨cfV, kV, iV, gV⟩, stV⟩, ⟨SBG.found_only al ⟨cfC, kC, iC, gC⟩, stC⟩, slV, slC, by simp [RoadKit.slotOf, gV], by simp [RoadKit.slotOf, gC]⟩
theorem sta_is {Z U : State} (al : Z.vm.Alike U.vm) {C n d : String} {v : Value} (S : RoadKit.Sta Z U.heap C n d v) : StaticIs U C n d v := by
  obtain ⟨cfS, iS, kS, fS, st, cS, t1, t2, t3, t4, t5, t6, t7⟩ := S
  exact StaticIs.there (s := { Z with heap := U.heap }) ⟨cfS, iS, kS, fS, st, cS, t1, t2, t3, t4, t5, (fun q => by rw [q] at t6; cases t6), t7⟩ al rfl
/-- **length() OF SUCH A STRING** -/
theorem lenW {p : Program} {l : Launch} {e : Env} {R : Room} {s : State} {args : Array Value} {below : List Frame} {len W : Nat} {Z : State} {a0 : Array Value} {h : Heap} (hZ : Z.Warmed39 s.vm) (hw : ∀ d ∈ wordsLen, d.before a0 Z = true) {kI : Nat} (wi : (Jvm.Cond.instantiable ST kI).before a0 Z = true)
    {x t : Addr} {kb : ClassId} {cs : List Int32} {cd N2 z : Int32} {vs : List Value} (E : RoadKit.Exa Z h x ST) (V : RoadKit.Fld Z h x ST "value" "[B" (.ref t)) (C : RoadKit.Fld Z h x ST "coder" "B" (.int cd)) (K : RoadKit.Arv Z h t kb .byte N2 vs (.int 0)) (hc : CodA cs cd N2 vs) (hb : ∀ c ∈ cs, ¬ c < 0 ∧ ¬ (65535 : Int32) < c)
    (S : RoadKit.Sta Z h ST "COMPACT_STRINGS" "Z" (.int z)) (hz : ¬ z = 0) (l2 : cs.length ≤ 4000) (hfr : 2 ≤ R.frames) (hlo : W + 25 ≤ R.locals) :
    Back l R p e below s args (⟨"java/lang/String", "length", "()I"⟩ : MethodName) len W (fun P a => a = #[.ref x] ∧ P.U.heap = h ∧ P.cells + 0 ≤ R.cells ∧ P.slots + 0 ≤ R.slots)
      (fun P _ v B => ∃ L, (v = some (.int (Int32.ofNat cs.length)) ∧ L = [] ∧ B.U.heap = h) ∧ B.locs = P.locs ++ L ∧ B.cells = P.cells + 0 ∧ B.slots = P.slots + 0) := by
  obtain ⟨A, K1, K2, K3, K4, K5, K6⟩ := K
  have hcod := hc.cod (by omega) K3 K5
  intro m meth c P g ig mk a X hg hsize hdg hW hn hp'
  obtain ⟨rfl, rfl, r1, r2⟩ := hp'
  have al : Z.vm.Alike P.U.vm := hZ.alike.trans X.warmed.alike
  obtain ⟨D, fV, fC, hB, F1, F2, g1, g2, -, -⟩ := strObj wi al E V C
  have hx : Txt x t A cd cs.length (fun j => cs.getD j 0) P.U := ⟨⟨_, hB.2.2.1, D, hB.1, rfl, by cases q : D.vm <;> first | rfl | exact absurd q (hB.2.1.2 _)⟩, Has.of hB F1 g1, Has.of hB F2 g2, ⟨K1.1, State.isArrayOf_alike al K1.2.1, K1.2.2, by rcases hcod with ⟨-, q, -⟩ | ⟨-, q, -⟩ <;> omega⟩, hcod, fun j hj => by
    have e : cs.getD j 0 = cs[j] := by simp [List.getD_eq_getElem?_getD, hj]
    show ¬ cs.getD j 0 < 0 ∧ ¬ 65535 < cs.getD j 0
    rw [e]; exact hb _ (List.getElem_mem _)⟩
  obtain ⟨v, B, X', ⟨⟨hv, hh⟩, hl, hk, hs⟩, st⟩ := Len.pays x t A cd cs.length (fun j => cs.getD j 0) z (tabLen_of (movedLen hZ hw)) hfr hlo m meth c P g ig mk _ X hg hsize hdg hW hn ⟨r1, r2, rfl, hx, sta_is al S, hz⟩
  exact ⟨v, B, X', ⟨[], ⟨hv, rfl, hh⟩, hl, hk, hs⟩, st⟩
end StrChars.Road
namespace StrChars.Road
open Jvm Sem ClassFile Op Lib Jvm.Stand Jvm.Free Jvm.Free.XT
open Jvm.Lib.Cold (StaticIs)
/-- the road's facts of a String, as the laws ask it -/
theorem txt_of {Z U : State} {a0 : Array Value} {kI : Nat} (wi : (Jvm.Cond.instantiable ST kI).before a0 Z = true) (al : Z.vm.Alike U.vm) {x t : Addr} {kb : ClassId} {cs : List Int32} {cd N2 : Int32} {vs : List Value} (E : RoadKit.Exa Z U.heap x ST) (V : RoadKit.Fld Z U.heap x ST "value" "[B" (.ref t)) (C : RoadKit.Fld Z U.heap x ST "coder" "B" (.int cd)) (K : RoadKit.Arv Z U.heap t kb .byte N2 vs (.int 0)) (hc : CodA cs cd N2 vs) (hb : ∀ c ∈ cs, ¬ c < 0 ∧ ¬ (65535 : Int32) < c) (l2 : cs.length ≤ 4000) :
    ∃ A, Txt x t A cd cs.length (fun j => cs.getD j 0) U := by
  obtain ⟨A, K1, K2, K3, K4, K5, K6⟩ := K
  have hcod := hc.cod (by omega) K3 K5
  obtain ⟨D, fV, fC, hB, F1, F2, g1, g2, -, -⟩ := strObj wi al E V C
  exact ⟨A, ⟨_, hB.2.2.1, D, hB.1, rfl, by cases q : D.vm <;> first | rfl | exact absurd q (hB.2.1.2 _)⟩, Has.of hB F1 g1, Has.of hB F2 g2, ⟨K1.1, State.isArrayOf_alike al K1.2.1, K1.2.2, by rcases hcod with ⟨-, q, -⟩ | ⟨-, q, -⟩ <;> omega⟩, hcod, fun j hj => by
    have e : cs.getD j 0 = cs[j] := by simp [List.getD_eq_getElem?_getD, hj]
    show ¬ cs.getD j 0 < 0 ∧ ¬ 65535 < cs.getD j 0
    rw [e]; exact hb _ (List.getElem_mem _)⟩
end StrChars.Road
namespace StrChars
open Jvm Sem ClassFile Op Lib Jvm.Stand Jvm.Free.XT Jvm.Free.ALB Jvm.Free.JM Jvm.Free
open Jvm.Lib.Cold (StaticIs)
namespace ChN
def yN : MethodName := ⟨"java/lang/String", "charAt", "(I)C"⟩
abbrev yB : ByteArray := jdk_42_method_56_code
theorem d0 : decode yB 0 = .ok (.aload_n 0, 1) := by decide +kernel
theorem d1 : decode yB 1 = .ok (.invokevirtual 492, 3) := by decide +kernel
theorem d4 : decode yB 4 = .ok (.ifCond (.eq) 12, 3) := by decide +kernel
theorem d7 : decode yB 7 = .ok (.aload_n 0, 1) := by decide +kernel
theorem d8 : decode yB 8 = .ok (.getfield 9, 3) := by decide +kernel
theorem d11 : decode yB 11 = .ok (.iload_n 1, 1) := by decide +kernel
theorem d12 : decode yB 12 = .ok (.invokestatic 495, 3) := by decide +kernel
theorem d15 : decode yB 15 = .ok (.ireturn, 1) := by decide +kernel
def site : List Cond := [.fieldLink "java/lang/String" 9 "java/lang/String" "value" "[B", IsL.tab, LChA.tab] ++ virtW "java/lang/String" 492 "java/lang/String" IsL.yN IsL.yN ++ staticW "java/lang/String" 495 LChA.yN
def tab : Cond := tabOf yN yB 2 (some .char) site
def P (x t : Addr) (V : Cell) (n : Nat) (f : Nat → Int32) (z : Int32) (fm : Value) (i : Nat) (args : Array Value) (s : State) : Prop := args = #[.ref x, .int (Int32.ofNat i)] ∧ Txt x t V 0 n f s ∧ i < n ∧ StaticIs s "java/lang/String" "COMPACT_STRINGS" "Z" (.int z) ∧ ¬ z = 0 ∧ StaticIs s "jdk/internal/util/Preconditions" "SIOOBE_FORMATTER" "Ljava/util/function/BiFunction;" fm ∧ fm.isRef = true
def E (f : Nat → Int32) (i : Nat) (r : Option Value) (s u : State) : Prop := XT.PureE (some (.int (f i))) r s u
/-- charAt(i) of a Latin-1 String of n chars, i < n: f i -/
theorem law (l : Launch) (x t : Addr) (V : Cell) (n : Nat) (f : Nat → Int32) (z : Int32) (fm : Value) (i : Nat) : Law l yN 2 1 3 40 yB 2 (some .char) site (P x t V n f z fm i) (E f i) [] 0 0 := by
  refine Law.of_walk (plainFor_of_name (by decide +kernel)) (by decide +kernel) (by decide +kernel) (by decide) (fun _ _ h => by rw [h.1]; rfl) (fun _ U U' hal hh h => ⟨h.1, h.2.1.mv hal hh, h.2.2.1, h.2.2.2.1.there hal hh, h.2.2.2.2.1, h.2.2.2.2.2.1.there hal hh, h.2.2.2.2.2.2⟩) (fun r U U' V V' h1 hal h2 h => XT.PureE.mv r U U' V V' h1 hal h2 h) ?_
  intro p e s m args below meth c s₁ X0 hexec hbytes hml hret hlk hnm hown hh0 W hP
  obtain ⟨rfl, hx, hi, s1, hz, s3, rf⟩ := hP
  have v31 := hx.2.2.2.1.2.2.2
  have hr := hx.2.2.2.2.2 i hi
  have hx0 := hx.mv X0.warmed.alike hh0
  have c1 : Steps p.tables e below (s₁.setTop (entryFrame m #[.ref x, .int (Int32.ofNat i)] 2)) (s₁.setTop (mkF m 1 #[.val (.ref x), .val (.int (Int32.ofNat i))] [.ref x])) := Steps.trans (entry rfl) (by
    show Steps p.tables e below (s₁.setTop (mkF m 0 #[.val (.ref x), .val (.int (Int32.ofNat i))] [])) _
    refine XS.aloadN X0.here hexec rfl (hb hbytes d0) rfl rfl ?_
    exact Steps.refl _)
  obtain ⟨v2, T2, X2, E2, g2⟩ := X0.callV hexec (IsL.law l x 0 z) hown (wks W (virtW "java/lang/String" 492 "java/lang/String" IsL.yN IsL.yN)) rfl (by decide) (wk W IsL.tab) (W := 0) (Nat.le_of_ble_eq_true rfl) (Nat.le_of_ble_eq_true rfl) (Nat.le_refl _) (Nat.le_refl _) (hx0.1.fc X0.warmed.alike) hx0.1.is (g := (mkF m 1 #[.val (.ref x), .val (.int (Int32.ofNat i))] [.ref x])) rfl (by rw [hml]; rfl) c1 (argsL := []) (rest := []) rfl rfl (by show 2 * 0 + 0 ≤ _; decide) (hb hbytes d1) (⟨rfl, hx0.2.2.1, hx.2.2.2.2.1.cd, s1.there X0.warmed.alike hh0, hz⟩)
  obtain ⟨rfl, q2⟩ := E2
  have hh2 := q2.trans hh0
  have hx2 := hx.mv X2.warmed.alike hh2
  obtain ⟨-, k1, k2⟩ | ⟨k0, -⟩ := hx.2.2.2.2.1
  · have c3 : Steps p.tables e below (s₁.setTop (entryFrame m #[.ref x, .int (Int32.ofNat i)] 2)) (T2.setTop (mkF m 8 #[.val (.ref x), .val (.int (Int32.ofNat i))] [.ref x])) := Steps.trans g2 (by
      refine XS.ifNo X2.here hexec rfl (hb hbytes d4) rfl (i0_eq_f (by decide)) ?_
      refine XS.aloadN X2.here hexec rfl (hb hbytes d7) rfl rfl ?_
      exact Steps.refl _)
    obtain ⟨T4, X4, q4, st4⟩ := X2.hget hexec hown (wk W (.fieldLink "java/lang/String" 9 "java/lang/String" "value" "[B")) hx2.2.1 (g := (mkF m 8 #[.val (.ref x), .val (.int (Int32.ofNat i))] [.ref x])) rfl (rest := []) rfl (hb hbytes d8)
    have hh4 := q4.trans hh2
    have c5 : Steps p.tables e below (s₁.setTop (entryFrame m #[.ref x, .int (Int32.ofNat i)] 2)) (T4.setTop (mkF m 12 #[.val (.ref x), .val (.int (Int32.ofNat i))] [.int (Int32.ofNat i), .ref t])) := (c3.trans (st4 _ (Steps.refl _))).trans (by
      refine XS.iloadN X4.here hexec rfl (hb hbytes d11) rfl ?_
      exact Steps.refl _)
    obtain ⟨v6, T6, X6, E6, g6⟩ := X4.callS hexec (LChA.law l t V i (lo8 (f i)) fm) hown (wks W (staticW "java/lang/String" 495 LChA.yN)) (wk W LChA.tab) (W := 0) (Nat.le_of_ble_eq_true rfl) (Nat.le_of_ble_eq_true rfl) (Nat.le_refl _) (Nat.le_refl _) (g := (mkF m 12 #[.val (.ref x), .val (.int (Int32.ofNat i))] [.int (Int32.ofNat i), .ref t])) rfl (by rw [hml]; rfl) c5 (argsL := [.ref t, .int (Int32.ofNat i)]) (rest := []) rfl rfl (by show 2 * 0 + 0 ≤ _; decide) (hb hbytes d12) (⟨rfl, hx.2.2.2.1.mv X4.warmed.alike hh4, (k2 i hi).1, s3.there X4.warmed.alike hh4, rf⟩)
    obtain ⟨rfl, q6⟩ := E6
    rw [chr8_lo8 hr.1 (k2 i hi).2] at g6
    exact ⟨T6, some (.int (f i)), _, _, _, X6, rfl, rfl, rfl, (fun h => by cases h), ⟨rfl, q6.trans hh4⟩, fun fs hl => Steps.trans g6 (X6.ireturnOut hexec hret (narrow_ch hr.1 hr.2) (Or.inr (Or.inr (Or.inr (Or.inl rfl)))) (hb hbytes d15) hl)⟩
  · exact absurd k0 (by decide)
theorem pays {l : Launch} {R : Room} {p : Program} {e : Env} {below : List Frame} {s : State} {sargs : Array Value} {len W : Nat} (x t : Addr) (V : Cell) (n : Nat) (f : Nat → Int32) (z : Int32) (fm : Value) (i : Nat) (htab : tab.before sargs s = true) (hfr : 4 ≤ R.frames) (hlo : W + 53 ≤ R.locals) :
    Back l R p e below s sargs yN len W (fun A₁ a₁ => A₁.cells + 0 ≤ R.cells ∧ A₁.slots + 0 ≤ R.slots ∧ P x t V n f z fm i a₁ A₁.U) (fun A₁ _ v₁ B₁ => E f i v₁ A₁.U B₁.U ∧ B₁.locs = A₁.locs ++ [] ∧ B₁.cells = A₁.cells + 0 ∧ B₁.slots = A₁.slots + 0) :=
  (law l x t V n f z fm i).pays htab hfr (by omega)
end ChN
end StrChars
namespace StrChars.Road
open Jvm Sem ClassFile Op Lib Jvm.Stand Jvm.Free Jvm.Free.XT
open Jvm.Lib.Cold (StaticIs)
/-- the words of String.charAt(int), the Latin-1 road alone -/
abbrev wordsChN : List Jvm.Cond := [.code ChN.yN ChN.yB 2 (some .char), .initialized ST, .fieldLink ST 9 ST "value" "[B", .fieldLink ST 38 ST "COMPACT_STRINGS" "Z", .fieldLink ST 15 ST "coder" "B", .code IsL.yN IsL.yB 1 (some .boolean), .methodLink ST 492 IsL.yN, .declares IsL.yN, .selects ST IsL.yN IsL.yN, .instanceMethod IsL.yN,
  .methodLink ST 495 LChA.yN, .static LChA.yN, .code LChA.yN LChA.yB 2 (some .char), .initialized "java/lang/StringLatin1", .methodLink "java/lang/StringLatin1" 9 JO.Str_checkIndex.yN, .static JO.Str_checkIndex.yN, .code JO.Str_checkIndex.yN JO.Str_checkIndex.yB 2 none,
  .fieldLink ST 1053 "jdk/internal/util/Preconditions" "SIOOBE_FORMATTER" "Ljava/util/function/BiFunction;", .methodLink ST 1059 JC.PreCheck.yN, .static JC.PreCheck.yN, .code JC.PreCheck.yN JC.PreCheck.yB 3 (some .int), .initialized "jdk/internal/util/Preconditions"]
theorem tabChN_of {a : Array Value} {s : State} (h : ∀ w ∈ wordsChN, w.before a s = true) : ChN.tab.before a s = true := by
  have hp : JC.PreCheck.tab.before a s = true := unparts (wk h (.code JC.PreCheck.yN JC.PreCheck.yB 3 (some .int))) (wks h (.initialized JC.PreCheck.yN.cls :: JC.PreCheck.site))
  have qk := consq hp h
  have hk : JO.Str_checkIndex.tab.before a s = true := unparts (wk qk (.code JO.Str_checkIndex.yN JO.Str_checkIndex.yB 2 none)) (wks qk (.initialized JO.Str_checkIndex.yN.cls :: JO.Str_checkIndex.site))
  have ql := consq hk h
  have hl : LChA.tab.before a s = true := unparts (wk ql (.code LChA.yN LChA.yB 2 (some .char))) (wks ql (.initialized LChA.yN.cls :: LChA.site))
  have hi : IsL.tab.before a s = true := unparts (wk h (.code IsL.yN IsL.yB 1 (some .boolean))) (wks h (.initialized IsL.yN.cls :: IsL.site))
  have q := consq hi (consq hl h)
  exact unparts (wk q (.code ChN.yN ChN.yB 2 (some .char))) (wks q (.initialized ChN.yN.cls :: ChN.site))
theorem movedChN {Z s : State} {a0 args : Array Value} (hZ : Z.Warmed39 s.vm) (hw : ∀ d ∈ wordsChN, d.before a0 Z = true) : ∀ d ∈ wordsChN, d.before args s = true := fun d hd => by
  have t : ∀ d ∈ wordsChN, (d.onTables && d.keepsFace) = true := by decide +kernel
  exact RoadKit.mv hZ (hw d hd) (t d hd)
/-- **charAt(i) OF A LATIN-1 STRING**, i < n: the char -/
theorem chN {p : Program} {l : Launch} {e : Env} {R : Room} {s : State} {args : Array Value} {below : List Frame} {len W : Nat} {Z : State} {a0 : Array Value} {h : Heap} (hZ : Z.Warmed39 s.vm) (hw : ∀ d ∈ wordsChN, d.before a0 Z = true) {kI : Nat} (wi : (Jvm.Cond.instantiable ST kI).before a0 Z = true)
    {x t : Addr} {kb : ClassId} {cs : List Int32} {N2 z : Int32} {vs : List Value} {fm : Value} {i : Nat} {j : Int32} (E : RoadKit.Exa Z h x ST) (V : RoadKit.Fld Z h x ST "value" "[B" (.ref t)) (C : RoadKit.Fld Z h x ST "coder" "B" (.int 0)) (K : RoadKit.Arv Z h t kb .byte N2 vs (.int 0)) (hc : CodA cs 0 N2 vs) (hb : ∀ c ∈ cs, ¬ c < 0 ∧ ¬ (65535 : Int32) < c)
    (S : RoadKit.Sta Z h ST "COMPACT_STRINGS" "Z" (.int z)) (hz : ¬ z = 0) (F : RoadKit.Sta Z h "jdk/internal/util/Preconditions" "SIOOBE_FORMATTER" "Ljava/util/function/BiFunction;" fm) (rf : fm.isRef = true) (l2 : cs.length ≤ 4000) (hi : i < cs.length) (hj : j = Int32.ofNat i) (hfr : 4 ≤ R.frames) (hlo : W + 53 ≤ R.locals) :
    Back l R p e below s args (⟨"java/lang/String", "charAt", "(I)C"⟩ : MethodName) len W (fun P a => a = #[.ref x, .int j] ∧ P.U.heap = h ∧ P.cells + 0 ≤ R.cells ∧ P.slots + 0 ≤ R.slots)
      (fun P _ v B => ∃ L, (v = some (.int (cs.getD i 0)) ∧ L = [] ∧ B.U.heap = h) ∧ B.locs = P.locs ++ L ∧ B.cells = P.cells + 0 ∧ B.slots = P.slots + 0) := by
  subst hj
  intro m meth c P g ig mk a X hg hsize hdg hW hn hp'
  obtain ⟨rfl, rfl, r1, r2⟩ := hp'
  have al : Z.vm.Alike P.U.vm := hZ.alike.trans X.warmed.alike
  obtain ⟨A, hx⟩ := txt_of wi al E V C K hc hb l2
  obtain ⟨v, B, X', ⟨⟨hv, hh⟩, hl, hk, hs⟩, st⟩ := ChN.pays x t A cs.length (fun j => cs.getD j 0) z fm i (tabChN_of (movedChN hZ hw)) hfr hlo m meth c P g ig mk _ X hg hsize hdg hW hn ⟨r1, r2, rfl, hx, hi, sta_is al S, hz, sta_is al F, rf⟩
  exact ⟨v, B, X', ⟨[], ⟨hv, rfl, hh⟩, hl, hk, hs⟩, st⟩
/-- what backV says of its String, as the contracts of this text ask it: cs's low bytes, coder 0 -/
theorem codOf {cs : List Int32} {n : Nat} (hn : cs.length = n) (hb : ∀ c ∈ cs, ¬ 255 < c) : CodA cs 0 (Int32.ofNat n) ((cs.map lo8).map Value.int) := Or.inl ⟨rfl, by rw [hn], by simp [List.map_map, Function.comp_def], hb⟩
end StrChars.Road
end Jvm.Pilot.@@N@@
namespace Jvm.Pilot.@@N@@
open Jvm Jvm.ClassFile Sem Op Lib Jvm.Free Jvm.Stand Jvm.LawKit Jvm.RoadKit Bundle Jvm.Pilot.@@N@@.Jvm.D
section OwnKit
variable {p : Program} {l : Launch} {e : Env} {R : Room} {s : State} {m : MethodId} {args : Array Value} {below : List Frame} {meth : Method} {c : Code} {T T' : State} {Z : State} {a0 : Array Value} {h h' h2 : Heap} {k n k' n' : Nat} {Φ : Outcome → State → Prop} {Q : Option Value → Heap → Prop}
theorem nle {a b : Nat} (h : Nat.ble a b = true) : a ≤ b := Nat.le_of_ble_eq_true h
/-- from here the run returns, and what it leaves is as Φ says -/
def Ends (p : Program) (e : Env) (below : List Frame) (Φ : Outcome → State → Prop) (T : State) (f : JFrame) : Prop :=
  ∃ s₂ o, Steps p.tables e below (T.setTop f) s₂ ∧ s₂.status = .running ∧ Ended s₂ below o ∧ Φ o s₂
theorem Ends.go {f f' : JFrame} (st : ∀ t, Steps p.tables e below (T'.setTop f') t → Steps p.tables e below (T.setTop f) t) (K : Ends p e below Φ T' f') : Ends p e below Φ T f := by
  obtain ⟨s₂, o, h1, h2⟩ := K; exact ⟨s₂, o, st _ h1, h2⟩
theorem Ends.mono {f : JFrame} {Ψ : Outcome → State → Prop} (K : Ends p e below Φ T f) (q : ∀ o u, Φ o u → Ψ o u) : Ends p e below Ψ T f := by
  obtain ⟨s₂, o, h1, h2, h3, h4⟩ := K; exact ⟨s₂, o, h1, h2, h3, q _ _ h4⟩
/-- where a walk stands -/
def Now (p : Program) (l : Launch) (e : Env) (R : Room) (s : State) (m : MethodId) (args : Array Value) (below : List Frame) (meth : Method) (c : Code) (Z : State) (T : State) (h : Heap) (k n : Nat) : Prop :=
  ∃ locs, Stand p l e R s m args below meth c T locs k n ∧ T.heap = h ∧ Fr Z.heap.size locs ∧ Ext Z.heap s.heap
theorem Now.here (N : Now p l e R s m args below meth c Z T h k n) : At T m c below := by obtain ⟨_, X, _⟩ := N; exact X.here
theorem Now.ext (N : Now p l e R s m args below meth c Z T h k n) : Ext Z.heap h := by
  obtain ⟨L, X, eT, F, q⟩ := N
  obtain ⟨-, h1, -, -, -, h2⟩ := X.same
  have h1 : s.heap.size ≤ T.heap.size := h1
  subst eT
  refine ⟨Nat.le_trans q.1 h1, fun a cl hc => ?_⟩
  have hlt : a < Z.heap.size := (Array.getElem?_eq_some_iff.mp hc).1
  obtain ⟨c', e1, e2, e3, e4⟩ := h2 a cl (q.2 a cl hc)
  have e5 : c'.slots = cl.slots := Array.ext_getElem? fun i => e4 i fun hm => absurd hlt (Nat.not_lt.mpr (F _ hm))
  have e6 : c' = cl := by rw [e2, e5]
  rw [← e6]; exact e1
theorem Now.le (N : Now p l e R s m args below meth c Z T h k n) : Z.heap.size ≤ h.size := N.ext.1
theorem Now.le0 (N : Now p l e R s m args below meth c Z T h k n) : s.heap.size ≤ h.size := by
  obtain ⟨_, X, eT, _, q⟩ := N
  have r : s.heap.size ≤ T.heap.size := X.same.2.1
  rw [eT] at r; exact r
theorem Now.mono (N : Now p l e R s m args below meth c Z T h k n) (hk : k ≤ k') (hn : n ≤ n') : Now p l e R s m args below meth c Z T h k' n' := by
  obtain ⟨L, X, r⟩ := N; exact ⟨L, X.more hk hn, r⟩
/-- what a narrow contract promises -/
def PhiN (Z s : State) (Q : Option Value → Heap → Prop) (K N : Nat) : Outcome → State → Prop := fun o u => ∃ v L, o = .returned v ∧ (Q v u.heap ∧ Fr Z.heap.size L) ∧ FrameEnd s o u L K N
def MetN (l : Launch) (Z : State) (y : MethodName) (bytes : ByteArray) (maxL : Nat) (ret : Option FieldType) (ws : List Jvm.Cond) (rm : Room) (as' : Array Value) (h : Heap) (Q : Option Value → Heap → Prop) : Prop :=
  MetFree l y (head1 (Jvm.Cond.code y bytes maxL ret :: ws) rm) (fun a U => a = as' ∧ Z.Warmed39 U.vm ∧ U.heap = h) (fun _ _ _ _ _ => True) (fun _ U o U' => ∃ v L, o = .returned v ∧ (Q v U'.heap ∧ Fr Z.heap.size L) ∧ FrameEnd U o U' L rm.cells rm.slots)
theorem metN {y : MethodName} {bytes : ByteArray} {maxL : Nat} {ret : Option FieldType} {ws : List Jvm.Cond} {rm : Room} {as' : Array Value} {Ls : Array Slot} (hpl : plainFor y = true) (hn0 : Ext Z.heap h) (ef : ∀ m, entryFrame m as' maxL = mkF m 0 Ls [])
    (walk : ∀ (p : Program) (e : Env) (s : State) (m : MethodId) (below : List Frame) (meth : Method) (c : Code) (T : State), p.tables.exec = Jvm.exec → c.code = bytes → c.maxLocals = maxL → meth.sig.returnType = ret → meth.locks = false → s.vm.findClass y.cls = some m.cls → meth.name = y.name → Z.Warmed39 s.vm →
      Now p l e rm s m as' below meth c Z T h 0 0 → Ends p e below (PhiN Z s Q rm.cells rm.slots) T (mkF m 0 Ls [])) : MetN l Z y bytes maxL ret ws rm as' h Q := by
  refine MetFree.of_bodySF hpl hisR ?_
  intro p e s m args below meth c s₁ Bd hml0 hP hK
  obtain ⟨rfl, hZ, hh⟩ := hP
  have e0 : s₁.heap = h := by rw [← hh, Bd.state]; rfl
  have W := walk p e s m below meth c s₁ Bd.exec Bd.bytes hml0 Bd.returns Bd.notSynchronized (findClass_of_methodNamed Bd.named) (name_of_methodNamed Bd.named Bd.method).1 hZ ⟨[], Stand.of_body Bd, e0, Fr.nil _, hh ▸ hn0⟩
  rw [← ef] at W
  exact W
/-- the end of a narrow walk -/
theorem endN {v : Option Value} {f : JFrame} {K M : Nat} (N : Now p l e R s m args below meth c Z T h k n) (hlocks : meth.locks = false) (hv : meth.sig.returnType = none → v = none)
    (st : ∀ (locs : List Loc), Stand p l e R s m args below meth c T locs k n → ∀ fs, (∀ (f : JFrame) (acts : List Action), f.method = m → f.locked = none → f.entered = [] → (doReturn e (T.setTop f) acts v).1 = T.setFrames fs) → Steps p.tables e below (T.setTop f) (T.setFrames fs)) (hQ : Q v h) (hk : k ≤ K) (hn : n ≤ M) :
    Ends p e below (PhiN Z s Q K M) T f := by
  obtain ⟨L, X, eT, F, _⟩ := N
  obtain ⟨fs, hr, hrun, hended, hW, hsame⟩ := X.leave hv hlocks
  refine ⟨_, _, st L X fs hr, hrun, hended, _, L, rfl, ⟨?_, F⟩, ⟨_, rfl⟩, hW, hsame.mono hk hn⟩
  show Q v T.heap
  rw [eT]; exact hQ
section Ret
variable {pc : Nat} {Ls : Array Slot} {rest : List Value} {K M : Nat}
theorem retI {z : Int32} (N : Now p l e R s m args below meth c Z T h k n) (hx : p.tables.exec = Jvm.exec) (hlocks : meth.locks = false) (hret : meth.sig.returnType = some .int) (hd : decode c.code pc = .ok (.ireturn, 1)) (hQ : Q (some (.int z)) h) (hk : k ≤ K) (hn : n ≤ M) :
    Ends p e below (PhiN Z s Q K M) T (mkF m pc Ls (.int z :: rest)) :=
  endN N hlocks (fun q => by rw [hret] at q; cases q) (fun L X fs hr => retOut X hx hret rfl (Or.inl ⟨rfl, Or.inl rfl, z, rfl⟩) hd hr) hQ hk hn
theorem retJ {z : Int64} (N : Now p l e R s m args below meth c Z T h k n) (hx : p.tables.exec = Jvm.exec) (hlocks : meth.locks = false) (hret : meth.sig.returnType = some .long) (hd : decode c.code pc = .ok (.lreturn, 1)) (hQ : Q (some (.long z)) h) (hk : k ≤ K) (hn : n ≤ M) :
    Ends p e below (PhiN Z s Q K M) T (mkF m pc Ls (.long z :: rest)) :=
  endN N hlocks (fun q => by rw [hret] at q; cases q) (fun L X fs hr => retOut X hx hret rfl (Or.inr (Or.inl ⟨rfl, rfl, z, rfl⟩)) hd hr) hQ hk hn
theorem retA {v : Value} {t : FieldType} (N : Now p l e R s m args below meth c Z T h k n) (hx : p.tables.exec = Jvm.exec) (hlocks : meth.locks = false) (hret : meth.sig.returnType = some t) (ht : t.isReference = true) (hv : v.isRef = true) (hd : decode c.code pc = .ok (.areturn, 1)) (hQ : Q (some v) h) (hk : k ≤ K) (hn : n ≤ M) :
    Ends p e below (PhiN Z s Q K M) T (mkF m pc Ls (v :: rest)) :=
  endN N hlocks (fun q => by rw [hret] at q; cases q) (fun L X fs hr => retOut X hx hret (by cases v <;> first | (cases hv; done) | (cases t <;> first | (cases ht; done) | rfl)) (Or.inr (Or.inr (Or.inr (Or.inr ⟨rfl, ht, hv⟩)))) hd hr) hQ hk hn
theorem retZ {z : Int32} {t : FieldType} (N : Now p l e R s m args below meth c Z T h k n) (hx : p.tables.exec = Jvm.exec) (hlocks : meth.locks = false) (hret : meth.sig.returnType = some t) (ht : t = .boolean ∨ t = .byte ∨ t = .char ∨ t = .short) (hd : decode c.code pc = .ok (.ireturn, 1)) (hQ : Q (some (.int (nar t z))) h) (hk : k ≤ K) (hn : n ≤ M) :
    Ends p e below (PhiN Z s Q K M) T (mkF m pc Ls (.int z :: rest)) :=
  endN N hlocks (fun q => by rw [hret] at q; cases q) (fun L X fs hr => retN X hx hret ht hd hr) hQ hk hn
theorem retV (N : Now p l e R s m args below meth c Z T h k n) (hx : p.tables.exec = Jvm.exec) (hlocks : meth.locks = false) (hret : meth.sig.returnType = none) (hd : decode c.code pc = .ok (.return_, 1)) (hQ : Q none h) (hk : k ≤ K) (hn : n ≤ M) :
    Ends p e below (PhiN Z s Q K M) T (mkF m pc Ls []) :=
  endN N hlocks (fun _ => rfl) (fun L X fs hr => X.returnOut hx hret hd hr) hQ hk hn
end Ret
section Heap
variable {pc : Nat} {Ls : Array Slot} {st rest : List Value}
theorem gIrem {x y : Int32} {t : State} (N : Now p l e R s m args below meth c Z T h k n) (hx : p.tables.exec = Jvm.exec) (hd : decode c.code pc = .ok (.irem, 1)) (hy : y ≠ 0)
    (q : Steps p.tables e below (T.setTop (mkF m (pc + 1) Ls (.int (x % y) :: rest))) t) : Steps p.tables e below (T.setTop (mkF m pc Ls (.int y :: .int x :: rest))) t := by
  obtain ⟨L, X, _⟩ := N
  exact iremM X hx (g := mkF m pc Ls (.int y :: .int x :: rest)) rfl hd rfl hy q
/-- new C -/
theorem gNew {own C : String} {index q : Nat} (N : Now p l e R s m args below meth c Z T h k n) (hx : p.tables.exec = Jvm.exec) (hZ : Z.Warmed39 s.vm) (hown : s.vm.findClass own = some m.cls)
    (w : (Jvm.Cond.classLink own index C).before a0 Z = true) (wi : (Jvm.Cond.instantiable C q).before a0 Z = true) (wz : (Jvm.Cond.initialized C).before a0 Z = true) (hd : decode c.code pc = .ok (.new index, 3)) (hc : k + 1 ≤ R.cells) (hl : n + q ≤ R.slots)
    (K : ∀ T' h' a, a = h.size → Now p l e R s m args below meth c Z T' h' (k + 1) (n + q) → Ext h h' → Exa Z h' a C → (∀ {O nm d : String} {ty : FieldType}, Laid Z a0 C O nm d → parseFieldDescriptor d = some ty → Fld Z h' a O nm d (defaultValue ty)) → Ends p e below Φ T' (mkF m (pc + 3) Ls (.ref a :: st))) :
    Ends p e below Φ T (mkF m pc Ls st) := by
  obtain ⟨L, X, eT, F, hn0⟩ := N
  obtain ⟨T1, h1, X1, e1, E1, A1, D1, -, st1⟩ := newO X hx hZ hown w wi wz eT (g := mkF m pc Ls st) rfl hd hc hl
  exact Ends.go st1 (K T1 h1 h.size rfl ⟨L, X1, e1, F, hn0⟩ E1 A1 D1)
/-- newarray -/
theorem gArr {aty : ArrayType} {z : Int32} (cap : Nat) (N : Now p l e R s m args below meth c Z T h k n) (hx : p.tables.exec = Jvm.exec) (hZ : Z.Warmed39 s.vm) (w : (Jvm.Cond.arrayClass (newarray.typeOf aty)).before a0 Z = true) (hd : decode c.code pc = .ok (.newarray aty, 2)) (hz : ¬ z < 0)
    (hcap : z.toNatClampNeg ≤ cap) (hb : cap * 8 ≤ 536870912) (hc : k + 1 ≤ R.cells) (hl : n + cap ≤ R.slots)
    (K : ∀ T' h' a kA, a = h.size → Now p l e R s m args below meth c Z T' h' (k + 1) (n + cap) → Ext h h' → Arv Z h' a kA (newarray.typeOf aty) z [] (defaultValue (newarray.typeOf aty)) → Ends p e below Φ T' (mkF m (pc + 2) Ls (.ref a :: rest))) :
    Ends p e below Φ T (mkF m pc Ls (.int z :: rest)) := by
  obtain ⟨L, X, eT, F, hn0⟩ := N
  obtain ⟨T1, h1, kA, X1, e1, E1, A1, st1⟩ := newP X hx hZ w eT (g := mkF m pc Ls (.int z :: rest)) rfl hd rfl hz hcap hb hc hl
  exact Ends.go st1 (K T1 h1 h.size kA rfl ⟨L, X1, e1, F, hn0⟩ E1 (Arv.new A1 hz))
/-- castore into a known array -/
theorem gStC {a : Addr} {kA : ClassId} {z j x : Int32} {vs : List Value} {d : Value} (i : Nat) (N : Now p l e R s m args below meth c Z T h k n) (hx : p.tables.exec = Jvm.exec) (hZ : Z.Warmed39 s.vm) (V : Arv Z h a kA .char z vs d) (ha : Z.heap.size ≤ a) (hj : ¬ j < 0 ∧ j < z) (hi : j.toNatClampNeg = i) (hil : i < vs.length) (hd : decode c.code pc = .ok (.castore, 1))
    (K : ∀ T' h', Now p l e R s m args below meth c Z T' h' k n → Wr h h' a j.toNatClampNeg (.int (nar .char x)) → Arv Z h' a kA .char z (vs.set i (.int (nar .char x))) d → Ends p e below Φ T' (mkF m (pc + 1) Ls rest)) :
    Ends p e below Φ T (mkF m pc Ls (.int x :: .int j :: .ref a :: rest)) := by
  obtain ⟨L, X, eT, F, hn0⟩ := N
  obtain ⟨cl, A, q, S, M, H, U⟩ := V
  obtain ⟨T1, h1, X1, e1, W1, st1⟩ := stC X hx hZ eT A (j := j) (x := x) (inb_of S hj) (g := mkF m pc Ls (.int x :: .int j :: .ref a :: rest)) rfl rfl hd
  exact Ends.go st1 (K T1 h1 ⟨_, X1, e1, Fr.snoc X1 F ha, hn0⟩ W1 (Arv.set A q S M H U (fits_nar_char _) W1 i hi hil))
/-- getfield -/
theorem gGet {own R0 O nm d host : String} {index : Nat} {a : Addr} {v : Value} (N : Now p l e R s m args below meth c Z T h k n) (hx : p.tables.exec = Jvm.exec) (hZ : Z.Warmed39 s.vm) (hown : s.vm.findClass own = some m.cls)
    (w : (Jvm.Cond.fieldLink own index R0 nm d).before a0 Z = true ∨ (Jvm.Cond.fieldLinkNest own index R0 nm d host).before a0 Z = true) (via : Via Z R0 O nm d) (Fv : Fld Z h a O nm d v) (hd : decode c.code pc = .ok (.getfield index, 3))
    (K : ∀ T', Now p l e R s m args below meth c Z T' h k n → Ends p e below Φ T' (mkF m (pc + 3) Ls (v :: rest))) :
    Ends p e below Φ T (mkF m pc Ls (.ref a :: rest)) := by
  obtain ⟨L, X, eT, F, hn0⟩ := N
  obtain ⟨T1, X1, e1, st1⟩ := getF X hx hZ hown w via eT Fv (g := mkF m pc Ls (.ref a :: rest)) rfl rfl hd
  exact Ends.go st1 (K T1 ⟨_, X1, e1, F, hn0⟩)
/-- putfield -/
theorem gPut {own R0 O nm d host C : String} {index kk : Nat} {ty : FieldType} {a : Addr} {v old : Value} (N : Now p l e R s m args below meth c Z T h k n) (hx : p.tables.exec = Jvm.exec) (hZ : Z.Warmed39 s.vm) (hown : s.vm.findClass own = some m.cls)
    (w : (Jvm.Cond.fieldLink own index R0 nm d).before a0 Z = true ∨ (Jvm.Cond.fieldLinkNest own index R0 nm d host).before a0 Z = true) (via : Via Z R0 O nm d) (Fv : Fld Z h a O nm d old) (E : Exa Z h a C) (ha : Z.heap.size ≤ a)
    (L0 : (Jvm.Cond.lays C O nm d).before a0 Z = true ∨ ((Jvm.Cond.laysFinal C O nm d).before a0 Z = true ∧ own = O ∧ meth.name = "<init>")) (wi : (Jvm.Cond.instantiable C kk).before a0 Z = true) (hty : parseFieldDescriptor d = some ty) (hnr : narrow ty v = v) (hf : fits ty v = true) (hd : decode c.code pc = .ok (.putfield index, 3))
    (K : ∀ T' h', Now p l e R s m args below meth c Z T' h' k n → Wr h h' a (RoadKit.slotOf Z O nm d) v → Fld Z h' a O nm d v → Exa Z h' a C → Ends p e below Φ T' (mkF m (pc + 3) Ls rest)) :
    Ends p e below Φ T (mkF m pc Ls (v :: .ref a :: rest)) := by
  obtain ⟨L, X, eT, F, hn0⟩ := N
  obtain ⟨T1, h1, X1, e1, W1, st1⟩ := putF X hx hZ hown w via eT Fv E L0 wi hty hnr hf (g := mkF m pc Ls (v :: .ref a :: rest)) rfl rfl hd
  exact Ends.go st1 (K T1 h1 ⟨_, X1, e1, Fr.snoc X1 F ha, hn0⟩ W1 (Fv.same W1) (E.wr W1))
/-- getstatic -/
theorem gSta {own R0 O nm d : String} {index : Nat} {v : Value} (N : Now p l e R s m args below meth c Z T h k n) (hx : p.tables.exec = Jvm.exec) (hZ : Z.Warmed39 s.vm) (hown : s.vm.findClass own = some m.cls)
    (w : (Jvm.Cond.fieldLink own index R0 nm d).before a0 Z = true) (via : Via Z R0 O nm d) (Fv : Sta Z h O nm d v) (hd : decode c.code pc = .ok (.getstatic index, 3))
    (K : ∀ T', Now p l e R s m args below meth c Z T' h k n → Ends p e below Φ T' (mkF m (pc + 3) Ls (v :: st))) :
    Ends p e below Φ T (mkF m pc Ls st) := by
  obtain ⟨L, X, eT, F, hn0⟩ := N
  obtain ⟨T1, X1, e1, st1⟩ := getS (host := "") X hx hZ hown w via eT Fv (g := mkF m pc Ls st) rfl hd
  exact Ends.go st1 (K T1 ⟨_, X1, e1, F, hn0⟩)
/-- Object.<init> -/
theorem gInitO {own : String} {index : Nat} {a : Addr} (W : Nat) (N : Now p l e R s m args below meth c Z T h k n) (hx : p.tables.exec = Jvm.exec) (hZ : Z.Warmed39 s.vm) (hown : s.vm.findClass own = some m.cls)
    (w1 : (Jvm.Cond.methodLink own index Lib.objectInit).before a0 Z = true) (w2 : (Jvm.Cond.instanceMethod Lib.objectInit).before a0 Z = true) (w3 : (Jvm.Cond.code Lib.objectInit ⟨#[0xb1]⟩ 1 none).before a0 Z = true) (hd : decode c.code pc = .ok (.invokespecial index, 3)) (hsize : Ls.size = c.maxLocals) (hf : 1 ≤ R.frames) (hW : (rest.map fun v => v.category).sum ≤ W) (hl : W + 12 ≤ R.locals)
    (K : ∀ T', Now p l e R s m args below meth c Z T' h k n → Ends p e below Φ T' (mkF m (pc + 3) Ls rest)) :
    Ends p e below Φ T (mkF m pc Ls (.ref a :: rest)) := by
  obtain ⟨L, X, eT, F, hn0⟩ := N
  obtain ⟨T1, X1, e1, st1⟩ := initO X hx hZ hown w1 w2 w3 eT (g := mkF m pc Ls (.ref a :: rest)) rfl hsize rfl hd hf (W := W) (by show 2 * 0 + _ ≤ _; omega) hl
  exact Ends.go st1 (K T1 ⟨_, X1, e1, F, hn0⟩)
/-- ldc of an int -/
theorem gLdcI {own : String} {index : Nat} {v : Int32} (N : Now p l e R s m args below meth c Z T h k n) (hx : p.tables.exec = Jvm.exec) (hZ : Z.Warmed39 s.vm) (hown : s.vm.findClass own = some m.cls) (w : (Jvm.Cond.constant own index v).before a0 Z = true) (hd : decode c.code pc = .ok (.ldc index, 2))
    (K : Ends p e below Φ T (mkF m (pc + 2) Ls (.int v :: st))) : Ends p e below Φ T (mkF m pc Ls st) := by
  obtain ⟨L, X, eT, F, hn0⟩ := N
  exact Ends.go (fun t q => X.ldcI hx hown (mv hZ w) (g := mkF m pc Ls st) rfl hd q) K
theorem gLdcJ {own : String} {index : Nat} {v : Int64} (N : Now p l e R s m args below meth c Z T h k n) (hx : p.tables.exec = Jvm.exec) (hZ : Z.Warmed39 s.vm) (hown : s.vm.findClass own = some m.cls) (w : (Jvm.Cond.constantLong own index v).before a0 Z = true) (hd : decode c.code pc = .ok (.ldc2_w index, 3))
    (K : Ends p e below Φ T (mkF m (pc + 3) Ls (.long v :: st))) : Ends p e below Φ T (mkF m pc Ls st) := by
  obtain ⟨L, X, eT, F, hn0⟩ := N
  exact Ends.go (fun t q => X.ldc2J hx hown (mv hZ w) (g := mkF m pc Ls st) rfl hd q) K
/-- arraylength -/
theorem gLen {a : Addr} {kA : ClassId} {ty : FieldType} {z : Int32} {vs : List Value} {d : Value} (N : Now p l e R s m args below meth c Z T h k n) (hx : p.tables.exec = Jvm.exec) (hZ : Z.Warmed39 s.vm) (V : Arv Z h a kA ty z vs d) (hd : decode c.code pc = .ok (.arraylength, 1))
    (K : Ends p e below Φ T (mkF m (pc + 1) Ls (.int z :: rest))) : Ends p e below Φ T (mkF m pc Ls (.ref a :: rest)) := by
  obtain ⟨L, X, eT, F, hn0⟩ := N
  obtain ⟨cl, A, q, S, M, H, U⟩ := V
  rw [← len_of S M] at K
  exact Ends.go (fun t q => X.arraylength hx (by rw [eT]; exact A.1) (State.isArrayOf_alike hZ.alike A.2.1) (g := mkF m pc Ls (.ref a :: rest)) rfl rfl hd t q) K
theorem gLdC {a : Addr} {kA : ClassId} {z j : Int32} {vs : List Value} {d v : Value} (N : Now p l e R s m args below meth c Z T h k n) (hx : p.tables.exec = Jvm.exec) (hZ : Z.Warmed39 s.vm) (V : Arv Z h a kA .char z vs d) (hj : ¬ j < 0 ∧ j < z) (hv : vs.getD j.toNatClampNeg d = v) (hd : decode c.code pc = .ok (.caload, 1))
    (K : Ends p e below Φ T (mkF m (pc + 1) Ls (v :: rest))) : Ends p e below Φ T (mkF m pc Ls (.int j :: .ref a :: rest)) := by
  obtain ⟨L, X, eT, F, hn0⟩ := N
  obtain ⟨cl, A, q, S, M, H, U⟩ := V
  exact Ends.go (fun t q => X.caload hx (by rw [eT]; exact A.1) (State.isArrayOf_alike hZ.alike A.2.1) A.2.2 (inb_of S hj) (H.at (inb_of S hj) hv) (g := mkF m pc Ls (.int j :: .ref a :: rest)) rfl rfl hd t q) K
theorem gLdJ {a : Addr} {kA : ClassId} {z j : Int32} {vs : List Value} {d v : Value} (N : Now p l e R s m args below meth c Z T h k n) (hx : p.tables.exec = Jvm.exec) (hZ : Z.Warmed39 s.vm) (V : Arv Z h a kA .long z vs d) (hj : ¬ j < 0 ∧ j < z) (hv : vs.getD j.toNatClampNeg d = v) (hd : decode c.code pc = .ok (.laload, 1))
    (K : Ends p e below Φ T (mkF m (pc + 1) Ls (v :: rest))) : Ends p e below Φ T (mkF m pc Ls (.int j :: .ref a :: rest)) := by
  obtain ⟨L, X, eT, F, hn0⟩ := N
  obtain ⟨cl, A, q, S, M, H, U⟩ := V
  exact Ends.go (fun t q => X.laload hx (by rw [eT]; exact A.1) (State.isArrayOf_alike hZ.alike A.2.1) A.2.2 (inb_of S hj) (H.at (inb_of S hj) hv) (g := mkF m pc Ls (.int j :: .ref a :: rest)) rfl rfl hd t q) K
theorem gLdB {a : Addr} {kA : ClassId} {z j : Int32} {vs : List Value} {d v : Value} (N : Now p l e R s m args below meth c Z T h k n) (hx : p.tables.exec = Jvm.exec) (hZ : Z.Warmed39 s.vm) (V : Arv Z h a kA .byte z vs d) (hj : ¬ j < 0 ∧ j < z) (hv : vs.getD j.toNatClampNeg d = v) (hd : decode c.code pc = .ok (.baload, 1))
    (K : Ends p e below Φ T (mkF m (pc + 1) Ls (v :: rest))) : Ends p e below Φ T (mkF m pc Ls (.int j :: .ref a :: rest)) := by
  obtain ⟨L, X, eT, F, hn0⟩ := N
  obtain ⟨cl, A, q, S, M, H, U⟩ := V
  exact Ends.go (fun t q => X.baloadBytes hx (by rw [eT]; exact A.1) (State.isArrayOf_alike hZ.alike A.2.1) A.2.2 (inb_of S hj) (H.at (inb_of S hj) hv) (g := mkF m pc Ls (.int j :: .ref a :: rest)) rfl rfl hd t q) K
theorem gLdI {a : Addr} {kA : ClassId} {z j : Int32} {vs : List Value} {d v : Value} (N : Now p l e R s m args below meth c Z T h k n) (hx : p.tables.exec = Jvm.exec) (hZ : Z.Warmed39 s.vm) (V : Arv Z h a kA .int z vs d) (hj : ¬ j < 0 ∧ j < z) (hv : vs.getD j.toNatClampNeg d = v) (hd : decode c.code pc = .ok (.iaload, 1))
    (K : Ends p e below Φ T (mkF m (pc + 1) Ls (v :: rest))) : Ends p e below Φ T (mkF m pc Ls (.int j :: .ref a :: rest)) := by
  obtain ⟨L, X, eT, F, hn0⟩ := N
  obtain ⟨cl, A, q, S, M, H, U⟩ := V
  exact Ends.go (fun t q => X.iaload hx (by rw [eT]; exact A.1) (State.isArrayOf_alike hZ.alike A.2.1) A.2.2 (inb_of S hj) (H.at (inb_of S hj) hv) (g := mkF m pc Ls (.int j :: .ref a :: rest)) rfl rfl hd t q) K
theorem gLdA {a : Addr} {kA : ClassId} {ty : FieldType} {z j : Int32} {vs : List Value} {d v : Value} (N : Now p l e R s m args below meth c Z T h k n) (hx : p.tables.exec = Jvm.exec) (hZ : Z.Warmed39 s.vm) (V : Arv Z h a kA ty z vs d) (hty : ty.isReference = true) (hj : ¬ j < 0 ∧ j < z) (hv : vs.getD j.toNatClampNeg d = v) (hd : decode c.code pc = .ok (.aaload, 1))
    (K : Ends p e below Φ T (mkF m (pc + 1) Ls (v :: rest))) : Ends p e below Φ T (mkF m pc Ls (.int j :: .ref a :: rest)) := by
  obtain ⟨L, X, eT, F, hn0⟩ := N
  obtain ⟨cl, A, q, S, M, H, U⟩ := V
  exact Ends.go (fun t q => X.aaload hx (by rw [eT]; exact A.1) (State.isArrayOf_alike hZ.alike A.2.1) hty A.2.2 (inb_of S hj) (H.at (inb_of S hj) hv) (g := mkF m pc Ls (.int j :: .ref a :: rest)) rfl rfl hd t q) K
/-- checkcast, instanceof: yes; of null -/
theorem gCast {own K0 : String} {index : Nat} {a : Addr} (N : Now p l e R s m args below meth c Z T h k n) (hx : p.tables.exec = Jvm.exec) (hZ : Z.Warmed39 s.vm) (hown : s.vm.findClass own = some m.cls) (w : (Jvm.Cond.classLink own index K0).before a0 Z = true) (I : Ins Z h a K0 true) (hd : decode c.code pc = .ok (.checkcast index, 3))
    (K : ∀ T', Now p l e R s m args below meth c Z T' h k n → Ends p e below Φ T' (mkF m (pc + 3) Ls (.ref a :: rest))) : Ends p e below Φ T (mkF m pc Ls (.ref a :: rest)) := by
  obtain ⟨L, X, eT, F, hn0⟩ := N
  obtain ⟨T1, X1, e1, st1⟩ := castY X hx hZ hown w eT I (g := mkF m pc Ls (.ref a :: rest)) rfl rfl hd
  exact Ends.go st1 (K T1 ⟨_, X1, e1, F, hn0⟩)
theorem gInst {own K0 : String} {index : Nat} {a : Addr} (N : Now p l e R s m args below meth c Z T h k n) (hx : p.tables.exec = Jvm.exec) (hZ : Z.Warmed39 s.vm) (hown : s.vm.findClass own = some m.cls) (w : (Jvm.Cond.classLink own index K0).before a0 Z = true) (I : Ins Z h a K0 true) (hd : decode c.code pc = .ok (.instanceof index, 3))
    (K : ∀ T', Now p l e R s m args below meth c Z T' h k n → Ends p e below Φ T' (mkF m (pc + 3) Ls (.int 1 :: rest))) : Ends p e below Φ T (mkF m pc Ls (.ref a :: rest)) := by
  obtain ⟨L, X, eT, F, hn0⟩ := N
  obtain ⟨T1, X1, e1, st1⟩ := instY X hx hZ hown w eT I (g := mkF m pc Ls (.ref a :: rest)) rfl rfl hd
  exact Ends.go st1 (K T1 ⟨_, X1, e1, F, hn0⟩)
theorem gCastN {index : Nat} (N : Now p l e R s m args below meth c Z T h k n) (hx : p.tables.exec = Jvm.exec) (hd : decode c.code pc = .ok (.checkcast index, 3)) (K : Ends p e below Φ T (mkF m (pc + 3) Ls (.null :: rest))) : Ends p e below Φ T (mkF m pc Ls (.null :: rest)) := by
  obtain ⟨L, X, eT, F, hn0⟩ := N
  exact Ends.go (X.checkcastNull hx (g := mkF m pc Ls (.null :: rest)) rfl rfl hd) K
theorem gInstN {index : Nat} (N : Now p l e R s m args below meth c Z T h k n) (hx : p.tables.exec = Jvm.exec) (hd : decode c.code pc = .ok (.instanceof index, 3)) (K : Ends p e below Φ T (mkF m (pc + 3) Ls (.int 0 :: rest))) : Ends p e below Φ T (mkF m pc Ls (.null :: rest)) := by
  obtain ⟨L, X, eT, F, hn0⟩ := N
  exact Ends.go (X.instanceofNull hx (g := mkF m pc Ls (.null :: rest)) rfl rfl hd) K
end Heap
section Calls
variable {pc : Nat} {Ls : Array Slot} {st rest argsL : List Value} {own : String} {index W k1 n1 : Nat} {y : MethodName} {Pre : Pt → Array Value → Prop}
/-- what a payer gives back, as Back's Post -/
abbrev PostN (Q : Option Value → Heap → List Loc → Prop) (k1 n1 : Nat) : Pt → Array Value → Option Value → Pt → Prop := fun A _ v B => ∃ L, Q v B.U.heap L ∧ B.locs = A.locs ++ L ∧ B.cells = A.cells + k1 ∧ B.slots = A.slots + n1
abbrev PreN (R : Room) (as' : Array Value) (h : Heap) (k1 n1 : Nat) : Pt → Array Value → Prop := fun A a => a = as' ∧ A.U.heap = h ∧ A.cells + k1 ≤ R.cells ∧ A.slots + n1 ≤ R.slots
variable {Qc : Option Value → Heap → List Loc → Prop}
/-- a static call -/
theorem gStatic {bytes : ByteArray} {maxL : Nat} {ret : Option FieldType} (N : Now p l e R s m args below meth c Z T h k n) (hx : p.tables.exec = Jvm.exec) (hZ : Z.Warmed39 s.vm) (hown : s.vm.findClass own = some m.cls)
    (w1 : (Jvm.Cond.methodLink own index y).before a0 Z = true) (w2 : (Jvm.Cond.static y).before a0 Z = true) (w3 : (Jvm.Cond.initialized y.cls).before a0 Z = true) (w4 : (Jvm.Cond.code y bytes maxL ret).before a0 Z = true) (hy : y.cls ≠ "java/lang/invoke/MethodHandle" ∧ y.cls ≠ "java/lang/invoke/VarHandle")
    (B : Back l R p e below s args y 3 W (PreN R argsL.toArray h k1 n1) (PostN Qc k1 n1)) (hd : decode c.code pc = .ok (.invokestatic index, 3)) (hst : st = argsL.reverse ++ rest) (hsize : Ls.size = c.maxLocals) (hlen : ∀ sig, parseMethodDescriptor y.desc = some sig → argsL.length = sig.parameters.length) (hW : (rest.map fun v => v.category).sum ≤ W)
    (hc : k + k1 ≤ R.cells) (hs : n + n1 ≤ R.slots) (hQ : ∀ v h' L, Qc v h' L → Fr Z.heap.size L)
    (K : ∀ v T' h' L, Now p l e R s m args below meth c Z T' h' (k + k1) (n + n1) → Qc v h' L → Ends p e below Φ T' (mkF m (pc + 3) Ls (v.toList ++ rest))) :
    Ends p e below Φ T (mkF m pc Ls st) := by
  obtain ⟨L, X, eT, F, hn0⟩ := N
  obtain ⟨v, _, ⟨T1, L1, q1, q2⟩, -, X1, ⟨Lc, hq, l1, y1, z1⟩, st1⟩ := Jvm.LawKit.callS X hx (y := y) hown (mvT hZ w1) (mvT hZ w2) (mvT hZ w3) (mvT hZ w4) hy B (g := mkF m pc Ls st) rfl hsize (argsL := argsL) (rest := rest) hlen hst (by show 2 * 0 + _ ≤ _; omega) hd (fun _ _ => ⟨rfl, eT, hc, hs⟩)
  dsimp only [Pt.U, Pt.locs, Pt.cells, Pt.slots] at X1 l1 y1 z1 st1 hq
  subst l1 y1 z1
  have q := hQ _ _ _ hq
  exact Ends.go st1 (K v T1 _ Lc ⟨_, X1, rfl, Fr.app F q, hn0⟩ hq)
/-- a constructor -/
theorem gSpecial {bytes : ByteArray} {maxL : Nat} {a : Addr} (hy1 : y.name = "<init>") (N : Now p l e R s m args below meth c Z T h k n) (hx : p.tables.exec = Jvm.exec) (hZ : Z.Warmed39 s.vm) (hown : s.vm.findClass own = some m.cls)
    (w1 : (Jvm.Cond.methodLink own index y).before a0 Z = true) (w2 : (Jvm.Cond.instanceMethod y).before a0 Z = true) (w4 : (Jvm.Cond.code y bytes maxL none).before a0 Z = true) (hy : y.cls ≠ "java/lang/invoke/MethodHandle" ∧ y.cls ≠ "java/lang/invoke/VarHandle")
    (B : Back l R p e below s args y 3 W (PreN R (.ref a :: argsL).toArray h k1 n1) (PostN Qc k1 n1)) (hd : decode c.code pc = .ok (.invokespecial index, 3)) (hst : st = argsL.reverse ++ .ref a :: rest) (hsize : Ls.size = c.maxLocals) (hlen : ∀ sig, parseMethodDescriptor y.desc = some sig → argsL.length = sig.parameters.length) (hW : (rest.map fun v => v.category).sum ≤ W)
    (hc : k + k1 ≤ R.cells) (hs : n + n1 ≤ R.slots) (hQ : ∀ v h' L, Qc v h' L → Fr Z.heap.size L)
    (K : ∀ v T' h' L, Now p l e R s m args below meth c Z T' h' (k + k1) (n + n1) → Qc v h' L → Ends p e below Φ T' (mkF m (pc + 3) Ls (v.toList ++ rest))) :
    Ends p e below Φ T (mkF m pc Ls st) := by
  obtain ⟨L, X, eT, F, hn0⟩ := N
  obtain ⟨v, _, ⟨T1, L1, q1, q2⟩, -, X1, ⟨Lc, hq, l1, y1, z1⟩, st1⟩ := X.specialBack hx (y := y) hy1 hown (mvT hZ w1) (mvT hZ w2) (mvT hZ w4) hy B (g := mkF m pc Ls st) rfl hsize (Steps.refl _) (a := a) (argsL := argsL) (rest := rest) hlen hst (by show 2 * 0 + _ ≤ _; omega) hd (fun _ _ => ⟨rfl, eT, hc, hs⟩)
  dsimp only [Pt.U, Pt.locs, Pt.cells, Pt.slots] at X1 l1 y1 z1 st1 hq
  subst l1 y1 z1
  have q := hQ _ _ _ hq
  exact Ends.go (fun t r => st1.trans r) (K v T1 _ Lc ⟨_, X1, rfl, Fr.app F q, hn0⟩ hq)
/-- an instance method -/
theorem gVirtual {C : String} {z : MethodName} {b : Addr} (N : Now p l e R s m args below meth c Z T h k n) (hx : p.tables.exec = Jvm.exec) (hZ : Z.Warmed39 s.vm) (hown : s.vm.findClass own = some m.cls)
    (w1 : (Jvm.Cond.methodLink own index y).before a0 Z = true) (w2 : (Jvm.Cond.declares y).before a0 Z = true) (w3 : (Jvm.Cond.selects C y z).before a0 Z = true) (w4 : (Jvm.Cond.instanceMethod z).before a0 Z = true) (hy : y.cls ≠ "java/lang/invoke/MethodHandle" ∧ y.cls ≠ "java/lang/invoke/VarHandle")
    (hnf : NotFace s y) (E : Exa Z h b C)
    (B : Back l R p e below s args z 3 W (PreN R (.ref b :: argsL).toArray h k1 n1) (PostN Qc k1 n1)) (hd : decode c.code pc = .ok (.invokevirtual index, 3)) (hst : st = argsL.reverse ++ .ref b :: rest) (hsize : Ls.size = c.maxLocals) (hlen : ∀ sig, parseMethodDescriptor y.desc = some sig → argsL.length = sig.parameters.length) (hW : (rest.map fun v => v.category).sum ≤ W)
    (hc : k + k1 ≤ R.cells) (hs : n + n1 ≤ R.slots) (hQ : ∀ v h' L, Qc v h' L → Fr Z.heap.size L)
    (K : ∀ v T' h' L, Now p l e R s m args below meth c Z T' h' (k + k1) (n + n1) → Qc v h' L → Ends p e below Φ T' (mkF m (pc + 3) Ls (v.toList ++ rest))) :
    Ends p e below Φ T (mkF m pc Ls st) := by
  obtain ⟨L, X, eT, F, hn0⟩ := N
  obtain ⟨cq, kq, qa, qb, qc⟩ := isOf hZ eT E
  obtain ⟨v, _, ⟨T1, L1, q1, q2⟩, -, X1, ⟨Lc, hq, l1, y1, z1⟩, st1⟩ := X.virtualBack hx (y := y) (z := z) hown (mvT hZ w1) (mvT hZ w2) hnf (mvT hZ w3) (mvT hZ w4) hy B qa qc (g := mkF m pc Ls st) rfl hsize (Steps.refl _) (argsL := argsL) (rest := rest) hlen hst (by show 2 * 0 + _ ≤ _; omega) hd (fun _ _ => ⟨rfl, eT, hc, hs⟩)
  dsimp only [Pt.U, Pt.locs, Pt.cells, Pt.slots] at X1 l1 y1 z1 st1 hq
  subst l1 y1 z1
  have q := hQ _ _ _ hq
  exact Ends.go (fun t r => st1.trans r) (K v T1 _ Lc ⟨_, X1, rfl, Fr.app F q, hn0⟩ hq)
/-- a private instance method, by invokevirtual -/
theorem gPrivate {bytes : ByteArray} {maxL : Nat} {ret : Option FieldType} {b : Addr} {C : String} (N : Now p l e R s m args below meth c Z T h k n) (hx : p.tables.exec = Jvm.exec) (hZ : Z.Warmed39 s.vm) (hown : s.vm.findClass own = some m.cls)
    (w1 : (Jvm.Cond.methodLink own index y).before a0 Z = true) (w2 : (Jvm.Cond.instanceMethod y).before a0 Z = true) (w3 : (Jvm.Cond.selects y.cls y y).before a0 Z = true) (w4 : (Jvm.Cond.privateMethod y).before a0 Z = true) (w5 : (Jvm.Cond.code y bytes maxL ret).before a0 Z = true) (hy : y.cls ≠ "java/lang/invoke/MethodHandle" ∧ y.cls ≠ "java/lang/invoke/VarHandle")
    (E : Exa Z h b C)
    (B : Back l R p e below s args y 3 W (PreN R (.ref b :: argsL).toArray h k1 n1) (PostN Qc k1 n1)) (hd : decode c.code pc = .ok (.invokevirtual index, 3)) (hst : st = argsL.reverse ++ .ref b :: rest) (hsize : Ls.size = c.maxLocals) (hlen : ∀ sig, parseMethodDescriptor y.desc = some sig → argsL.length = sig.parameters.length) (hW : (rest.map fun v => v.category).sum ≤ W)
    (hc : k + k1 ≤ R.cells) (hs : n + n1 ≤ R.slots) (hQ : ∀ v h' L, Qc v h' L → Fr Z.heap.size L)
    (K : ∀ v T' h' L, Now p l e R s m args below meth c Z T' h' (k + k1) (n + n1) → Qc v h' L → Ends p e below Φ T' (mkF m (pc + 3) Ls (v.toList ++ rest))) :
    Ends p e below Φ T (mkF m pc Ls st) := by
  obtain ⟨L, X, eT, F, hn0⟩ := N
  obtain ⟨cell, hce, hob⟩ := E.cell
  obtain ⟨v, _, ⟨T1, L1, q1, q2⟩, -, X1, ⟨Lc, hq, l1, y1, z1⟩, st1⟩ := X.privateBack hx (y := y) hown (mvT hZ w1) (mvT hZ w2) (mvT hZ w3) (Cond.privateMethod_at (args := args) (mvP hZ w4)) (mvT hZ w5) hy B (g := mkF m pc Ls st) rfl hsize (Steps.refl _) (by rw [eT]; exact hce) hob (argsL := argsL) (rest := rest) hlen hst (by show 2 * 0 + _ ≤ _; omega) hd (fun _ _ => ⟨rfl, eT, hc, hs⟩)
  dsimp only [Pt.U, Pt.locs, Pt.cells, Pt.slots] at X1 l1 y1 z1 st1 hq
  subst l1 y1 z1
  have q := hQ _ _ _ hq
  exact Ends.go (fun t r => st1.trans r) (K v T1 _ Lc ⟨_, X1, rfl, Fr.app F q, hn0⟩ hq)
/-- an interface method -/
theorem gFace {C : String} {count : Nat} {z : MethodName} {b : Addr} (N : Now p l e R s m args below meth c Z T h k n) (hx : p.tables.exec = Jvm.exec) (hZ : Z.Warmed39 s.vm) (hown : s.vm.findClass own = some m.cls)
    (w1 : (Jvm.Cond.methodLink own index y).before a0 Z = true) (w2 : (Jvm.Cond.declares y).before a0 Z = true) (w3 : (Jvm.Cond.interfaceMethod y.cls y.cls y.name y.desc).before args s = true) (w4 : (Jvm.Cond.selects C y z).before a0 Z = true) (w5 : (Jvm.Cond.instanceMethod z).before a0 Z = true) (w6 : (Jvm.Cond.publicMethod z).before a0 Z = true) (w7 : (Jvm.Cond.unhidden C y.name y.desc).before a0 Z = true) (w8 : (Jvm.Cond.castable C y.cls).before a0 Z = true)
    (hy : y.cls ≠ "java/lang/invoke/MethodHandle" ∧ y.cls ≠ "java/lang/invoke/VarHandle") (E : Exa Z h b C)
    (B : Back l R p e below s args z 5 W (PreN R (.ref b :: argsL).toArray h k1 n1) (PostN Qc k1 n1)) (hd : decode c.code pc = .ok (.invokeinterface index count, 5)) (hst : st = argsL.reverse ++ .ref b :: rest) (hsize : Ls.size = c.maxLocals) (hlen : ∀ sig, parseMethodDescriptor y.desc = some sig → argsL.length = sig.parameters.length) (hW : (rest.map fun v => v.category).sum ≤ W)
    (hc : k + k1 ≤ R.cells) (hs : n + n1 ≤ R.slots) (hQ : ∀ v h' L, Qc v h' L → Fr Z.heap.size L)
    (K : ∀ v T' h' L, Now p l e R s m args below meth c Z T' h' (k + k1) (n + n1) → Qc v h' L → Ends p e below Φ T' (mkF m (pc + 5) Ls (v.toList ++ rest))) :
    Ends p e below Φ T (mkF m pc Ls st) := by
  obtain ⟨L, X, eT, F, hn0⟩ := N
  obtain ⟨cq, kq, qa, qb, qc⟩ := isOf hZ eT E
  obtain ⟨v, _, ⟨T1, L1, q1, q2⟩, -, X1, ⟨Lc, hq, l1, y1, z1⟩, st1⟩ := X.interfaceBack hx (xi := y) (y := z) hown (mvT hZ w1) (mvT hZ w2) w3 (mvT hZ w4) (mvT hZ w5) (mvT hZ w6) (mvT hZ w7) (mvT hZ w8) hy B qa qb qc (g := mkF m pc Ls st) rfl hsize (Steps.refl _) (argsL := argsL) (rest := rest) hlen hst (by show 2 * 0 + _ ≤ _; omega) hd (fun _ _ => ⟨rfl, eT, hc, hs⟩)
  dsimp only [Pt.U, Pt.locs, Pt.cells, Pt.slots] at X1 l1 y1 z1 st1 hq
  subst l1 y1 z1
  have q := hQ _ _ _ hq
  exact Ends.go (fun t r => st1.trans r) (K v T1 _ Lc ⟨_, X1, rfl, Fr.app F q, hn0⟩ hq)
/-- a contract as a payer -/
theorem MetN.back {bytes : ByteArray} {maxL : Nat} {ret : Option FieldType} {rm : Room} {len : Nat} {as' : Array Value} (hM : MetN l Z y bytes maxL ret [] rm as' h Q)
    (hZ : Z.Warmed39 s.vm) (wc : (Jvm.Cond.code y bytes maxL ret).before a0 Z = true) (wz : (Jvm.Cond.initialized y.cls).before a0 Z = true) (hf : rm.frames + 1 ≤ R.frames) (hl : W + (maxL + 11) + rm.locals ≤ R.locals) :
    Back l R p e below s args y len W (PreN R as' h rm.cells rm.slots) (PostN (fun v h' L => Q v h' ∧ Fr Z.heap.size L) rm.cells rm.slots) := backOf (Q := fun v h' L => Q v h' ∧ Fr Z.heap.size L) hM hZ wc wz hf hl
end Calls
end OwnKit
end Jvm.Pilot.@@N@@
namespace Jvm.Pilot.@@N@@
open Jvm Jvm.ClassFile Sem Op Lib Jvm.Free Jvm.Stand Jvm.LawKit Jvm.RoadKit Bundle Jvm.Pilot.@@N@@.Jvm.D
section OwnStr
variable {p : Program} {l : Launch} {e : Env} {R : Room} {s : State} {m : MethodId} {args : Array Value} {below : List Frame} {meth : Method} {c : Code} {T T' : State} {Z : State} {a0 : Array Value} {h h' h2 : Heap} {k n k' n' : Nat} {Φ : Outcome → State → Prop} {cs ds : List Int32} {a b : Addr}
/-- a String whose chars are cs, all below 256 -/
def Str (Z : State) (h : Heap) (a : Addr) (cs : List Int32) : Prop :=
  Exa Z h a "java/lang/String" ∧ Fld Z h a "java/lang/String" "coder" "B" (.int 0) ∧ (∃ t kb, Fld Z h a "java/lang/String" "value" "[B" (.ref t) ∧ Arv Z h t kb .byte (Int32.ofNat cs.length) ((cs.map fun c => c.toInt8.toInt32).map Value.int) (.int 0)) ∧ (∀ c ∈ cs, ¬ c < 0 ∧ ¬ (255 : Int32) < c) ∧ cs.length ≤ 4000
theorem Str.ext (S : Str Z h a cs) (E : Ext h h') : Str Z h' a cs := by
  obtain ⟨h1, h2, ⟨t, kb, h3, h4⟩, h5⟩ := S
  exact ⟨h1.ext E, h2.ext E, ⟨t, kb, h3.ext E, h4.ext E⟩, h5⟩
theorem Str.lt (S : Str Z h a cs) : a < h.size := S.1.lt
theorem up16 (h : ∀ c ∈ cs, ¬ c < 0 ∧ ¬ (255 : Int32) < c) : ∀ c ∈ cs, ¬ c < 0 ∧ ¬ (65535 : Int32) < c := fun c hc => ⟨(h c hc).1, fun q => (h c hc).2 (by rw [Int32.lt_iff_toInt_lt] at q ⊢; have e1 : (65535 : Int32).toInt = 65535 := rfl; have e2 : (255 : Int32).toInt = 255 := rfl; omega)⟩
/-- the two statics that String's methods read -/
def Jdk (Z : State) : Prop := (∃ z, Sta Z Z.heap "java/lang/String" "COMPACT_STRINGS" "Z" (.int z) ∧ ¬ z = 0) ∧ ∃ fm, Sta Z Z.heap "jdk/internal/util/Preconditions" "SIOOBE_FORMATTER" "Ljava/util/function/BiFunction;" fm ∧ fm.isRef = true
theorem ext_keep {x : Addr} (E : Ext h h') (K : Keep h' h2 [x]) (hx : h.size ≤ x) : Ext h h2 := ⟨Nat.le_trans E.1 K.1, fun a c q => K.2.1 a c (E.2 a c q) fun z => by
  cases List.mem_singleton.mp z
  exact absurd (Array.getElem?_eq_some_iff.mp q).1 (Nat.not_lt.mpr hx)⟩
theorem ext_wr {x : Addr} {sl : Nat} {v : Value} (E : Ext h h') (W : Wr h' h2 x sl v) (hx : h.size ≤ x) : Ext h h2 := ext_keep E (Keep.of_wr W) hx
theorem ext_trans (E : Ext h h') (F : Ext h' h2) : Ext h h2 := ⟨Nat.le_trans E.1 F.1, fun a c q => F.2 a c (E.2 a c q)⟩
theorem ext_refl (h : Heap) : Ext h h := ⟨Nat.le_refl _, fun _ _ q => q⟩
/-- new String(char[]) -/
theorem strNew {x b : Addr} {kC : ClassId} {d v0 c0 : Value} {len W : Nat} (hZ : Z.Warmed39 s.vm) (hw : ∀ d ∈ tables_1, d.before a0 Z = true) (G : Jdk Z) (O : Ext Z.heap h) (hx0 : Z.heap.size ≤ x) (E : Exa Z h x "java/lang/String") (V : Fld Z h x "java/lang/String" "value" "[B" v0) (Cd : Fld Z h x "java/lang/String" "coder" "B" c0)
    (K : Arv Z h b kC .char (Int32.ofNat cs.length) (cs.map Value.int) d) (l0 : 0 < cs.length) (l2 : cs.length ≤ 4000) (hp : ∀ c ∈ cs, ¬ c < 0 ∧ ¬ (255 : Int32) < c) (hfr : 4 ≤ R.frames) (hlo : W + 65 ≤ R.locals) :
    Back l R p e below s args (⟨"java/lang/String", "<init>", "([C)V"⟩ : MethodName) len W (PreN R #[.ref x, .ref b] h 1 cs.length) (PostN (fun v h' L => v = none ∧ Keep h h' [x] ∧ Str Z h' x cs ∧ Fr Z.heap.size L) 1 cs.length) := by
  obtain ⟨⟨z, S, hz⟩, -⟩ := G
  refine Back.mono (StrChars.Road.backV (W := W) hZ (fun d hd => hw d ((by decide +kernel : ∀ d ∈ StrChars.Road.words, d ∈ tables_1) d hd)) (kI := 4) (hw _ (by decide +kernel)) (cs := cs) (bs := cs.map (fun c => c.toInt8.toInt32)) (n := cs.length) hx0 O.1 E V Cd K (S.ext O) hz rfl rfl l0 l2 hp rfl hfr hlo) (fun P a q => q) (fun P a v B q r => ?_)
  obtain ⟨L, ⟨q1, q2, q3, q4, q5, t, kb, -, -, -, q6, q7⟩, r1⟩ := r
  exact ⟨L, ⟨q1, q3, ⟨q4, q5, ⟨t, kb, q6, q7⟩, hp, l2⟩, q2⟩, r1⟩
theorem strLen {len W : Nat} (hZ : Z.Warmed39 s.vm) (hw : ∀ d ∈ tables_1, d.before a0 Z = true) (G : Jdk Z) (O : Ext Z.heap h) (S : Str Z h a cs) (hfr : 2 ≤ R.frames) (hlo : W + 25 ≤ R.locals) :
    Back l R p e below s args (⟨"java/lang/String", "length", "()I"⟩ : MethodName) len W (PreN R #[.ref a] h 0 0) (PostN (fun v h' L => v = some (.int (Int32.ofNat cs.length)) ∧ L = [] ∧ h' = h) 0 0) := by
  obtain ⟨⟨z, Sz, hz⟩, -⟩ := G
  obtain ⟨E, Cd, ⟨t, kb, V, K⟩, hp, l2⟩ := S
  exact StrChars.Road.lenW (W := W) hZ (fun d hd => hw d ((by decide +kernel : ∀ d ∈ StrChars.Road.wordsLen, d ∈ tables_1) d hd)) (kI := 4) (hw _ (by decide +kernel)) E V Cd K (StrChars.Road.codOf rfl (fun c hc => (hp c hc).2)) (up16 hp) (Sz.ext O) hz l2 hfr hlo
theorem strAt {len W : Nat} (hZ : Z.Warmed39 s.vm) (hw : ∀ d ∈ tables_1, d.before a0 Z = true) (G : Jdk Z) (O : Ext Z.heap h) (S : Str Z h a cs) {i : Nat} {j : Int32} (hi : i < cs.length) (hj : j = Int32.ofNat i) (hfr : 4 ≤ R.frames) (hlo : W + 53 ≤ R.locals) :
    Back l R p e below s args (⟨"java/lang/String", "charAt", "(I)C"⟩ : MethodName) len W (PreN R #[.ref a, .int j] h 0 0) (PostN (fun v h' L => v = some (.int (cs.getD i 0)) ∧ L = [] ∧ h' = h) 0 0) := by
  obtain ⟨⟨z, Sz, hz⟩, fm, Sf, hf⟩ := G
  obtain ⟨E, Cd, ⟨t, kb, V, K⟩, hp, l2⟩ := S
  exact StrChars.Road.chN (W := W) hZ (fun d hd => hw d ((by decide +kernel : ∀ d ∈ StrChars.Road.wordsChN, d ∈ tables_1) d hd)) (kI := 4) (hw _ (by decide +kernel)) E V Cd K (StrChars.Road.codOf rfl (fun c hc => (hp c hc).2)) (up16 hp) (Sz.ext O) hz (Sf.ext O) hf l2 hi hj hfr hlo
end OwnStr
end Jvm.Pilot.@@N@@
namespace Jvm.Pilot.@@N@@
open Jvm Jvm.ClassFile Sem Op Lib Jvm.Free Jvm.Stand Jvm.LawKit Jvm.RoadKit Bundle Jvm.Pilot.@@N@@.Jvm.D
section OwnWide
variable {p : Program} {l : Launch} {e : Env} {R : Room} {s : State} {m : MethodId} {args : Array Value} {below : List Frame} {meth : Method} {c : Code} {T T' : State} {Z : State} {a0 : Array Value} {h h' h2 : Heap} {k n k' n' : Nat} {Φ : Outcome → State → Prop} {Q : Option Value → Heap → Prop} {EL : List (String × Nat)} {vm0 vm1 : Vm} {cs : List Int32}
/-- the tables vm0 of a walk from s that may have interned; h: the heap -/
def Wd (Z s : State) (EL : List (String × Nat)) (vm0 : Vm) (h : Heap) : Prop := ∃ k0, s.Since vm0 k0 ∧ k0 ≤ h.size ∧ CHr Z EL s.vm s.heap vm0 h
theorem Wd.ext (w : Wd Z s EL vm0 h) (E : Ext h h') : Wd Z s EL vm0 h' := by
  obtain ⟨k0, h1, h2, h3⟩ := w; exact ⟨k0, h1, Nat.le_trans h2 E.1, h3.trans (CHr.ext E h3.1)⟩
theorem Wd.keep {ws : List Addr} (w : Wd Z s EL vm0 h) (K : Keep h h' ws) (hs : ∀ x ∈ ws, Safe Z EL vm0 h x) : Wd Z s EL vm0 h' := by
  obtain ⟨k0, h1, h2, h3⟩ := w; exact ⟨k0, h1, Nat.le_trans h2 K.1, h3.trans (CHr.keep K hs h3.1)⟩
theorem Wd.held (w : Wd Z s EL vm0 h) : CHv Z EL vm0 h := by obtain ⟨_, _, _, h3⟩ := w; exact h3.1
def PhiW (Z s : State) (EL : List (String × Nat)) (Q : Option Value → Heap → Prop) (K N : Nat) : Outcome → State → Prop := fun o u => ∃ v L, o = .returned v ∧ (Q v u.heap ∧ Fr Z.heap.size L) ∧ CHr Z EL s.vm s.heap u.vm u.heap ∧ ReturnedEndW s o u L K N
def MetW (l : Launch) (Z : State) (EL : List (String × Nat)) (y : MethodName) (bytes : ByteArray) (maxL : Nat) (ret : Option FieldType) (ws : List Jvm.Cond) (rm : Room) (as' : Array Value) (h : Heap) (Q : Option Value → Heap → Prop) : Prop :=
  MetFree l y (head1 (Jvm.Cond.code y bytes maxL ret :: ws) rm) (fun a U => a = as' ∧ Z.Warmed39 U.vm ∧ U.heap = h ∧ CHv Z EL U.vm h) (fun _ _ _ _ _ => True) (fun _ U o U' => ∃ v L, o = .returned v ∧ (Q v U'.heap ∧ Fr Z.heap.size L) ∧ CHr Z EL U.vm U.heap U'.vm U'.heap ∧ ReturnedEndW U o U' L rm.cells rm.slots)
theorem metW {y : MethodName} {bytes : ByteArray} {maxL : Nat} {ret : Option FieldType} {ws : List Jvm.Cond} {rm : Room} {as' : Array Value} {Ls : Array Slot} (hpl : plainFor y = true) (hn0 : Ext Z.heap h) (ef : ∀ m, entryFrame m as' maxL = mkF m 0 Ls [])
    (walk : ∀ (p : Program) (e : Env) (s : State) (m : MethodId) (below : List Frame) (meth : Method) (c : Code) (T : State) (vm0 : Vm), p.tables.exec = Jvm.exec → c.code = bytes → c.maxLocals = maxL → meth.sig.returnType = ret → meth.locks = false → (s.setVm vm0).vm.findClass y.cls = some m.cls → meth.name = y.name → Z.Warmed39 (s.setVm vm0).vm →
      Now p l e rm (s.setVm vm0) m as' below meth c Z T h 0 0 → Wd Z s EL vm0 h → Ends p e below (PhiW Z s EL Q rm.cells rm.slots) T (mkF m 0 Ls [])) : MetW l Z EL y bytes maxL ret ws rm as' h Q := by
  refine MetFree.of_bodySF hpl hisR ?_
  intro p e s m args below meth c s₁ Bd hml0 hP hK
  obtain ⟨rfl, hZ, hh, hC⟩ := hP
  have e0 : s₁.heap = h := by rw [← hh, Bd.state]; rfl
  have N0 : Now p l e rm (s.setVm s.vm) m args below meth c Z s₁ h 0 0 := ⟨[], Stand.of_body Bd, e0, Fr.nil _, hh ▸ hn0⟩
  have W0 : Wd Z s EL s.vm h := ⟨s.heap.size, (State.WarmedH.refl s).since _, by rw [hh]; exact Nat.le_refl _, by rw [hh]; exact CHr.refl hC⟩
  have W := walk p e s m below meth c s₁ s.vm Bd.exec Bd.bytes hml0 Bd.returns Bd.notSynchronized (findClass_of_methodNamed Bd.named) (name_of_methodNamed Bd.named Bd.method).1 hZ N0 W0
  rw [← ef] at W
  exact W
theorem endW {v : Option Value} {f : JFrame} {K M : Nat} (N : Now p l e R (s.setVm vm0) m args below meth c Z T h k n) (hZ : Z.Warmed39 (s.setVm vm0).vm) (hEL : EW Z a0 EL) (w : Wd Z s EL vm0 h) (hlocks : meth.locks = false) (hv : meth.sig.returnType = none → v = none)
    (st : ∀ (locs : List Loc), Stand p l e R (s.setVm vm0) m args below meth c T locs k n → ∀ fs, (∀ (f : JFrame) (acts : List Action), f.method = m → f.locked = none → f.entered = [] → (doReturn e (T.setTop f) acts v).1 = T.setFrames fs) → Steps p.tables e below (T.setTop f) (T.setFrames fs)) (hQ : Q v h) (hk : k ≤ K) (hn : n ≤ M) :
    Ends p e below (PhiW Z s EL Q K M) T f := by
  obtain ⟨L, X, eT, F, _⟩ := N
  obtain ⟨k0, h1, h2, h3⟩ := w
  subst eT
  obtain ⟨fs, hr, hrun, hended, hW⟩ := X.leaveW h1 h2 hv hlocks
  have A : CHr Z EL vm0 T.heap T.vm T.heap := CHv.at X hZ hEL h3.1
  exact ⟨_, _, st L X fs hr, hrun, hended, _, L, rfl, ⟨hQ, F⟩, h3.trans A, hW.1, hW.2.1, hW.2.2.1, hW.2.2.2.mono hk hn⟩
section Ret
variable {pc : Nat} {Ls : Array Slot} {rest : List Value} {K M : Nat}
theorem retZW {z : Int32} {t : FieldType} (N : Now p l e R (s.setVm vm0) m args below meth c Z T h k n) (hZ : Z.Warmed39 (s.setVm vm0).vm) (hEL : EW Z a0 EL) (w : Wd Z s EL vm0 h) (hx : p.tables.exec = Jvm.exec) (hlocks : meth.locks = false) (hret : meth.sig.returnType = some t) (ht : t = .boolean ∨ t = .byte ∨ t = .char ∨ t = .short) (hd : decode c.code pc = .ok (.ireturn, 1)) (hQ : Q (some (.int (nar t z))) h) (hk : k ≤ K) (hn : n ≤ M) :
    Ends p e below (PhiW Z s EL Q K M) T (mkF m pc Ls (.int z :: rest)) :=
  endW N hZ hEL w hlocks (fun q => by rw [hret] at q; cases q) (fun L X fs hr => retN X hx hret ht hd hr) hQ hk hn
theorem retAW {v : Value} {t : FieldType} (N : Now p l e R (s.setVm vm0) m args below meth c Z T h k n) (hZ : Z.Warmed39 (s.setVm vm0).vm) (hEL : EW Z a0 EL) (w : Wd Z s EL vm0 h) (hx : p.tables.exec = Jvm.exec) (hlocks : meth.locks = false) (hret : meth.sig.returnType = some t) (ht : t.isReference = true) (hv : v.isRef = true) (hd : decode c.code pc = .ok (.areturn, 1)) (hQ : Q (some v) h) (hk : k ≤ K) (hn : n ≤ M) :
    Ends p e below (PhiW Z s EL Q K M) T (mkF m pc Ls (v :: rest)) :=
  endW N hZ hEL w hlocks (fun q => by rw [hret] at q; cases q) (fun L X fs hr => retOut X hx hret (by cases v <;> first | (cases hv; done) | (cases t <;> first | (cases ht; done) | rfl)) (Or.inr (Or.inr (Or.inr (Or.inr ⟨rfl, ht, hv⟩)))) hd hr) hQ hk hn
theorem retVW (N : Now p l e R (s.setVm vm0) m args below meth c Z T h k n) (hZ : Z.Warmed39 (s.setVm vm0).vm) (hEL : EW Z a0 EL) (w : Wd Z s EL vm0 h) (hx : p.tables.exec = Jvm.exec) (hlocks : meth.locks = false) (hret : meth.sig.returnType = none) (hd : decode c.code pc = .ok (.return_, 1)) (hQ : Q none h) (hk : k ≤ K) (hn : n ≤ M) :
    Ends p e below (PhiW Z s EL Q K M) T (mkF m pc Ls []) :=
  endW N hZ hEL w hlocks (fun _ => rfl) (fun L X fs hr => X.returnOut hx hret hd hr) hQ hk hn
end Ret
section Steps
variable {pc : Nat} {Ls : Array Slot} {st rest argsL : List Value} {own : String} {index W k1 n1 : Nat} {y : MethodName}
/-- ldc of a String constant, its text read -/
theorem gLdcS {text : String} (q : Nat) (N : Now p l e R (s.setVm vm0) m args below meth c Z T h k n) (hx : p.tables.exec = Jvm.exec) (hZ : Z.Warmed39 (s.setVm vm0).vm) (hown : (s.setVm vm0).vm.findClass own = some m.cls) (w : (Jvm.Cond.stringLink own index text).before a0 Z = true) (wS : ∀ a ∈ Bundle.stringAtoms, a.before a0 Z = true)
    (hEL : EW Z a0 EL) (hmem : (own, index) ∈ EL) (wd : Wd Z s EL vm0 h) (ht : (∀ c ∈ text.toList, c.toNat < 256) ∧ text.toList.map (fun c => Value.int (Jvm.Lit.byteI c.toNat.toUInt16)) = (cs.map fun c => c.toInt8.toInt32).map Value.int) (hcs : ∀ c ∈ cs, ¬ c < 0 ∧ ¬ (255 : Int32) < c) (hlen : cs.length ≤ 4000)
    (hd : decode c.code pc = .ok (.ldc index, 2)) (hn : 4 * text.toList.length ≤ q) (hbig : q ≤ 536870912) (hc : k + 2 ≤ R.cells) (hl : n + (q + 4) ≤ R.slots)
    (K : ∀ vm1 T' h' a, Now p l e R (s.setVm vm1) m args below meth c Z T' h' (k + 2) (n + (q + 4)) → Ext h h' → Str Z h' a cs → Z.Warmed39 (s.setVm vm1).vm → (s.setVm vm1).vm.findClass own = some m.cls → Wd Z s EL vm1 h' → CHr Z EL vm0 h vm1 h' → Ends p e below Φ T' (mkF m (pc + 2) Ls (.ref a :: st))) :
    Ends p e below Φ T (mkF m pc Ls st) := by
  obtain ⟨L, X, eT, F, hO⟩ := N
  obtain ⟨k0, h1, h2, h3⟩ := wd
  have e1 : (Int32.ofNat cs.length).toInt = cs.length := len_toInt (by omega)
  have hz : ¬ (Int32.ofNat cs.length) < 0 := by
    rw [Int32.lt_iff_toInt_lt, e1]; have e0 : (0 : Int32).toInt = 0 := rfl
    omega
  have hl0 : (Int32.ofNat cs.length).toNatClampNeg = ((cs.map fun c => c.toInt8.toInt32).map Value.int).length := by simp only [Int32.toNatClampNeg, e1, List.length_map]; omega
  obtain ⟨a, T1, h1', kk, b, kb, X1, e1', E1, S1, k1', Z1, o1, A1, C1, V1, K1, -, -, R1, -, -, st1⟩ := ldcCH X hx hZ hown w wS eT h1 h2 hEL hmem h3.1 ht hz hl0 (g := mkF m pc Ls st) rfl hd hn hbig hc hl
  exact Ends.go st1 (K T1.vm T1 h1' a ⟨L, X1, e1', F, hO⟩ E1 ⟨A1, C1, ⟨b, kb, V1, K1⟩, hcs, hlen⟩ Z1 o1 ⟨kk, S1, k1', h3.trans R1⟩ R1)
abbrev PostW (Z : State) (EL : List (String × Nat)) (vm0 : Vm) (h : Heap) (Q : Option Value → Heap → List Loc → Prop) (k1 n1 : Nat) : Pt → Array Value → Option Value → Pt → Prop := fun A _ v B => ∃ L, Q v B.U.heap L ∧ B.locs = A.locs ++ L ∧ B.cells = A.cells + k1 ∧ B.slots = A.slots + n1 ∧ CHr Z EL vm0 h B.U.vm B.U.heap
variable {Qc : Option Value → Heap → List Loc → Prop}
/-- a static call of a callee that may intern -/
theorem gStaticW {bytes : ByteArray} {maxL : Nat} {ret : Option FieldType} (N : Now p l e R (s.setVm vm0) m args below meth c Z T h k n) (hx : p.tables.exec = Jvm.exec) (hZ : Z.Warmed39 (s.setVm vm0).vm) (hown : (s.setVm vm0).vm.findClass own = some m.cls) (wd : Wd Z s EL vm0 h)
    (w1 : (Jvm.Cond.methodLink own index y).before a0 Z = true) (w2 : (Jvm.Cond.static y).before a0 Z = true) (w3 : (Jvm.Cond.initialized y.cls).before a0 Z = true) (w4 : (Jvm.Cond.code y bytes maxL ret).before a0 Z = true) (hy : y.cls ≠ "java/lang/invoke/MethodHandle" ∧ y.cls ≠ "java/lang/invoke/VarHandle")
    (B : BackS l R p e below (s.setVm vm0) args y 3 W (PreN R argsL.toArray h k1 n1) (PostW Z EL vm0 h Qc k1 n1)) (hd : decode c.code pc = .ok (.invokestatic index, 3)) (hst : st = argsL.reverse ++ rest) (hsize : Ls.size = c.maxLocals) (hlen : ∀ sig, parseMethodDescriptor y.desc = some sig → argsL.length = sig.parameters.length) (hW : (rest.map fun v => v.category).sum ≤ W)
    (hc : k + k1 ≤ R.cells) (hs : n + n1 ≤ R.slots) (hQ : ∀ v h' L, Qc v h' L → Fr Z.heap.size L)
    (K : ∀ v vm1 T' h' L, Now p l e R (s.setVm vm1) m args below meth c Z T' h' (k + k1) (n + n1) → Qc v h' L → Z.Warmed39 (s.setVm vm1).vm → (s.setVm vm1).vm.findClass own = some m.cls → Wd Z s EL vm1 h' → Ends p e below Φ T' (mkF m (pc + 3) Ls (v.toList ++ rest))) :
    Ends p e below Φ T (mkF m pc Ls st) := by
  obtain ⟨L, X, eT, F, hO⟩ := N
  obtain ⟨k0, h1, h2, h3⟩ := wd
  obtain ⟨v, _, ⟨T1, L1, q1, q2⟩, -, X1, S1, g1, ⟨Lc, hq, l1, y1, z1, C1⟩, st1⟩ := callSS X hx (y := y) hown (mvT hZ w1) (mvT hZ w2) (mvT hZ w3) (mvT hZ w4) hy B (g := mkF m pc Ls st) rfl hsize (argsL := argsL) (rest := rest) hlen hst (by show 2 * 0 + _ ≤ _; omega) hd (fun _ _ => ⟨rfl, eT, hc, hs⟩)
  dsimp only [Pt.U, Pt.locs, Pt.cells, Pt.slots] at X1 l1 y1 z1 st1 hq S1 g1 C1
  subst l1 y1 z1
  have q := hQ _ _ _ hq
  have hh : k0 ≤ T1.heap.size := Nat.le_trans h2 (eT ▸ g1)
  exact Ends.go (fun t r => st1.trans r) (K v T1.vm T1 _ Lc ⟨_, X1, rfl, Fr.app F q, hO⟩ hq (State.Warmed39.trans (t := s.setVm vm0) hZ S1.1) (by rw [show (s.setVm T1.vm).vm = T1.vm from rfl, S1.1.alike.findClass]; exact hown) ⟨_, h1.trans S1 hh, Nat.le_refl _, h3.trans C1⟩)
/-- a constructor that may intern -/
theorem gSpecialW {bytes : ByteArray} {maxL : Nat} {a : Addr} (hy1 : y.name = "<init>") (N : Now p l e R (s.setVm vm0) m args below meth c Z T h k n) (hx : p.tables.exec = Jvm.exec) (hZ : Z.Warmed39 (s.setVm vm0).vm) (hown : (s.setVm vm0).vm.findClass own = some m.cls) (wd : Wd Z s EL vm0 h)
    (w1 : (Jvm.Cond.methodLink own index y).before a0 Z = true) (w2 : (Jvm.Cond.instanceMethod y).before a0 Z = true) (w4 : (Jvm.Cond.code y bytes maxL none).before a0 Z = true) (hy : y.cls ≠ "java/lang/invoke/MethodHandle" ∧ y.cls ≠ "java/lang/invoke/VarHandle")
    (B : BackS l R p e below (s.setVm vm0) args y 3 W (PreN R (.ref a :: argsL).toArray h k1 n1) (PostW Z EL vm0 h Qc k1 n1)) (hd : decode c.code pc = .ok (.invokespecial index, 3)) (hst : st = argsL.reverse ++ .ref a :: rest) (hsize : Ls.size = c.maxLocals) (hlen : ∀ sig, parseMethodDescriptor y.desc = some sig → argsL.length = sig.parameters.length) (hW : (rest.map fun v => v.category).sum ≤ W)
    (hc : k + k1 ≤ R.cells) (hs : n + n1 ≤ R.slots) (hQ : ∀ v h' L, Qc v h' L → Fr Z.heap.size L)
    (K : ∀ v vm1 T' h' L, Now p l e R (s.setVm vm1) m args below meth c Z T' h' (k + k1) (n + n1) → Qc v h' L → Z.Warmed39 (s.setVm vm1).vm → (s.setVm vm1).vm.findClass own = some m.cls → Wd Z s EL vm1 h' → Ends p e below Φ T' (mkF m (pc + 3) Ls (v.toList ++ rest))) :
    Ends p e below Φ T (mkF m pc Ls st) := by
  obtain ⟨L, X, eT, F, hO⟩ := N
  obtain ⟨k0, h1, h2, h3⟩ := wd
  obtain ⟨v, _, ⟨T1, L1, q1, q2⟩, -, X1, S1, g1, ⟨Lc, hq, l1, y1, z1, C1⟩, st1⟩ := X.specialBackS hx (y := y) hy1 hown (mvT hZ w1) (mvT hZ w2) (mvT hZ w4) hy B (g := mkF m pc Ls st) rfl hsize (Steps.refl _) (a := a) (argsL := argsL) (rest := rest) hlen hst (by show 2 * 0 + _ ≤ _; omega) hd (fun _ _ => ⟨rfl, eT, hc, hs⟩)
  dsimp only [Pt.U, Pt.locs, Pt.cells, Pt.slots] at X1 l1 y1 z1 st1 hq S1 g1 C1
  subst l1 y1 z1
  have q := hQ _ _ _ hq
  have hh : k0 ≤ T1.heap.size := Nat.le_trans h2 (eT ▸ g1)
  exact Ends.go (fun t r => st1.trans r) (K v T1.vm T1 _ Lc ⟨_, X1, rfl, Fr.app F q, hO⟩ hq (State.Warmed39.trans (t := s.setVm vm0) hZ S1.1) (by rw [show (s.setVm T1.vm).vm = T1.vm from rfl, S1.1.alike.findClass]; exact hown) ⟨_, h1.trans S1 hh, Nat.le_refl _, h3.trans C1⟩)
theorem MetW.back {bytes : ByteArray} {maxL : Nat} {ret : Option FieldType} {rm : Room} {len : Nat} {as' : Array Value} (hM : MetW l Z EL y bytes maxL ret [] rm as' h Q)
    (hZ : Z.Warmed39 (s.setVm vm0).vm) (wc : (Jvm.Cond.code y bytes maxL ret).before a0 Z = true) (wz : (Jvm.Cond.initialized y.cls).before a0 Z = true) (hf : rm.frames + 1 ≤ R.frames) (hl : W + (maxL + 11) + rm.locals ≤ R.locals) (hEL : EW Z a0 EL) (wd : Wd Z s EL vm0 h) :
    BackS l R p e below (s.setVm vm0) args y len W (PreN R as' h rm.cells rm.slots) (PostW Z EL vm0 h (fun v h' L => Q v h' ∧ Fr Z.heap.size L) rm.cells rm.slots) := backOfSH (Q := fun v h' L => Q v h' ∧ Fr Z.heap.size L) hM hZ wc wz hf hl hEL wd.held
end Steps
end OwnWide
end Jvm.Pilot.@@N@@
namespace Jvm.Pilot.@@N@@
open Jvm Jvm.ClassFile Sem Op Lib Jvm.Free Jvm.Stand Jvm.LawKit Jvm.RoadKit Bundle Jvm.Pilot.@@N@@.Jvm.D
theorem elw {Z : State} {a0 : Array Value} (hw : ∀ d ∈ tables_1, d.before a0 Z = true) : EW Z a0 consts_1 := (EW.cons (hw _ (List.mem_of_getElem? (i := 24) rfl)) (by decide +kernel) EW.nil)
theorem satoms {Z : State} {a0 : Array Value} (hw : ∀ d ∈ tables_1, d.before a0 Z = true) : ∀ a ∈ Bundle.stringAtoms, a.before a0 Z = true := fun d hd => hw d ((by decide +kernel : ∀ d ∈ Bundle.stringAtoms, d ∈ tables_1) d hd)
theorem hp_nil : ∀ c ∈ ([] : List Int32), ¬ c < 0 ∧ ¬ (255 : Int32) < c := fun _ q => nomatch q
theorem hp_cons {c : Int32} {cs : List Int32} (h : ¬ c < 0 ∧ ¬ (255 : Int32) < c) (r : ∀ c ∈ cs, ¬ c < 0 ∧ ¬ (255 : Int32) < c) : ∀ c' ∈ c :: cs, ¬ c' < 0 ∧ ¬ (255 : Int32) < c' := fun c' q => (List.mem_cons.mp q).elim (fun e => e ▸ h) (r c')
/-- a String whose value is still null is no booked constant -/
theorem safe_null {Z : State} {EL : List (String × Nat)} {vm : Vm} {h : Heap} {x : Addr} (hal : Z.vm.Alike vm) (E : Exa Z h x "java/lang/String") (V : Fld Z h x "java/lang/String" "value" "[B" .null) : Safe Z EL vm h x := fun B => by
  obtain ⟨cell, k, e1, e2, -, -, -⟩ := E
  obtain ⟨cell', cf, kf, i, f, v1, v2, -, -, -, -, v7⟩ := V
  cases e1.symm.trans v1
  obtain ⟨p, -, u, a, -, q, -, F, rfl | rfl⟩ := B
  · have g1 : h[q.sa]? = some q.sC := F.ha
    cases g1.symm.trans e1
    obtain ⟨cS, ⟨⟨-, -, -, ⟨cv, kv, iv, s4, -⟩, -, -, -, s8, -⟩, -⟩, -⟩ := F
    obtain ⟨kv', z4⟩ := ff_back (U := Wst Z vm h) hal s4
    cases v2.symm.trans z4
    rw [v7] at s8
    cases s8
  · have g1 : h[q.sd]? = some q.SA := F.hd
    cases g1.symm.trans e1
    obtain ⟨cS, -, -, f2, -⟩ := F
    have f3 : Z.vm.findClass "[B" = some q.SA.cls := by rw [← hal.findClass]; exact f2
    obtain ⟨k1, q1, q2⟩ := Vm.findClass_spec e2
    obtain ⟨k2, q3, q4⟩ := Vm.findClass_spec f3
    cases q1.symm.trans q3
    exact absurd (q2.symm.trans q4) (by decide)
theorem d5_0 : decode jdk_42_method_149_code 0 = .ok (.aload_n 0, 1) := by decide +kernel
theorem d5_1 : decode jdk_42_method_149_code 1 = .ok (.invokespecial 1, 3) := by decide +kernel
theorem d5_4 : decode jdk_42_method_149_code 4 = .ok (.iload_n 3, 1) := by decide +kernel
theorem d5_5 : decode jdk_42_method_149_code 5 = .ok (.ifCond .ne 22, 3) := by decide +kernel
theorem d5_8 : decode jdk_42_method_149_code 8 = .ok (.aload_n 0, 1) := by decide +kernel
theorem d5_9 : decode jdk_42_method_149_code 9 = .ok (.ldc 7, 2) := by decide +kernel
theorem d5_11 : decode jdk_42_method_149_code 11 = .ok (.getfield 9, 3) := by decide +kernel
theorem d5_14 : decode jdk_42_method_149_code 14 = .ok (.putfield 9, 3) := by decide +kernel
theorem d5_17 : decode jdk_42_method_149_code 17 = .ok (.aload_n 0, 1) := by decide +kernel
theorem d5_18 : decode jdk_42_method_149_code 18 = .ok (.ldc 7, 2) := by decide +kernel
theorem d5_20 : decode jdk_42_method_149_code 20 = .ok (.getfield 15, 3) := by decide +kernel
theorem d5_23 : decode jdk_42_method_149_code 23 = .ok (.putfield 15, 3) := by decide +kernel
theorem d5_26 : decode jdk_42_method_149_code 26 = .ok (.return_, 1) := by decide +kernel
set_option maxRecDepth 65536 in
set_option maxHeartbeats 40000000 in
theorem rmE4 (l : Launch) (Z : State) (a0 : Array Value) (hw : ∀ d ∈ tables_1, d.before a0 Z = true) (x b : Addr) (h0 : Heap) (Z0 : Ext Z.heap h0) (E : Exa Z h0 x "java/lang/String") (V : Fld Z h0 x "java/lang/String" "value" "[B" .null) (Cd : Fld Z h0 x "java/lang/String" "coder" "B" (.int 0)) (gz : Z.heap.size ≤ x) :
    MetW l Z consts_1 (⟨"java/lang/String", "<init>", "([CIILjava/lang/Void;)V"⟩ : MethodName) jdk_42_method_149_code 6 none [] ({ frames := 1, cells := 4, slots := 8, locals := 12 } : Room) #[(.ref x), (.ref b), (.int (0 : Int32)), (.int (0 : Int32)), .null] h0 (fun v h => v = none ∧ Keep h0 h [x] ∧ Str Z h x []) := by
  refine metW (by first | exact plainFor_of_name (by first | (simp [plainName, overriddenIn]; done) | decide +kernel) | decide +kernel) Z0 (Ls := #[.val (.ref x), .val (.ref b), .val (.int (0 : Int32)), .val (.int (0 : Int32)), .val .null, .unset]) (fun m => by first | (simp [entryFrame, mkF, argsToLocals, Value.category]; done) | rfl) ?_
  intro p e s m below meth c T0 vm0 hx hby hml hret hlk hown hnm hZ N0 wd0
  refine Ends.go (f' := (mkF m 1 #[.val (.ref x), .val (.ref b), .val (.int (0 : Int32)), .val (.int (0 : Int32)), .val .null, .unset] [(.ref x)])) (fun t k => XS.aloadN N0.here hx rfl (hb hby d5_0) rfl rfl k) ?_
  refine gInitO 0 N0 hx hZ hown (hw _ (List.mem_of_getElem? (i := 21) rfl)) (hw _ (List.mem_of_getElem? (i := 22) rfl)) (hw _ (List.mem_of_getElem? (i := 23) rfl)) (hb hby d5_1) (by rw [hml]; rfl) (nle rfl) (nle rfl) (nle rfl) ?_
  intro T1 N2
  show Ends p e below _ T1 (mkF m 4 #[.val (.ref x), .val (.ref b), .val (.int (0 : Int32)), .val (.int (0 : Int32)), .val .null, .unset] [])
  refine Ends.go (f' := (mkF m 5 #[.val (.ref x), .val (.ref b), .val (.int (0 : Int32)), .val (.int (0 : Int32)), .val .null, .unset] [(.int (0 : Int32))])) (fun t k => XS.iloadN N2.here hx rfl (hb hby d5_4) rfl k) ?_
  refine Ends.go (f' := (mkF m 8 #[.val (.ref x), .val (.ref b), .val (.int (0 : Int32)), .val (.int (0 : Int32)), .val .null, .unset] [])) (fun t k => XS.ifNo N2.here hx rfl (hb hby d5_5) rfl (XT.i0_ne_f (by decide)) k) ?_
  refine Ends.go (f' := (mkF m 9 #[.val (.ref x), .val (.ref b), .val (.int (0 : Int32)), .val (.int (0 : Int32)), .val .null, .unset] [(.ref x)])) (fun t k => XS.aloadN N2.here hx rfl (hb hby d5_8) rfl rfl k) ?_
  refine gLdcS (cs := []) 0 N2 hx hZ hown (hw _ (List.mem_of_getElem? (i := 24) rfl)) (satoms hw) (elw hw) (by simp [consts_1]) wd0 ⟨by decide +kernel, by decide +kernel⟩ (by decide +kernel) (nle rfl) (hb hby d5_9) (nle rfl) (nle rfl) (nle rfl) (nle rfl) ?_
  intro vm3 T4 h5 a6 N7 E8 S9 hZ hown wd10 R11
  have X12 : Ext h0 h5 := ext_trans (ext_refl h0) E8
  show Ends p e below _ T4 (mkF m 11 #[.val (.ref x), .val (.ref b), .val (.int (0 : Int32)), .val (.int (0 : Int32)), .val .null, .unset] [(.ref a6), (.ref x)])
  obtain ⟨A1, C1, ⟨t1, kb1, V1, K1⟩, -, -⟩ := S9
  refine gGet (host := "") N7 hx hZ hown (Or.inl (hw _ (List.mem_of_getElem? (i := 30) rfl))) Via.refl V1 (hb hby d5_11) ?_
  intro T13 N14
  show Ends p e below _ T13 (mkF m 14 #[.val (.ref x), .val (.ref b), .val (.int (0 : Int32)), .val (.int (0 : Int32)), .val .null, .unset] [(.ref t1), (.ref x)])
  have ex1 := E.ext E8
  have vx1 := V.ext E8
  have cx1 := Cd.ext E8
  have ne1 : t1 ≠ x := fun q => (Exa.neArv ex1 K1 (hw _ (List.mem_of_getElem? (i := 11) rfl))) q.symm
  have sne : RoadKit.slotOf Z "java/lang/String" "coder" "B" ≠ RoadKit.slotOf Z "java/lang/String" "value" "[B" := slot_ne (t := .byte) (t' := .array .byte) (Or.inr (hw _ (List.mem_of_getElem? (i := 27) rfl))) (Or.inr (hw _ (List.mem_of_getElem? (i := 26) rfl))) (by decide) (by decide) (by decide)
  have sf1 : Safe Z consts_1 vm3 h5 x := safe_null hZ.alike ex1 vx1
  refine gPut (host := "") (C := "java/lang/String") N14 hx hZ hown (Or.inl (hw _ (List.mem_of_getElem? (i := 30) rfl))) Via.refl vx1 ex1 gz (Or.inr ⟨(hw _ (List.mem_of_getElem? (i := 26) rfl)), rfl, hnm⟩) (hw _ (List.mem_of_getElem? (i := 11) rfl)) (ty := (.array .byte)) (by decide) rfl rfl (hb hby d5_14) ?_
  intro T15 h16 N17 W18 F19 E20
  have wd2 : Wd Z s consts_1 vm3 h16 := wd10.keep (Keep.of_wr W18) (allS sf1 all0)
  have sf2 : Safe Z consts_1 vm3 h16 x := Safe.wr W18 sf1 wd10.held sf1
  show Ends p e below _ T15 (mkF m 17 #[.val (.ref x), .val (.ref b), .val (.int (0 : Int32)), .val (.int (0 : Int32)), .val .null, .unset] [])
  refine Ends.go (f' := (mkF m 18 #[.val (.ref x), .val (.ref b), .val (.int (0 : Int32)), .val (.int (0 : Int32)), .val .null, .unset] [(.ref x)])) (fun t k => XS.aloadN N17.here hx rfl (hb hby d5_17) rfl rfl k) ?_
  refine gLdcS (cs := []) 0 N17 hx hZ hown (hw _ (List.mem_of_getElem? (i := 24) rfl)) (satoms hw) (elw hw) (by simp [consts_1]) wd2 ⟨by decide +kernel, by decide +kernel⟩ (by decide +kernel) (nle rfl) (hb hby d5_18) (nle rfl) (nle rfl) (nle rfl) (nle rfl) ?_
  intro vm21 T22 h23 a24 N25 E26 S27 hZ hown wd28 R29
  have X30 : Ext h16 h23 := ext_trans (ext_refl h16) E26
  show Ends p e below _ T22 (mkF m 20 #[.val (.ref x), .val (.ref b), .val (.int (0 : Int32)), .val (.int (0 : Int32)), .val .null, .unset] [(.ref a24), (.ref x)])
  obtain ⟨A3, C3, -, -, -⟩ := S27
  refine gGet (host := "") N25 hx hZ hown (Or.inl (hw _ (List.mem_of_getElem? (i := 31) rfl))) Via.refl C3 (hb hby d5_20) ?_
  intro T31 N32
  show Ends p e below _ T31 (mkF m 23 #[.val (.ref x), .val (.ref b), .val (.int (0 : Int32)), .val (.int (0 : Int32)), .val .null, .unset] [(.int (0 : Int32)), (.ref x)])
  have sf3 : Safe Z consts_1 vm21 h23 x := R29.safe E20.lt sf2
  refine gPut (host := "") (C := "java/lang/String") N32 hx hZ hown (Or.inl (hw _ (List.mem_of_getElem? (i := 31) rfl))) Via.refl ((cx1.other W18 (Or.inr sne)).ext E26) (E20.ext E26) gz (Or.inr ⟨(hw _ (List.mem_of_getElem? (i := 27) rfl)), rfl, hnm⟩) (hw _ (List.mem_of_getElem? (i := 11) rfl)) (ty := .byte) (by decide) rfl rfl (hb hby d5_23) ?_
  intro T33 h34 N35 W36 F37 E38
  have wd4 : Wd Z s consts_1 vm21 h34 := wd28.keep (Keep.of_wr W36) (allS sf3 all0)
  show Ends p e below _ T33 (mkF m 26 #[.val (.ref x), .val (.ref b), .val (.int (0 : Int32)), .val (.int (0 : Int32)), .val .null, .unset] [])
  exact retVW N35 hZ (elw hw) wd4 hx hlk hret (hb hby d5_26) ⟨rfl, (((((Keep.refl h0 [x]).ext E8).wr W18 (Or.inl (List.mem_singleton.mpr rfl))).ext E26).wr W36 (Or.inl (List.mem_singleton.mpr rfl))), E38, F37, ⟨t1, kb1, (F19.ext E26).other W36 (Or.inr sne.symm), (((K1.other W18 ne1).ext E26).other W36 ne1)⟩, hp_nil, by decide⟩ (nle rfl) (nle rfl)
theorem d4_0 : decode jdk_42_method_3_code 0 = .ok (.aload_n 0, 1) := by decide +kernel
theorem d4_1 : decode jdk_42_method_3_code 1 = .ok (.aload_n 1, 1) := by decide +kernel
theorem d4_2 : decode jdk_42_method_3_code 2 = .ok (.iconst 0, 1) := by decide +kernel
theorem d4_3 : decode jdk_42_method_3_code 3 = .ok (.aload_n 1, 1) := by decide +kernel
theorem d4_4 : decode jdk_42_method_3_code 4 = .ok (.arraylength, 1) := by decide +kernel
theorem d4_5 : decode jdk_42_method_3_code 5 = .ok (.aconst_null, 1) := by decide +kernel
theorem d4_6 : decode jdk_42_method_3_code 6 = .ok (.invokespecial 27, 3) := by decide +kernel
theorem d4_9 : decode jdk_42_method_3_code 9 = .ok (.return_, 1) := by decide +kernel
set_option maxRecDepth 65536 in
set_option maxHeartbeats 40000000 in
theorem rmE1 (l : Launch) (Z : State) (a0 : Array Value) (hw : ∀ d ∈ tables_1, d.before a0 Z = true) (x b : Addr) (kC : ClassId) (vs : List Value) (d : Value) (h0 : Heap) (Z0 : Ext Z.heap h0) (E : Exa Z h0 x "java/lang/String") (V : Fld Z h0 x "java/lang/String" "value" "[B" .null) (Cd : Fld Z h0 x "java/lang/String" "coder" "B" (.int 0)) (gz : Z.heap.size ≤ x) (Kb : Arv Z h0 b kC .char (0 : Int32) vs d) :
    MetW l Z consts_1 (⟨"java/lang/String", "<init>", "([C)V"⟩ : MethodName) jdk_42_method_3_code 2 none [] ({ frames := 2, cells := 4, slots := 8, locals := 29 } : Room) #[(.ref x), (.ref b)] h0 (fun v h => v = none ∧ Keep h0 h [x] ∧ Str Z h x []) := by
  refine metW (by first | exact plainFor_of_name (by first | (simp [plainName, overriddenIn]; done) | decide +kernel) | decide +kernel) Z0 (Ls := #[.val (.ref x), .val (.ref b)]) (fun m => by first | (simp [entryFrame, mkF, argsToLocals, Value.category]; done) | rfl) ?_
  intro p e s m below meth c T0 vm0 hx hby hml hret hlk hown hnm hZ N0 wd0
  refine Ends.go (f' := (mkF m 1 #[.val (.ref x), .val (.ref b)] [(.ref x)])) (fun t k => XS.aloadN N0.here hx rfl (hb hby d4_0) rfl rfl k) ?_
  refine Ends.go (f' := (mkF m 2 #[.val (.ref x), .val (.ref b)] [(.ref b), (.ref x)])) (fun t k => XS.aloadN N0.here hx rfl (hb hby d4_1) rfl rfl k) ?_
  refine Ends.go (f' := (mkF m 3 #[.val (.ref x), .val (.ref b)] [(.int (0 : Int32)), (.ref b), (.ref x)])) (fun t k => XS.iconst N0.here hx rfl (hb hby d4_2) k) ?_
  refine Ends.go (f' := (mkF m 4 #[.val (.ref x), .val (.ref b)] [(.ref b), (.int (0 : Int32)), (.ref b), (.ref x)])) (fun t k => XS.aloadN N0.here hx rfl (hb hby d4_3) rfl rfl k) ?_
  refine gLen N0 hx hZ Kb (hb hby d4_4) ?_
  show Ends p e below _ T0 (mkF m 5 #[.val (.ref x), .val (.ref b)] [(.int (0 : Int32)), (.int (0 : Int32)), (.ref b), (.ref x)])
  refine Ends.go (f' := (mkF m 6 #[.val (.ref x), .val (.ref b)] [.null, (.int (0 : Int32)), (.int (0 : Int32)), (.ref b), (.ref x)])) (fun t k => XS.aconstNull N0.here hx rfl (hb hby d4_5) k) ?_
  refine gSpecialW (W := 0) (y := (⟨"java/lang/String", "<init>", "([CIILjava/lang/Void;)V"⟩ : MethodName)) (a := x) (argsL := [(.ref b), (.int (0 : Int32)), (.int (0 : Int32)), .null]) (rest := []) rfl N0 hx hZ hown wd0 (hw _ (List.mem_of_getElem? (i := 17) rfl)) (hw _ (List.mem_of_getElem? (i := 18) rfl)) (hw _ (List.mem_of_getElem? (i := 20) rfl)) (by decide) ((rmE4 l Z a0 hw x b h0 N0.ext E V Cd gz).back (W := 0) hZ (hw _ (List.mem_of_getElem? (i := 20) rfl)) (hw _ (List.mem_of_getElem? (i := 12) rfl)) (nle rfl) (nle rfl) (elw hw) wd0) (hb hby d4_6) rfl (by rw [hml]; rfl) (lenOf (by decide +kernel : parseMethodDescriptor "([CIILjava/lang/Void;)V" = some ⟨[(.array .char), .int, .int, (.object "java/lang/Void")], none⟩) rfl) (nle rfl) (nle rfl) (nle rfl) (fun _ _ _ q => q.2) ?_
  rintro _ vm1 T2 h3 L6 N4 ⟨⟨rfl, q1, q2⟩, -⟩ hZ hown wd5
  show Ends p e below _ T2 (mkF m 9 #[.val (.ref x), .val (.ref b)] [])
  exact retVW N4 hZ (elw hw) wd5 hx hlk hret (hb hby d4_9) ⟨rfl, q1, q2⟩ (nle rfl) (nle rfl)
theorem d20_0 : decode method_3_code 0 = .ok (.iload_n 0, 1) := by decide +kernel
theorem d20_1 : decode method_3_code 1 = .ok (.bipush 48, 2) := by decide +kernel
theorem d20_3 : decode method_3_code 3 = .ok (.if_icmp .lt 13, 3) := by decide +kernel
theorem d20_6 : decode method_3_code 6 = .ok (.iload_n 0, 1) := by decide +kernel
theorem d20_7 : decode method_3_code 7 = .ok (.bipush 57, 2) := by decide +kernel
theorem d20_9 : decode method_3_code 9 = .ok (.if_icmp .gt 7, 3) := by decide +kernel
theorem d20_12 : decode method_3_code 12 = .ok (.iconst 1, 1) := by decide +kernel
theorem d20_13 : decode method_3_code 13 = .ok (.goto 4, 3) := by decide +kernel
theorem d20_16 : decode method_3_code 16 = .ok (.iconst 0, 1) := by decide +kernel
theorem d20_17 : decode method_3_code 17 = .ok (.ireturn, 1) := by decide +kernel
def f_dig (p0 : Int32) : Int32 := (if p0 < (48 : Int32) then (nar .boolean (0 : Int32)) else (if (57 : Int32) < p0 then (nar .boolean (0 : Int32)) else (nar .boolean (1 : Int32))))
set_option maxRecDepth 65536 in
set_option maxHeartbeats 40000000 in
theorem rm20 (l : Launch) (Z : State) (a0 : Array Value) (hw : ∀ d ∈ tables_1, d.before a0 Z = true) (p0 : Int32) (h0 : Heap) (Z0 : Ext Z.heap h0) :
    MetN l Z (⟨"com/example/askel/askel/DecimalParsePinLaw", "dig", "(C)Z"⟩ : MethodName) method_3_code 1 (some .boolean) [] ({ frames := 0, cells := 0, slots := 0, locals := 0 } : Room) #[(.int p0)] h0 (fun v h => v = some (.int (f_dig p0)) ∧ h = h0) := by
  refine metN (by first | exact plainFor_of_name (by first | (simp [plainName, overriddenIn]; done) | decide +kernel) | decide +kernel) Z0 (Ls := #[.val (.int p0)]) (fun m => by first | (simp [entryFrame, mkF, argsToLocals, Value.category]; done) | rfl) ?_
  intro p e s m below meth c T0 hx hby hml hret hlk hown hnm hZ N0
  refine Ends.go (f' := (mkF m 1 #[.val (.int p0)] [(.int p0)])) (fun t k => XS.iloadN N0.here hx rfl (hb hby d20_0) rfl k) ?_
  refine Ends.go (f' := (mkF m 3 #[.val (.int p0)] [(.int (48 : Int32)), (.int p0)])) (fun t k => XS.bipush N0.here hx rfl (hb hby d20_1) k) ?_
  by_cases c1 : p0 < (48 : Int32)
  · refine Ends.go (f' := (mkF m 16 #[.val (.int p0)] [])) (fun t k => XS.icmpYes N0.here hx rfl (pc0 := 3) (pc' := 16) rfl (hb hby d20_3) rfl (XT.ii_lt_t c1) (by decide) (by decide) k) ?_
    refine Ends.go (f' := (mkF m 17 #[.val (.int p0)] [(.int (0 : Int32))])) (fun t k => XS.iconst N0.here hx rfl (hb hby d20_16) k) ?_
    exact retZ N0 hx hlk hret (by simp) (hb hby d20_17) ⟨by simp only [f_dig, if_pos c1], rfl⟩ (nle rfl) (nle rfl)
  · refine Ends.go (f' := (mkF m 6 #[.val (.int p0)] [])) (fun t k => XS.icmpNo N0.here hx rfl (hb hby d20_3) rfl (XT.ii_lt_f c1) k) ?_
    refine Ends.go (f' := (mkF m 7 #[.val (.int p0)] [(.int p0)])) (fun t k => XS.iloadN N0.here hx rfl (hb hby d20_6) rfl k) ?_
    refine Ends.go (f' := (mkF m 9 #[.val (.int p0)] [(.int (57 : Int32)), (.int p0)])) (fun t k => XS.bipush N0.here hx rfl (hb hby d20_7) k) ?_
    by_cases c2 : (57 : Int32) < p0
    · refine Ends.go (f' := (mkF m 16 #[.val (.int p0)] [])) (fun t k => XS.icmpYes N0.here hx rfl (pc0 := 9) (pc' := 16) rfl (hb hby d20_9) rfl (XT.ii_gt_t c2) (by decide) (by decide) k) ?_
      refine Ends.go (f' := (mkF m 17 #[.val (.int p0)] [(.int (0 : Int32))])) (fun t k => XS.iconst N0.here hx rfl (hb hby d20_16) k) ?_
      exact retZ N0 hx hlk hret (by simp) (hb hby d20_17) ⟨by simp only [f_dig, if_neg c1, if_pos c2], rfl⟩ (nle rfl) (nle rfl)
    · refine Ends.go (f' := (mkF m 12 #[.val (.int p0)] [])) (fun t k => XS.icmpNo N0.here hx rfl (hb hby d20_9) rfl (XT.ii_gt_f c2) k) ?_
      refine Ends.go (f' := (mkF m 13 #[.val (.int p0)] [(.int (1 : Int32))])) (fun t k => XS.iconst N0.here hx rfl (hb hby d20_12) k) ?_
      refine Ends.go (f' := (mkF m 17 #[.val (.int p0)] [(.int (1 : Int32))])) (fun t k => XS.goto N0.here hx rfl (pc0 := 13) (pc' := 17) rfl (hb hby d20_13) (by decide) (by decide) k) ?_
      exact retZ N0 hx hlk hret (by simp) (hb hby d20_17) ⟨by simp only [f_dig, if_neg c1, if_neg c2], rfl⟩ (nle rfl) (nle rfl)
theorem d2_0 : decode method_2_code 0 = .ok (.iload_n 0, 1) := by decide +kernel
theorem d2_1 : decode method_2_code 1 = .ok (.sipush 256, 3) := by decide +kernel
theorem d2_4 : decode method_2_code 4 = .ok (.iand, 1) := by decide +kernel
theorem d2_5 : decode method_2_code 5 = .ok (.ifCond .eq 19, 3) := by decide +kernel
theorem d2_8 : decode method_2_code 8 = .ok (.bipush 48, 2) := by decide +kernel
theorem d2_10 : decode method_2_code 10 = .ok (.iload_n 0, 1) := by decide +kernel
theorem d2_11 : decode method_2_code 11 = .ok (.bipush 9, 2) := by decide +kernel
theorem d2_13 : decode method_2_code 13 = .ok (.iushr, 1) := by decide +kernel
theorem d2_14 : decode method_2_code 14 = .ok (.sipush 32767, 3) := by decide +kernel
theorem d2_17 : decode method_2_code 17 = .ok (.iand, 1) := by decide +kernel
theorem d2_18 : decode method_2_code 18 = .ok (.bipush 10, 2) := by decide +kernel
theorem d2_20 : decode method_2_code 20 = .ok (.irem, 1) := by decide +kernel
theorem d2_21 : decode method_2_code 21 = .ok (.iadd, 1) := by decide +kernel
theorem d2_22 : decode method_2_code 22 = .ok (.i2c, 1) := by decide +kernel
theorem d2_23 : decode method_2_code 23 = .ok (.ireturn, 1) := by decide +kernel
theorem d2_24 : decode method_2_code 24 = .ok (.iload_n 0, 1) := by decide +kernel
theorem d2_25 : decode method_2_code 25 = .ok (.sipush 255, 3) := by decide +kernel
theorem d2_28 : decode method_2_code 28 = .ok (.iand, 1) := by decide +kernel
theorem d2_29 : decode method_2_code 29 = .ok (.i2c, 1) := by decide +kernel
theorem d2_30 : decode method_2_code 30 = .ok (.ireturn, 1) := by decide +kernel
def f_draw (p0 : Int32) : Int32 := (if (p0 &&& (256 : Int32)) = 0 then (nar .char (nar .char (p0 &&& (255 : Int32)))) else (nar .char (nar .char ((48 : Int32) + (((XT.ushr p0 (9 : Int32)) &&& (32767 : Int32)) % (10 : Int32))))))
set_option maxRecDepth 65536 in
set_option maxHeartbeats 40000000 in
theorem rm2 (l : Launch) (Z : State) (a0 : Array Value) (hw : ∀ d ∈ tables_1, d.before a0 Z = true) (p0 : Int32) (h0 : Heap) (Z0 : Ext Z.heap h0) :
    MetN l Z (⟨"com/example/askel/askel/DecimalParsePinLaw", "draw", "(I)C"⟩ : MethodName) method_2_code 1 (some .char) [] ({ frames := 0, cells := 0, slots := 0, locals := 0 } : Room) #[(.int p0)] h0 (fun v h => v = some (.int (f_draw p0)) ∧ h = h0) := by
  refine metN (by first | exact plainFor_of_name (by first | (simp [plainName, overriddenIn]; done) | decide +kernel) | decide +kernel) Z0 (Ls := #[.val (.int p0)]) (fun m => by first | (simp [entryFrame, mkF, argsToLocals, Value.category]; done) | rfl) ?_
  intro p e s m below meth c T0 hx hby hml hret hlk hown hnm hZ N0
  refine Ends.go (f' := (mkF m 1 #[.val (.int p0)] [(.int p0)])) (fun t k => XS.iloadN N0.here hx rfl (hb hby d2_0) rfl k) ?_
  refine Ends.go (f' := (mkF m 4 #[.val (.int p0)] [(.int (256 : Int32)), (.int p0)])) (fun t k => XS.sipush N0.here hx rfl (hb hby d2_1) k) ?_
  refine Ends.go (f' := (mkF m 5 #[.val (.int p0)] [(.int (p0 &&& (256 : Int32)))])) (fun t k => XS.iand N0.here hx rfl (hb hby d2_4) rfl k) ?_
  by_cases c1 : (p0 &&& (256 : Int32)) = 0
  · refine Ends.go (f' := (mkF m 24 #[.val (.int p0)] [])) (fun t k => XS.ifYes N0.here hx rfl (pc0 := 5) (pc' := 24) rfl (hb hby d2_5) rfl (XT.i0_eq_t c1) (by decide) (by decide) k) ?_
    refine Ends.go (f' := (mkF m 25 #[.val (.int p0)] [(.int p0)])) (fun t k => XS.iloadN N0.here hx rfl (hb hby d2_24) rfl k) ?_
    refine Ends.go (f' := (mkF m 28 #[.val (.int p0)] [(.int (255 : Int32)), (.int p0)])) (fun t k => XS.sipush N0.here hx rfl (hb hby d2_25) k) ?_
    refine Ends.go (f' := (mkF m 29 #[.val (.int p0)] [(.int (p0 &&& (255 : Int32)))])) (fun t k => XS.iand N0.here hx rfl (hb hby d2_28) rfl k) ?_
    refine Ends.go (f' := (mkF m 30 #[.val (.int p0)] [(.int (nar .char (p0 &&& (255 : Int32))))])) (fun t k => XT.i2c N0.here hx rfl (hb hby d2_29) rfl k) ?_
    exact retZ N0 hx hlk hret (by simp) (hb hby d2_30) ⟨by simp only [f_draw, if_pos c1], rfl⟩ (nle rfl) (nle rfl)
  · refine Ends.go (f' := (mkF m 8 #[.val (.int p0)] [])) (fun t k => XS.ifNo N0.here hx rfl (hb hby d2_5) rfl (XT.i0_eq_f c1) k) ?_
    refine Ends.go (f' := (mkF m 10 #[.val (.int p0)] [(.int (48 : Int32))])) (fun t k => XS.bipush N0.here hx rfl (hb hby d2_8) k) ?_
    refine Ends.go (f' := (mkF m 11 #[.val (.int p0)] [(.int p0), (.int (48 : Int32))])) (fun t k => XS.iloadN N0.here hx rfl (hb hby d2_10) rfl k) ?_
    refine Ends.go (f' := (mkF m 13 #[.val (.int p0)] [(.int (9 : Int32)), (.int p0), (.int (48 : Int32))])) (fun t k => XS.bipush N0.here hx rfl (hb hby d2_11) k) ?_
    refine Ends.go (f' := (mkF m 14 #[.val (.int p0)] [(.int (XT.ushr p0 (9 : Int32))), (.int (48 : Int32))])) (fun t k => XT.iushr N0.here hx rfl (hb hby d2_13) rfl k) ?_
    refine Ends.go (f' := (mkF m 17 #[.val (.int p0)] [(.int (32767 : Int32)), (.int (XT.ushr p0 (9 : Int32))), (.int (48 : Int32))])) (fun t k => XS.sipush N0.here hx rfl (hb hby d2_14) k) ?_
    refine Ends.go (f' := (mkF m 18 #[.val (.int p0)] [(.int ((XT.ushr p0 (9 : Int32)) &&& (32767 : Int32))), (.int (48 : Int32))])) (fun t k => XS.iand N0.here hx rfl (hb hby d2_17) rfl k) ?_
    refine Ends.go (f' := (mkF m 20 #[.val (.int p0)] [(.int (10 : Int32)), (.int ((XT.ushr p0 (9 : Int32)) &&& (32767 : Int32))), (.int (48 : Int32))])) (fun t k => XS.bipush N0.here hx rfl (hb hby d2_18) k) ?_
    refine Ends.go (f' := (mkF m 21 #[.val (.int p0)] [(.int (((XT.ushr p0 (9 : Int32)) &&& (32767 : Int32)) % (10 : Int32))), (.int (48 : Int32))])) (fun t k => gIrem N0 hx (hb hby d2_20) (by decide) k) ?_
    refine Ends.go (f' := (mkF m 22 #[.val (.int p0)] [(.int ((48 : Int32) + (((XT.ushr p0 (9 : Int32)) &&& (32767 : Int32)) % (10 : Int32))))])) (fun t k => XS.iadd N0.here hx rfl (hb hby d2_21) rfl k) ?_
    refine Ends.go (f' := (mkF m 23 #[.val (.int p0)] [(.int (nar .char ((48 : Int32) + (((XT.ushr p0 (9 : Int32)) &&& (32767 : Int32)) % (10 : Int32)))))])) (fun t k => XT.i2c N0.here hx rfl (hb hby d2_22) rfl k) ?_
    exact retZ N0 hx hlk hret (by simp) (hb hby d2_23) ⟨by simp only [f_draw, if_neg c1], rfl⟩ (nle rfl) (nle rfl)
theorem d1_0 : decode method_4_code 0 = .ok (.iload_n 0, 1) := by decide +kernel
theorem d1_1 : decode method_4_code 1 = .ok (.iconst 5, 1) := by decide +kernel
theorem d1_2 : decode method_4_code 2 = .ok (.if_icmp .gt 5, 3) := by decide +kernel
theorem d1_5 : decode method_4_code 5 = .ok (.iload_n 0, 1) := by decide +kernel
theorem d1_6 : decode method_4_code 6 = .ok (.ireturn, 1) := by decide +kernel
theorem d1_7 : decode method_4_code 7 = .ok (.iload_n 0, 1) := by decide +kernel
theorem d1_8 : decode method_4_code 8 = .ok (.bipush 6, 2) := by decide +kernel
theorem d1_10 : decode method_4_code 10 = .ok (.if_icmp .ne 6, 3) := by decide +kernel
theorem d1_13 : decode method_4_code 13 = .ok (.bipush 18, 2) := by decide +kernel
theorem d1_15 : decode method_4_code 15 = .ok (.ireturn, 1) := by decide +kernel
theorem d1_16 : decode method_4_code 16 = .ok (.bipush 19, 2) := by decide +kernel
theorem d1_18 : decode method_4_code 18 = .ok (.ireturn, 1) := by decide +kernel
def f_len (p0 : Int32) : Int32 := (if (5 : Int32) < p0 then (if p0 = (6 : Int32) then (18 : Int32) else (19 : Int32)) else p0)
set_option maxRecDepth 65536 in
set_option maxHeartbeats 40000000 in
theorem rm1 (l : Launch) (Z : State) (a0 : Array Value) (hw : ∀ d ∈ tables_1, d.before a0 Z = true) (p0 : Int32) (h0 : Heap) (Z0 : Ext Z.heap h0) :
    MetN l Z (⟨"com/example/askel/askel/DecimalParsePinLaw", "lengthOf", "(I)I"⟩ : MethodName) method_4_code 1 (some .int) [] ({ frames := 0, cells := 0, slots := 0, locals := 0 } : Room) #[(.int p0)] h0 (fun v h => v = some (.int (f_len p0)) ∧ h = h0) := by
  refine metN (by first | exact plainFor_of_name (by first | (simp [plainName, overriddenIn]; done) | decide +kernel) | decide +kernel) Z0 (Ls := #[.val (.int p0)]) (fun m => by first | (simp [entryFrame, mkF, argsToLocals, Value.category]; done) | rfl) ?_
  intro p e s m below meth c T0 hx hby hml hret hlk hown hnm hZ N0
  refine Ends.go (f' := (mkF m 1 #[.val (.int p0)] [(.int p0)])) (fun t k => XS.iloadN N0.here hx rfl (hb hby d1_0) rfl k) ?_
  refine Ends.go (f' := (mkF m 2 #[.val (.int p0)] [(.int (5 : Int32)), (.int p0)])) (fun t k => XS.iconst N0.here hx rfl (hb hby d1_1) k) ?_
  by_cases c1 : (5 : Int32) < p0
  · refine Ends.go (f' := (mkF m 7 #[.val (.int p0)] [])) (fun t k => XS.icmpYes N0.here hx rfl (pc0 := 2) (pc' := 7) rfl (hb hby d1_2) rfl (XT.ii_gt_t c1) (by decide) (by decide) k) ?_
    refine Ends.go (f' := (mkF m 8 #[.val (.int p0)] [(.int p0)])) (fun t k => XS.iloadN N0.here hx rfl (hb hby d1_7) rfl k) ?_
    refine Ends.go (f' := (mkF m 10 #[.val (.int p0)] [(.int (6 : Int32)), (.int p0)])) (fun t k => XS.bipush N0.here hx rfl (hb hby d1_8) k) ?_
    by_cases c2 : p0 = (6 : Int32)
    · refine Ends.go (f' := (mkF m 13 #[.val (.int p0)] [])) (fun t k => XS.icmpNo N0.here hx rfl (hb hby d1_10) rfl (XT.ii_ne_f c2) k) ?_
      refine Ends.go (f' := (mkF m 15 #[.val (.int p0)] [(.int (18 : Int32))])) (fun t k => XS.bipush N0.here hx rfl (hb hby d1_13) k) ?_
      exact retI N0 hx hlk hret (hb hby d1_15) ⟨by simp only [f_len, if_pos c1, if_pos c2], rfl⟩ (nle rfl) (nle rfl)
    · refine Ends.go (f' := (mkF m 16 #[.val (.int p0)] [])) (fun t k => XS.icmpYes N0.here hx rfl (pc0 := 10) (pc' := 16) rfl (hb hby d1_10) rfl (XT.ii_ne_t c2) (by decide) (by decide) k) ?_
      refine Ends.go (f' := (mkF m 18 #[.val (.int p0)] [(.int (19 : Int32))])) (fun t k => XS.bipush N0.here hx rfl (hb hby d1_16) k) ?_
      exact retI N0 hx hlk hret (hb hby d1_18) ⟨by simp only [f_len, if_pos c1, if_neg c2], rfl⟩ (nle rfl) (nle rfl)
  · refine Ends.go (f' := (mkF m 5 #[.val (.int p0)] [])) (fun t k => XS.icmpNo N0.here hx rfl (hb hby d1_2) rfl (XT.ii_gt_f c1) k) ?_
    refine Ends.go (f' := (mkF m 6 #[.val (.int p0)] [(.int p0)])) (fun t k => XS.iloadN N0.here hx rfl (hb hby d1_5) rfl k) ?_
    exact retI N0 hx hlk hret (hb hby d1_6) ⟨by simp only [f_len, if_neg c1], rfl⟩ (nle rfl) (nle rfl)
theorem d14_0 : decode jdk_29_method_69_code 0 = .ok (.iload_n 0, 1) := by decide +kernel
theorem d14_1 : decode jdk_29_method_69_code 1 = .ok (.iload_n 1, 1) := by decide +kernel
theorem d14_2 : decode jdk_29_method_69_code 2 = .ok (.if_icmp .gt 7, 3) := by decide +kernel
theorem d14_5 : decode jdk_29_method_69_code 5 = .ok (.iload_n 0, 1) := by decide +kernel
theorem d14_6 : decode jdk_29_method_69_code 6 = .ok (.goto 4, 3) := by decide +kernel
theorem d14_9 : decode jdk_29_method_69_code 9 = .ok (.iload_n 1, 1) := by decide +kernel
theorem d14_10 : decode jdk_29_method_69_code 10 = .ok (.ireturn, 1) := by decide +kernel
def f_min (p0 : Int32) (p1 : Int32) : Int32 := (if p1 < p0 then p1 else p0)
set_option maxRecDepth 65536 in
set_option maxHeartbeats 40000000 in
theorem rm14 (l : Launch) (Z : State) (a0 : Array Value) (hw : ∀ d ∈ tables_1, d.before a0 Z = true) (p0 : Int32) (p1 : Int32) (h0 : Heap) (Z0 : Ext Z.heap h0) :
    MetN l Z (⟨"java/lang/Math", "min", "(II)I"⟩ : MethodName) jdk_29_method_69_code 2 (some .int) [] ({ frames := 0, cells := 0, slots := 0, locals := 0 } : Room) #[(.int p0), (.int p1)] h0 (fun v h => v = some (.int (f_min p0 p1)) ∧ h = h0) := by
  refine metN (by first | exact plainFor_of_name (by first | (simp [plainName, overriddenIn]; done) | decide +kernel) | decide +kernel) Z0 (Ls := #[.val (.int p0), .val (.int p1)]) (fun m => by first | (simp [entryFrame, mkF, argsToLocals, Value.category]; done) | rfl) ?_
  intro p e s m below meth c T0 hx hby hml hret hlk hown hnm hZ N0
  refine Ends.go (f' := (mkF m 1 #[.val (.int p0), .val (.int p1)] [(.int p0)])) (fun t k => XS.iloadN N0.here hx rfl (hb hby d14_0) rfl k) ?_
  refine Ends.go (f' := (mkF m 2 #[.val (.int p0), .val (.int p1)] [(.int p1), (.int p0)])) (fun t k => XS.iloadN N0.here hx rfl (hb hby d14_1) rfl k) ?_
  by_cases c1 : p1 < p0
  · refine Ends.go (f' := (mkF m 9 #[.val (.int p0), .val (.int p1)] [])) (fun t k => XS.icmpYes N0.here hx rfl (pc0 := 2) (pc' := 9) rfl (hb hby d14_2) rfl (XT.ii_gt_t c1) (by decide) (by decide) k) ?_
    refine Ends.go (f' := (mkF m 10 #[.val (.int p0), .val (.int p1)] [(.int p1)])) (fun t k => XS.iloadN N0.here hx rfl (hb hby d14_9) rfl k) ?_
    exact retI N0 hx hlk hret (hb hby d14_10) ⟨by simp only [f_min, if_pos c1], rfl⟩ (nle rfl) (nle rfl)
  · refine Ends.go (f' := (mkF m 5 #[.val (.int p0), .val (.int p1)] [])) (fun t k => XS.icmpNo N0.here hx rfl (hb hby d14_2) rfl (XT.ii_gt_f c1) k) ?_
    refine Ends.go (f' := (mkF m 6 #[.val (.int p0), .val (.int p1)] [(.int p0)])) (fun t k => XS.iloadN N0.here hx rfl (hb hby d14_5) rfl k) ?_
    refine Ends.go (f' := (mkF m 10 #[.val (.int p0), .val (.int p1)] [(.int p0)])) (fun t k => XS.goto N0.here hx rfl (pc0 := 6) (pc' := 10) rfl (hb hby d14_6) (by decide) (by decide) k) ?_
    exact retI N0 hx hlk hret (hb hby d14_10) ⟨by simp only [f_min, if_neg c1], rfl⟩ (nle rfl) (nle rfl)
theorem d10_0 : decode method_6_code 0 = .ok (.iload_n 0, 1) := by decide +kernel
theorem d10_1 : decode method_6_code 1 = .ok (.ifCond .ne 7, 3) := by decide +kernel
theorem d10_4 : decode method_6_code 4 = .ok (.ldc2_w 12, 3) := by decide +kernel
theorem d10_7 : decode method_6_code 7 = .ok (.lreturn, 1) := by decide +kernel
theorem d10_8 : decode method_6_code 8 = .ok (.iload_n 0, 1) := by decide +kernel
theorem d10_9 : decode method_6_code 9 = .ok (.iload 6, 2) := by decide +kernel
theorem d10_11 : decode method_6_code 11 = .ok (.if_icmp .gt 9, 3) := by decide +kernel
theorem d10_14 : decode method_6_code 14 = .ok (.iload_n 0, 1) := by decide +kernel
theorem d10_15 : decode method_6_code 15 = .ok (.bipush 18, 2) := by decide +kernel
theorem d10_17 : decode method_6_code 17 = .ok (.if_icmp .le 7, 3) := by decide +kernel
theorem d10_20 : decode method_6_code 20 = .ok (.ldc2_w 12, 3) := by decide +kernel
theorem d10_23 : decode method_6_code 23 = .ok (.lreturn, 1) := by decide +kernel
theorem d10_24 : decode method_6_code 24 = .ok (.iload_n 0, 1) := by decide +kernel
theorem d10_25 : decode method_6_code 25 = .ok (.iconst 1, 1) := by decide +kernel
theorem d10_26 : decode method_6_code 26 = .ok (.if_icmp .le 13, 3) := by decide +kernel
theorem d10_29 : decode method_6_code 29 = .ok (.iload_n 1, 1) := by decide +kernel
theorem d10_30 : decode method_6_code 30 = .ok (.bipush 48, 2) := by decide +kernel
theorem d10_32 : decode method_6_code 32 = .ok (.if_icmp .ne 7, 3) := by decide +kernel
theorem d10_35 : decode method_6_code 35 = .ok (.ldc2_w 12, 3) := by decide +kernel
theorem d10_38 : decode method_6_code 38 = .ok (.lreturn, 1) := by decide +kernel
theorem d10_39 : decode method_6_code 39 = .ok (.iload_n 1, 1) := by decide +kernel
theorem d10_40 : decode method_6_code 40 = .ok (.invokestatic 14, 3) := by decide +kernel
theorem d10_43 : decode method_6_code 43 = .ok (.ifCond .ne 7, 3) := by decide +kernel
theorem d10_46 : decode method_6_code 46 = .ok (.ldc2_w 12, 3) := by decide +kernel
theorem d10_49 : decode method_6_code 49 = .ok (.lreturn, 1) := by decide +kernel
theorem d10_50 : decode method_6_code 50 = .ok (.iload_n 1, 1) := by decide +kernel
theorem d10_51 : decode method_6_code 51 = .ok (.bipush 48, 2) := by decide +kernel
theorem d10_53 : decode method_6_code 53 = .ok (.isub, 1) := by decide +kernel
theorem d10_54 : decode method_6_code 54 = .ok (.i2l, 1) := by decide +kernel
theorem d10_55 : decode method_6_code 55 = .ok (.lstore 7, 2) := by decide +kernel
theorem d10_57 : decode method_6_code 57 = .ok (.iload_n 0, 1) := by decide +kernel
theorem d10_58 : decode method_6_code 58 = .ok (.iconst 1, 1) := by decide +kernel
theorem d10_59 : decode method_6_code 59 = .ok (.if_icmp .ne 6, 3) := by decide +kernel
theorem d10_62 : decode method_6_code 62 = .ok (.lload 7, 2) := by decide +kernel
theorem d10_64 : decode method_6_code 64 = .ok (.lreturn, 1) := by decide +kernel
theorem d10_65 : decode method_6_code 65 = .ok (.iload_n 2, 1) := by decide +kernel
theorem d10_66 : decode method_6_code 66 = .ok (.invokestatic 14, 3) := by decide +kernel
theorem d10_69 : decode method_6_code 69 = .ok (.ifCond .ne 7, 3) := by decide +kernel
theorem d10_72 : decode method_6_code 72 = .ok (.ldc2_w 12, 3) := by decide +kernel
theorem d10_75 : decode method_6_code 75 = .ok (.lreturn, 1) := by decide +kernel
theorem d10_76 : decode method_6_code 76 = .ok (.iload_n 2, 1) := by decide +kernel
theorem d10_77 : decode method_6_code 77 = .ok (.bipush 48, 2) := by decide +kernel
theorem d10_79 : decode method_6_code 79 = .ok (.isub, 1) := by decide +kernel
theorem d10_80 : decode method_6_code 80 = .ok (.i2l, 1) := by decide +kernel
theorem d10_81 : decode method_6_code 81 = .ok (.lstore 9, 2) := by decide +kernel
theorem d10_83 : decode method_6_code 83 = .ok (.iload_n 0, 1) := by decide +kernel
theorem d10_84 : decode method_6_code 84 = .ok (.iconst 2, 1) := by decide +kernel
theorem d10_85 : decode method_6_code 85 = .ok (.if_icmp .ne 13, 3) := by decide +kernel
theorem d10_88 : decode method_6_code 88 = .ok (.lload 7, 2) := by decide +kernel
theorem d10_90 : decode method_6_code 90 = .ok (.ldc2_w 20, 3) := by decide +kernel
theorem d10_93 : decode method_6_code 93 = .ok (.lmul, 1) := by decide +kernel
theorem d10_94 : decode method_6_code 94 = .ok (.lload 9, 2) := by decide +kernel
theorem d10_96 : decode method_6_code 96 = .ok (.ladd, 1) := by decide +kernel
theorem d10_97 : decode method_6_code 97 = .ok (.lreturn, 1) := by decide +kernel
theorem d10_98 : decode method_6_code 98 = .ok (.iload_n 3, 1) := by decide +kernel
theorem d10_99 : decode method_6_code 99 = .ok (.invokestatic 14, 3) := by decide +kernel
theorem d10_102 : decode method_6_code 102 = .ok (.ifCond .ne 7, 3) := by decide +kernel
theorem d10_105 : decode method_6_code 105 = .ok (.ldc2_w 12, 3) := by decide +kernel
theorem d10_108 : decode method_6_code 108 = .ok (.lreturn, 1) := by decide +kernel
theorem d10_109 : decode method_6_code 109 = .ok (.iload_n 3, 1) := by decide +kernel
theorem d10_110 : decode method_6_code 110 = .ok (.bipush 48, 2) := by decide +kernel
theorem d10_112 : decode method_6_code 112 = .ok (.isub, 1) := by decide +kernel
theorem d10_113 : decode method_6_code 113 = .ok (.i2l, 1) := by decide +kernel
theorem d10_114 : decode method_6_code 114 = .ok (.lstore 11, 2) := by decide +kernel
theorem d10_116 : decode method_6_code 116 = .ok (.lload 7, 2) := by decide +kernel
theorem d10_118 : decode method_6_code 118 = .ok (.ldc2_w 22, 3) := by decide +kernel
theorem d10_121 : decode method_6_code 121 = .ok (.lmul, 1) := by decide +kernel
theorem d10_122 : decode method_6_code 122 = .ok (.lload 9, 2) := by decide +kernel
theorem d10_124 : decode method_6_code 124 = .ok (.ldc2_w 20, 3) := by decide +kernel
theorem d10_127 : decode method_6_code 127 = .ok (.lmul, 1) := by decide +kernel
theorem d10_128 : decode method_6_code 128 = .ok (.ladd, 1) := by decide +kernel
theorem d10_129 : decode method_6_code 129 = .ok (.lload 11, 2) := by decide +kernel
theorem d10_131 : decode method_6_code 131 = .ok (.ladd, 1) := by decide +kernel
theorem d10_132 : decode method_6_code 132 = .ok (.lstore 13, 2) := by decide +kernel
theorem d10_134 : decode method_6_code 134 = .ok (.iload_n 0, 1) := by decide +kernel
theorem d10_135 : decode method_6_code 135 = .ok (.iconst 3, 1) := by decide +kernel
theorem d10_136 : decode method_6_code 136 = .ok (.if_icmp .ne 6, 3) := by decide +kernel
theorem d10_139 : decode method_6_code 139 = .ok (.lload 13, 2) := by decide +kernel
theorem d10_141 : decode method_6_code 141 = .ok (.lreturn, 1) := by decide +kernel
theorem d10_142 : decode method_6_code 142 = .ok (.iload 4, 2) := by decide +kernel
theorem d10_144 : decode method_6_code 144 = .ok (.invokestatic 14, 3) := by decide +kernel
theorem d10_147 : decode method_6_code 147 = .ok (.ifCond .ne 7, 3) := by decide +kernel
theorem d10_150 : decode method_6_code 150 = .ok (.ldc2_w 12, 3) := by decide +kernel
theorem d10_153 : decode method_6_code 153 = .ok (.lreturn, 1) := by decide +kernel
theorem d10_154 : decode method_6_code 154 = .ok (.iload 4, 2) := by decide +kernel
theorem d10_156 : decode method_6_code 156 = .ok (.bipush 48, 2) := by decide +kernel
theorem d10_158 : decode method_6_code 158 = .ok (.isub, 1) := by decide +kernel
theorem d10_159 : decode method_6_code 159 = .ok (.i2l, 1) := by decide +kernel
theorem d10_160 : decode method_6_code 160 = .ok (.lstore 15, 2) := by decide +kernel
theorem d10_162 : decode method_6_code 162 = .ok (.iload_n 0, 1) := by decide +kernel
theorem d10_163 : decode method_6_code 163 = .ok (.iconst 4, 1) := by decide +kernel
theorem d10_164 : decode method_6_code 164 = .ok (.isub, 1) := by decide +kernel
theorem d10_165 : decode method_6_code 165 = .ok (.istore 17, 2) := by decide +kernel
theorem d10_167 : decode method_6_code 167 = .ok (.iload 17, 2) := by decide +kernel
theorem d10_169 : decode method_6_code 169 = .ok (.ifCond .le 15, 3) := by decide +kernel
theorem d10_172 : decode method_6_code 172 = .ok (.iload 5, 2) := by decide +kernel
theorem d10_174 : decode method_6_code 174 = .ok (.invokestatic 14, 3) := by decide +kernel
theorem d10_177 : decode method_6_code 177 = .ok (.ifCond .ne 7, 3) := by decide +kernel
theorem d10_180 : decode method_6_code 180 = .ok (.ldc2_w 12, 3) := by decide +kernel
theorem d10_183 : decode method_6_code 183 = .ok (.lreturn, 1) := by decide +kernel
theorem d10_184 : decode method_6_code 184 = .ok (.iload 5, 2) := by decide +kernel
theorem d10_186 : decode method_6_code 186 = .ok (.bipush 48, 2) := by decide +kernel
theorem d10_188 : decode method_6_code 188 = .ok (.isub, 1) := by decide +kernel
theorem d10_189 : decode method_6_code 189 = .ok (.i2l, 1) := by decide +kernel
theorem d10_190 : decode method_6_code 190 = .ok (.lstore 18, 2) := by decide +kernel
theorem d10_192 : decode method_6_code 192 = .ok (.lconst 1, 1) := by decide +kernel
theorem d10_193 : decode method_6_code 193 = .ok (.lstore 20, 2) := by decide +kernel
theorem d10_195 : decode method_6_code 195 = .ok (.iload 17, 2) := by decide +kernel
theorem d10_197 : decode method_6_code 197 = .ok (.iconst 1, 1) := by decide +kernel
theorem d10_198 : decode method_6_code 198 = .ok (.if_icmp .ne 8, 3) := by decide +kernel
theorem d10_201 : decode method_6_code 201 = .ok (.ldc2_w 20, 3) := by decide +kernel
theorem d10_204 : decode method_6_code 204 = .ok (.lstore 20, 2) := by decide +kernel
theorem d10_206 : decode method_6_code 206 = .ok (.iload 17, 2) := by decide +kernel
theorem d10_208 : decode method_6_code 208 = .ok (.bipush 14, 2) := by decide +kernel
theorem d10_210 : decode method_6_code 210 = .ok (.if_icmp .ne 8, 3) := by decide +kernel
theorem d10_213 : decode method_6_code 213 = .ok (.ldc2_w 24, 3) := by decide +kernel
theorem d10_216 : decode method_6_code 216 = .ok (.lstore 20, 2) := by decide +kernel
theorem d10_218 : decode method_6_code 218 = .ok (.lload 13, 2) := by decide +kernel
theorem d10_220 : decode method_6_code 220 = .ok (.lload 20, 2) := by decide +kernel
theorem d10_222 : decode method_6_code 222 = .ok (.lmul, 1) := by decide +kernel
theorem d10_223 : decode method_6_code 223 = .ok (.lload 20, 2) := by decide +kernel
theorem d10_225 : decode method_6_code 225 = .ok (.lconst 1, 1) := by decide +kernel
theorem d10_226 : decode method_6_code 226 = .ok (.lsub, 1) := by decide +kernel
theorem d10_227 : decode method_6_code 227 = .ok (.ldc2_w 26, 3) := by decide +kernel
theorem d10_230 : decode method_6_code 230 = .ok (.ldiv, 1) := by decide +kernel
theorem d10_231 : decode method_6_code 231 = .ok (.lload 18, 2) := by decide +kernel
theorem d10_233 : decode method_6_code 233 = .ok (.lmul, 1) := by decide +kernel
theorem d10_234 : decode method_6_code 234 = .ok (.ladd, 1) := by decide +kernel
theorem d10_235 : decode method_6_code 235 = .ok (.ldc2_w 20, 3) := by decide +kernel
theorem d10_238 : decode method_6_code 238 = .ok (.lmul, 1) := by decide +kernel
theorem d10_239 : decode method_6_code 239 = .ok (.lload 15, 2) := by decide +kernel
theorem d10_241 : decode method_6_code 241 = .ok (.ladd, 1) := by decide +kernel
theorem d10_242 : decode method_6_code 242 = .ok (.lreturn, 1) := by decide +kernel
def f_exp_218 (p0 : Int32) (p1 : Int32) (p2 : Int32) (p3 : Int32) (p4 : Int32) (p5 : Int32) (p6 : Int32) (v20 : Int64) : Int64 := ((((((((((p1 - (48 : Int32))).toInt64) * (100 : Int64)) + ((((p2 - (48 : Int32))).toInt64) * (10 : Int64))) + (((p3 - (48 : Int32))).toInt64)) * v20) + (((v20 - (1 : Int64)) / (9 : Int64)) * (((p5 - (48 : Int32))).toInt64))) * (10 : Int64)) + (((p4 - (48 : Int32))).toInt64))
def f_exp_206 (p0 : Int32) (p1 : Int32) (p2 : Int32) (p3 : Int32) (p4 : Int32) (p5 : Int32) (p6 : Int32) (v20 : Int64) : Int64 := (if (p0 - (4 : Int32)) = (14 : Int32) then (f_exp_218 p0 p1 p2 p3 p4 p5 p6 (100000000000000 : Int64)) else (f_exp_218 p0 p1 p2 p3 p4 p5 p6 v20))
def f_exp_184 (p0 : Int32) (p1 : Int32) (p2 : Int32) (p3 : Int32) (p4 : Int32) (p5 : Int32) (p6 : Int32) : Int64 := (if (p0 - (4 : Int32)) = (1 : Int32) then (f_exp_206 p0 p1 p2 p3 p4 p5 p6 (10 : Int64)) else (f_exp_206 p0 p1 p2 p3 p4 p5 p6 (1 : Int64)))
def f_exp_39 (p0 : Int32) (p1 : Int32) (p2 : Int32) (p3 : Int32) (p4 : Int32) (p5 : Int32) (p6 : Int32) : Int64 := (if (f_dig p1) = 0 then (-1 : Int64) else (if p0 = (1 : Int32) then (((p1 - (48 : Int32))).toInt64) else (if (f_dig p2) = 0 then (-1 : Int64) else (if p0 = (2 : Int32) then (((((p1 - (48 : Int32))).toInt64) * (10 : Int64)) + (((p2 - (48 : Int32))).toInt64)) else (if (f_dig p3) = 0 then (-1 : Int64) else (if p0 = (3 : Int32) then ((((((p1 - (48 : Int32))).toInt64) * (100 : Int64)) + ((((p2 - (48 : Int32))).toInt64) * (10 : Int64))) + (((p3 - (48 : Int32))).toInt64)) else (if (f_dig p4) = 0 then (-1 : Int64) else (if 0 < (p0 - (4 : Int32)) then (if (f_dig p5) = 0 then (-1 : Int64) else (f_exp_184 p0 p1 p2 p3 p4 p5 p6)) else (f_exp_184 p0 p1 p2 p3 p4 p5 p6)))))))))
def f_exp (p0 : Int32) (p1 : Int32) (p2 : Int32) (p3 : Int32) (p4 : Int32) (p5 : Int32) (p6 : Int32) : Int64 := (if p0 = 0 then (-1 : Int64) else (if p6 < p0 then (-1 : Int64) else (if (18 : Int32) < p0 then (-1 : Int64) else (if (1 : Int32) < p0 then (if p1 = (48 : Int32) then (-1 : Int64) else (f_exp_39 p0 p1 p2 p3 p4 p5 p6)) else (f_exp_39 p0 p1 p2 p3 p4 p5 p6)))))
set_option maxRecDepth 65536 in
set_option maxHeartbeats 40000000 in
theorem rm10 (l : Launch) (Z : State) (a0 : Array Value) (hw : ∀ d ∈ tables_1, d.before a0 Z = true) (p0 : Int32) (p1 : Int32) (p2 : Int32) (p3 : Int32) (p4 : Int32) (p5 : Int32) (p6 : Int32) (h0 : Heap) (Z0 : Ext Z.heap h0) :
    MetN l Z (⟨"com/example/askel/askel/DecimalParsePinLaw", "expect", "(ICCCCCI)J"⟩ : MethodName) method_6_code 22 (some .long) [] ({ frames := 1, cells := 0, slots := 0, locals := 12 } : Room) #[(.int p0), (.int p1), (.int p2), (.int p3), (.int p4), (.int p5), (.int p6)] h0 (fun v h => v = some (.long (f_exp p0 p1 p2 p3 p4 p5 p6)) ∧ h = h0) := by
  refine metN (by first | exact plainFor_of_name (by first | (simp [plainName, overriddenIn]; done) | decide +kernel) | decide +kernel) Z0 (Ls := #[.val (.int p0), .val (.int p1), .val (.int p2), .val (.int p3), .val (.int p4), .val (.int p5), .val (.int p6), .unset, .unset, .unset, .unset, .unset, .unset, .unset, .unset, .unset, .unset, .unset, .unset, .unset, .unset, .unset]) (fun m => by first | (simp [entryFrame, mkF, argsToLocals, Value.category]; done) | rfl) ?_
  intro p e s m below meth c T0 hx hby hml hret hlk hown hnm hZ N0
  have j218 : ∀ (T1 : State) (v20 : Int64), Now p l e ({ frames := 1, cells := 0, slots := 0, locals := 12 } : Room) s m #[(.int p0), (.int p1), (.int p2), (.int p3), (.int p4), (.int p5), (.int p6)] below meth c Z T1 h0 0 0 → f_exp p0 p1 p2 p3 p4 p5 p6 = f_exp_218 p0 p1 p2 p3 p4 p5 p6 v20 → Ends p e below (PhiN Z s (fun v h => v = some (.long (f_exp p0 p1 p2 p3 p4 p5 p6)) ∧ h = h0) ({ frames := 1, cells := 0, slots := 0, locals := 12 } : Room).cells ({ frames := 1, cells := 0, slots := 0, locals := 12 } : Room).slots) T1 (mkF m 218 #[.val (.int p0), .val (.int p1), .val (.int p2), .val (.int p3), .val (.int p4), .val (.int p5), .val (.int p6), .val (.long (((p1 - (48 : Int32))).toInt64)), .second, .val (.long (((p2 - (48 : Int32))).toInt64)), .second, .val (.long (((p3 - (48 : Int32))).toInt64)), .second, .val (.long ((((((p1 - (48 : Int32))).toInt64) * (100 : Int64)) + ((((p2 - (48 : Int32))).toInt64) * (10 : Int64))) + (((p3 - (48 : Int32))).toInt64))), .second, .val (.long (((p4 - (48 : Int32))).toInt64)), .second, .val (.int (p0 - (4 : Int32))), .val (.long (((p5 - (48 : Int32))).toInt64)), .second, .val (.long v20), .second] []) := by
    intro T1 v20 N1 hv
    refine Ends.go (f' := (mkF m 220 #[.val (.int p0), .val (.int p1), .val (.int p2), .val (.int p3), .val (.int p4), .val (.int p5), .val (.int p6), .val (.long (((p1 - (48 : Int32))).toInt64)), .second, .val (.long (((p2 - (48 : Int32))).toInt64)), .second, .val (.long (((p3 - (48 : Int32))).toInt64)), .second, .val (.long ((((((p1 - (48 : Int32))).toInt64) * (100 : Int64)) + ((((p2 - (48 : Int32))).toInt64) * (10 : Int64))) + (((p3 - (48 : Int32))).toInt64))), .second, .val (.long (((p4 - (48 : Int32))).toInt64)), .second, .val (.int (p0 - (4 : Int32))), .val (.long (((p5 - (48 : Int32))).toInt64)), .second, .val (.long v20), .second] [(.long ((((((p1 - (48 : Int32))).toInt64) * (100 : Int64)) + ((((p2 - (48 : Int32))).toInt64) * (10 : Int64))) + (((p3 - (48 : Int32))).toInt64)))])) (fun t k => XT.lload N1.here hx rfl (hb hby d10_218) rfl k) ?_
    refine Ends.go (f' := (mkF m 222 #[.val (.int p0), .val (.int p1), .val (.int p2), .val (.int p3), .val (.int p4), .val (.int p5), .val (.int p6), .val (.long (((p1 - (48 : Int32))).toInt64)), .second, .val (.long (((p2 - (48 : Int32))).toInt64)), .second, .val (.long (((p3 - (48 : Int32))).toInt64)), .second, .val (.long ((((((p1 - (48 : Int32))).toInt64) * (100 : Int64)) + ((((p2 - (48 : Int32))).toInt64) * (10 : Int64))) + (((p3 - (48 : Int32))).toInt64))), .second, .val (.long (((p4 - (48 : Int32))).toInt64)), .second, .val (.int (p0 - (4 : Int32))), .val (.long (((p5 - (48 : Int32))).toInt64)), .second, .val (.long v20), .second] [(.long v20), (.long ((((((p1 - (48 : Int32))).toInt64) * (100 : Int64)) + ((((p2 - (48 : Int32))).toInt64) * (10 : Int64))) + (((p3 - (48 : Int32))).toInt64)))])) (fun t k => XT.lload N1.here hx rfl (hb hby d10_220) rfl k) ?_
    refine Ends.go (f' := (mkF m 223 #[.val (.int p0), .val (.int p1), .val (.int p2), .val (.int p3), .val (.int p4), .val (.int p5), .val (.int p6), .val (.long (((p1 - (48 : Int32))).toInt64)), .second, .val (.long (((p2 - (48 : Int32))).toInt64)), .second, .val (.long (((p3 - (48 : Int32))).toInt64)), .second, .val (.long ((((((p1 - (48 : Int32))).toInt64) * (100 : Int64)) + ((((p2 - (48 : Int32))).toInt64) * (10 : Int64))) + (((p3 - (48 : Int32))).toInt64))), .second, .val (.long (((p4 - (48 : Int32))).toInt64)), .second, .val (.int (p0 - (4 : Int32))), .val (.long (((p5 - (48 : Int32))).toInt64)), .second, .val (.long v20), .second] [(.long (((((((p1 - (48 : Int32))).toInt64) * (100 : Int64)) + ((((p2 - (48 : Int32))).toInt64) * (10 : Int64))) + (((p3 - (48 : Int32))).toInt64)) * v20))])) (fun t k => XT.lmul N1.here hx rfl (hb hby d10_222) rfl k) ?_
    refine Ends.go (f' := (mkF m 225 #[.val (.int p0), .val (.int p1), .val (.int p2), .val (.int p3), .val (.int p4), .val (.int p5), .val (.int p6), .val (.long (((p1 - (48 : Int32))).toInt64)), .second, .val (.long (((p2 - (48 : Int32))).toInt64)), .second, .val (.long (((p3 - (48 : Int32))).toInt64)), .second, .val (.long ((((((p1 - (48 : Int32))).toInt64) * (100 : Int64)) + ((((p2 - (48 : Int32))).toInt64) * (10 : Int64))) + (((p3 - (48 : Int32))).toInt64))), .second, .val (.long (((p4 - (48 : Int32))).toInt64)), .second, .val (.int (p0 - (4 : Int32))), .val (.long (((p5 - (48 : Int32))).toInt64)), .second, .val (.long v20), .second] [(.long v20), (.long (((((((p1 - (48 : Int32))).toInt64) * (100 : Int64)) + ((((p2 - (48 : Int32))).toInt64) * (10 : Int64))) + (((p3 - (48 : Int32))).toInt64)) * v20))])) (fun t k => XT.lload N1.here hx rfl (hb hby d10_223) rfl k) ?_
    refine Ends.go (f' := (mkF m 226 #[.val (.int p0), .val (.int p1), .val (.int p2), .val (.int p3), .val (.int p4), .val (.int p5), .val (.int p6), .val (.long (((p1 - (48 : Int32))).toInt64)), .second, .val (.long (((p2 - (48 : Int32))).toInt64)), .second, .val (.long (((p3 - (48 : Int32))).toInt64)), .second, .val (.long ((((((p1 - (48 : Int32))).toInt64) * (100 : Int64)) + ((((p2 - (48 : Int32))).toInt64) * (10 : Int64))) + (((p3 - (48 : Int32))).toInt64))), .second, .val (.long (((p4 - (48 : Int32))).toInt64)), .second, .val (.int (p0 - (4 : Int32))), .val (.long (((p5 - (48 : Int32))).toInt64)), .second, .val (.long v20), .second] [(.long (1 : Int64)), (.long v20), (.long (((((((p1 - (48 : Int32))).toInt64) * (100 : Int64)) + ((((p2 - (48 : Int32))).toInt64) * (10 : Int64))) + (((p3 - (48 : Int32))).toInt64)) * v20))])) (fun t k => XT.lconst N1.here hx rfl (hb hby d10_225) k) ?_
    refine Ends.go (f' := (mkF m 227 #[.val (.int p0), .val (.int p1), .val (.int p2), .val (.int p3), .val (.int p4), .val (.int p5), .val (.int p6), .val (.long (((p1 - (48 : Int32))).toInt64)), .second, .val (.long (((p2 - (48 : Int32))).toInt64)), .second, .val (.long (((p3 - (48 : Int32))).toInt64)), .second, .val (.long ((((((p1 - (48 : Int32))).toInt64) * (100 : Int64)) + ((((p2 - (48 : Int32))).toInt64) * (10 : Int64))) + (((p3 - (48 : Int32))).toInt64))), .second, .val (.long (((p4 - (48 : Int32))).toInt64)), .second, .val (.int (p0 - (4 : Int32))), .val (.long (((p5 - (48 : Int32))).toInt64)), .second, .val (.long v20), .second] [(.long (v20 - (1 : Int64))), (.long (((((((p1 - (48 : Int32))).toInt64) * (100 : Int64)) + ((((p2 - (48 : Int32))).toInt64) * (10 : Int64))) + (((p3 - (48 : Int32))).toInt64)) * v20))])) (fun t k => XT.lsub N1.here hx rfl (hb hby d10_226) rfl k) ?_
    refine gLdcJ N1 hx hZ hown (hw _ (List.mem_of_getElem? (i := 101) rfl)) (hb hby d10_227) ?_
    show Ends p e below _ T1 (mkF m 230 #[.val (.int p0), .val (.int p1), .val (.int p2), .val (.int p3), .val (.int p4), .val (.int p5), .val (.int p6), .val (.long (((p1 - (48 : Int32))).toInt64)), .second, .val (.long (((p2 - (48 : Int32))).toInt64)), .second, .val (.long (((p3 - (48 : Int32))).toInt64)), .second, .val (.long ((((((p1 - (48 : Int32))).toInt64) * (100 : Int64)) + ((((p2 - (48 : Int32))).toInt64) * (10 : Int64))) + (((p3 - (48 : Int32))).toInt64))), .second, .val (.long (((p4 - (48 : Int32))).toInt64)), .second, .val (.int (p0 - (4 : Int32))), .val (.long (((p5 - (48 : Int32))).toInt64)), .second, .val (.long v20), .second] [(.long (9 : Int64)), (.long (v20 - (1 : Int64))), (.long (((((((p1 - (48 : Int32))).toInt64) * (100 : Int64)) + ((((p2 - (48 : Int32))).toInt64) * (10 : Int64))) + (((p3 - (48 : Int32))).toInt64)) * v20))])
    refine Ends.go (f' := (mkF m 231 #[.val (.int p0), .val (.int p1), .val (.int p2), .val (.int p3), .val (.int p4), .val (.int p5), .val (.int p6), .val (.long (((p1 - (48 : Int32))).toInt64)), .second, .val (.long (((p2 - (48 : Int32))).toInt64)), .second, .val (.long (((p3 - (48 : Int32))).toInt64)), .second, .val (.long ((((((p1 - (48 : Int32))).toInt64) * (100 : Int64)) + ((((p2 - (48 : Int32))).toInt64) * (10 : Int64))) + (((p3 - (48 : Int32))).toInt64))), .second, .val (.long (((p4 - (48 : Int32))).toInt64)), .second, .val (.int (p0 - (4 : Int32))), .val (.long (((p5 - (48 : Int32))).toInt64)), .second, .val (.long v20), .second] [(.long ((v20 - (1 : Int64)) / (9 : Int64))), (.long (((((((p1 - (48 : Int32))).toInt64) * (100 : Int64)) + ((((p2 - (48 : Int32))).toInt64) * (10 : Int64))) + (((p3 - (48 : Int32))).toInt64)) * v20))])) (fun t k => XT.ldiv N1.here hx rfl (hb hby d10_230) rfl (by decide) k) ?_
    refine Ends.go (f' := (mkF m 233 #[.val (.int p0), .val (.int p1), .val (.int p2), .val (.int p3), .val (.int p4), .val (.int p5), .val (.int p6), .val (.long (((p1 - (48 : Int32))).toInt64)), .second, .val (.long (((p2 - (48 : Int32))).toInt64)), .second, .val (.long (((p3 - (48 : Int32))).toInt64)), .second, .val (.long ((((((p1 - (48 : Int32))).toInt64) * (100 : Int64)) + ((((p2 - (48 : Int32))).toInt64) * (10 : Int64))) + (((p3 - (48 : Int32))).toInt64))), .second, .val (.long (((p4 - (48 : Int32))).toInt64)), .second, .val (.int (p0 - (4 : Int32))), .val (.long (((p5 - (48 : Int32))).toInt64)), .second, .val (.long v20), .second] [(.long (((p5 - (48 : Int32))).toInt64)), (.long ((v20 - (1 : Int64)) / (9 : Int64))), (.long (((((((p1 - (48 : Int32))).toInt64) * (100 : Int64)) + ((((p2 - (48 : Int32))).toInt64) * (10 : Int64))) + (((p3 - (48 : Int32))).toInt64)) * v20))])) (fun t k => XT.lload N1.here hx rfl (hb hby d10_231) rfl k) ?_
    refine Ends.go (f' := (mkF m 234 #[.val (.int p0), .val (.int p1), .val (.int p2), .val (.int p3), .val (.int p4), .val (.int p5), .val (.int p6), .val (.long (((p1 - (48 : Int32))).toInt64)), .second, .val (.long (((p2 - (48 : Int32))).toInt64)), .second, .val (.long (((p3 - (48 : Int32))).toInt64)), .second, .val (.long ((((((p1 - (48 : Int32))).toInt64) * (100 : Int64)) + ((((p2 - (48 : Int32))).toInt64) * (10 : Int64))) + (((p3 - (48 : Int32))).toInt64))), .second, .val (.long (((p4 - (48 : Int32))).toInt64)), .second, .val (.int (p0 - (4 : Int32))), .val (.long (((p5 - (48 : Int32))).toInt64)), .second, .val (.long v20), .second] [(.long (((v20 - (1 : Int64)) / (9 : Int64)) * (((p5 - (48 : Int32))).toInt64))), (.long (((((((p1 - (48 : Int32))).toInt64) * (100 : Int64)) + ((((p2 - (48 : Int32))).toInt64) * (10 : Int64))) + (((p3 - (48 : Int32))).toInt64)) * v20))])) (fun t k => XT.lmul N1.here hx rfl (hb hby d10_233) rfl k) ?_
    refine Ends.go (f' := (mkF m 235 #[.val (.int p0), .val (.int p1), .val (.int p2), .val (.int p3), .val (.int p4), .val (.int p5), .val (.int p6), .val (.long (((p1 - (48 : Int32))).toInt64)), .second, .val (.long (((p2 - (48 : Int32))).toInt64)), .second, .val (.long (((p3 - (48 : Int32))).toInt64)), .second, .val (.long ((((((p1 - (48 : Int32))).toInt64) * (100 : Int64)) + ((((p2 - (48 : Int32))).toInt64) * (10 : Int64))) + (((p3 - (48 : Int32))).toInt64))), .second, .val (.long (((p4 - (48 : Int32))).toInt64)), .second, .val (.int (p0 - (4 : Int32))), .val (.long (((p5 - (48 : Int32))).toInt64)), .second, .val (.long v20), .second] [(.long ((((((((p1 - (48 : Int32))).toInt64) * (100 : Int64)) + ((((p2 - (48 : Int32))).toInt64) * (10 : Int64))) + (((p3 - (48 : Int32))).toInt64)) * v20) + (((v20 - (1 : Int64)) / (9 : Int64)) * (((p5 - (48 : Int32))).toInt64))))])) (fun t k => XT.ladd N1.here hx rfl (hb hby d10_234) rfl k) ?_
    refine gLdcJ N1 hx hZ hown (hw _ (List.mem_of_getElem? (i := 99) rfl)) (hb hby d10_235) ?_
    show Ends p e below _ T1 (mkF m 238 #[.val (.int p0), .val (.int p1), .val (.int p2), .val (.int p3), .val (.int p4), .val (.int p5), .val (.int p6), .val (.long (((p1 - (48 : Int32))).toInt64)), .second, .val (.long (((p2 - (48 : Int32))).toInt64)), .second, .val (.long (((p3 - (48 : Int32))).toInt64)), .second, .val (.long ((((((p1 - (48 : Int32))).toInt64) * (100 : Int64)) + ((((p2 - (48 : Int32))).toInt64) * (10 : Int64))) + (((p3 - (48 : Int32))).toInt64))), .second, .val (.long (((p4 - (48 : Int32))).toInt64)), .second, .val (.int (p0 - (4 : Int32))), .val (.long (((p5 - (48 : Int32))).toInt64)), .second, .val (.long v20), .second] [(.long (10 : Int64)), (.long ((((((((p1 - (48 : Int32))).toInt64) * (100 : Int64)) + ((((p2 - (48 : Int32))).toInt64) * (10 : Int64))) + (((p3 - (48 : Int32))).toInt64)) * v20) + (((v20 - (1 : Int64)) / (9 : Int64)) * (((p5 - (48 : Int32))).toInt64))))])
    refine Ends.go (f' := (mkF m 239 #[.val (.int p0), .val (.int p1), .val (.int p2), .val (.int p3), .val (.int p4), .val (.int p5), .val (.int p6), .val (.long (((p1 - (48 : Int32))).toInt64)), .second, .val (.long (((p2 - (48 : Int32))).toInt64)), .second, .val (.long (((p3 - (48 : Int32))).toInt64)), .second, .val (.long ((((((p1 - (48 : Int32))).toInt64) * (100 : Int64)) + ((((p2 - (48 : Int32))).toInt64) * (10 : Int64))) + (((p3 - (48 : Int32))).toInt64))), .second, .val (.long (((p4 - (48 : Int32))).toInt64)), .second, .val (.int (p0 - (4 : Int32))), .val (.long (((p5 - (48 : Int32))).toInt64)), .second, .val (.long v20), .second] [(.long (((((((((p1 - (48 : Int32))).toInt64) * (100 : Int64)) + ((((p2 - (48 : Int32))).toInt64) * (10 : Int64))) + (((p3 - (48 : Int32))).toInt64)) * v20) + (((v20 - (1 : Int64)) / (9 : Int64)) * (((p5 - (48 : Int32))).toInt64))) * (10 : Int64)))])) (fun t k => XT.lmul N1.here hx rfl (hb hby d10_238) rfl k) ?_
    refine Ends.go (f' := (mkF m 241 #[.val (.int p0), .val (.int p1), .val (.int p2), .val (.int p3), .val (.int p4), .val (.int p5), .val (.int p6), .val (.long (((p1 - (48 : Int32))).toInt64)), .second, .val (.long (((p2 - (48 : Int32))).toInt64)), .second, .val (.long (((p3 - (48 : Int32))).toInt64)), .second, .val (.long ((((((p1 - (48 : Int32))).toInt64) * (100 : Int64)) + ((((p2 - (48 : Int32))).toInt64) * (10 : Int64))) + (((p3 - (48 : Int32))).toInt64))), .second, .val (.long (((p4 - (48 : Int32))).toInt64)), .second, .val (.int (p0 - (4 : Int32))), .val (.long (((p5 - (48 : Int32))).toInt64)), .second, .val (.long v20), .second] [(.long (((p4 - (48 : Int32))).toInt64)), (.long (((((((((p1 - (48 : Int32))).toInt64) * (100 : Int64)) + ((((p2 - (48 : Int32))).toInt64) * (10 : Int64))) + (((p3 - (48 : Int32))).toInt64)) * v20) + (((v20 - (1 : Int64)) / (9 : Int64)) * (((p5 - (48 : Int32))).toInt64))) * (10 : Int64)))])) (fun t k => XT.lload N1.here hx rfl (hb hby d10_239) rfl k) ?_
    refine Ends.go (f' := (mkF m 242 #[.val (.int p0), .val (.int p1), .val (.int p2), .val (.int p3), .val (.int p4), .val (.int p5), .val (.int p6), .val (.long (((p1 - (48 : Int32))).toInt64)), .second, .val (.long (((p2 - (48 : Int32))).toInt64)), .second, .val (.long (((p3 - (48 : Int32))).toInt64)), .second, .val (.long ((((((p1 - (48 : Int32))).toInt64) * (100 : Int64)) + ((((p2 - (48 : Int32))).toInt64) * (10 : Int64))) + (((p3 - (48 : Int32))).toInt64))), .second, .val (.long (((p4 - (48 : Int32))).toInt64)), .second, .val (.int (p0 - (4 : Int32))), .val (.long (((p5 - (48 : Int32))).toInt64)), .second, .val (.long v20), .second] [(.long ((((((((((p1 - (48 : Int32))).toInt64) * (100 : Int64)) + ((((p2 - (48 : Int32))).toInt64) * (10 : Int64))) + (((p3 - (48 : Int32))).toInt64)) * v20) + (((v20 - (1 : Int64)) / (9 : Int64)) * (((p5 - (48 : Int32))).toInt64))) * (10 : Int64)) + (((p4 - (48 : Int32))).toInt64)))])) (fun t k => XT.ladd N1.here hx rfl (hb hby d10_241) rfl k) ?_
    exact retJ N1 hx hlk hret (hb hby d10_242) ⟨by rw [hv]; rfl, rfl⟩ (nle rfl) (nle rfl)
  have j206 : ∀ (T1 : State) (v20 : Int64), Now p l e ({ frames := 1, cells := 0, slots := 0, locals := 12 } : Room) s m #[(.int p0), (.int p1), (.int p2), (.int p3), (.int p4), (.int p5), (.int p6)] below meth c Z T1 h0 0 0 → f_exp p0 p1 p2 p3 p4 p5 p6 = f_exp_206 p0 p1 p2 p3 p4 p5 p6 v20 → Ends p e below (PhiN Z s (fun v h => v = some (.long (f_exp p0 p1 p2 p3 p4 p5 p6)) ∧ h = h0) ({ frames := 1, cells := 0, slots := 0, locals := 12 } : Room).cells ({ frames := 1, cells := 0, slots := 0, locals := 12 } : Room).slots) T1 (mkF m 206 #[.val (.int p0), .val (.int p1), .val (.int p2), .val (.int p3), .val (.int p4), .val (.int p5), .val (.int p6), .val (.long (((p1 - (48 : Int32))).toInt64)), .second, .val (.long (((p2 - (48 : Int32))).toInt64)), .second, .val (.long (((p3 - (48 : Int32))).toInt64)), .second, .val (.long ((((((p1 - (48 : Int32))).toInt64) * (100 : Int64)) + ((((p2 - (48 : Int32))).toInt64) * (10 : Int64))) + (((p3 - (48 : Int32))).toInt64))), .second, .val (.long (((p4 - (48 : Int32))).toInt64)), .second, .val (.int (p0 - (4 : Int32))), .val (.long (((p5 - (48 : Int32))).toInt64)), .second, .val (.long v20), .second] []) := by
    intro T1 v20 N1 hv
    refine Ends.go (f' := (mkF m 208 #[.val (.int p0), .val (.int p1), .val (.int p2), .val (.int p3), .val (.int p4), .val (.int p5), .val (.int p6), .val (.long (((p1 - (48 : Int32))).toInt64)), .second, .val (.long (((p2 - (48 : Int32))).toInt64)), .second, .val (.long (((p3 - (48 : Int32))).toInt64)), .second, .val (.long ((((((p1 - (48 : Int32))).toInt64) * (100 : Int64)) + ((((p2 - (48 : Int32))).toInt64) * (10 : Int64))) + (((p3 - (48 : Int32))).toInt64))), .second, .val (.long (((p4 - (48 : Int32))).toInt64)), .second, .val (.int (p0 - (4 : Int32))), .val (.long (((p5 - (48 : Int32))).toInt64)), .second, .val (.long v20), .second] [(.int (p0 - (4 : Int32)))])) (fun t k => XS.iload N1.here hx rfl (hb hby d10_206) rfl k) ?_
    refine Ends.go (f' := (mkF m 210 #[.val (.int p0), .val (.int p1), .val (.int p2), .val (.int p3), .val (.int p4), .val (.int p5), .val (.int p6), .val (.long (((p1 - (48 : Int32))).toInt64)), .second, .val (.long (((p2 - (48 : Int32))).toInt64)), .second, .val (.long (((p3 - (48 : Int32))).toInt64)), .second, .val (.long ((((((p1 - (48 : Int32))).toInt64) * (100 : Int64)) + ((((p2 - (48 : Int32))).toInt64) * (10 : Int64))) + (((p3 - (48 : Int32))).toInt64))), .second, .val (.long (((p4 - (48 : Int32))).toInt64)), .second, .val (.int (p0 - (4 : Int32))), .val (.long (((p5 - (48 : Int32))).toInt64)), .second, .val (.long v20), .second] [(.int (14 : Int32)), (.int (p0 - (4 : Int32)))])) (fun t k => XS.bipush N1.here hx rfl (hb hby d10_208) k) ?_
    by_cases c41 : (p0 - (4 : Int32)) = (14 : Int32)
    · refine Ends.go (f' := (mkF m 213 #[.val (.int p0), .val (.int p1), .val (.int p2), .val (.int p3), .val (.int p4), .val (.int p5), .val (.int p6), .val (.long (((p1 - (48 : Int32))).toInt64)), .second, .val (.long (((p2 - (48 : Int32))).toInt64)), .second, .val (.long (((p3 - (48 : Int32))).toInt64)), .second, .val (.long ((((((p1 - (48 : Int32))).toInt64) * (100 : Int64)) + ((((p2 - (48 : Int32))).toInt64) * (10 : Int64))) + (((p3 - (48 : Int32))).toInt64))), .second, .val (.long (((p4 - (48 : Int32))).toInt64)), .second, .val (.int (p0 - (4 : Int32))), .val (.long (((p5 - (48 : Int32))).toInt64)), .second, .val (.long v20), .second] [])) (fun t k => XS.icmpNo N1.here hx rfl (hb hby d10_210) rfl (XT.ii_ne_f c41) k) ?_
      refine gLdcJ N1 hx hZ hown (hw _ (List.mem_of_getElem? (i := 102) rfl)) (hb hby d10_213) ?_
      show Ends p e below _ T1 (mkF m 216 #[.val (.int p0), .val (.int p1), .val (.int p2), .val (.int p3), .val (.int p4), .val (.int p5), .val (.int p6), .val (.long (((p1 - (48 : Int32))).toInt64)), .second, .val (.long (((p2 - (48 : Int32))).toInt64)), .second, .val (.long (((p3 - (48 : Int32))).toInt64)), .second, .val (.long ((((((p1 - (48 : Int32))).toInt64) * (100 : Int64)) + ((((p2 - (48 : Int32))).toInt64) * (10 : Int64))) + (((p3 - (48 : Int32))).toInt64))), .second, .val (.long (((p4 - (48 : Int32))).toInt64)), .second, .val (.int (p0 - (4 : Int32))), .val (.long (((p5 - (48 : Int32))).toInt64)), .second, .val (.long v20), .second] [(.long (100000000000000 : Int64))])
      refine Ends.go (f' := (mkF m 218 #[.val (.int p0), .val (.int p1), .val (.int p2), .val (.int p3), .val (.int p4), .val (.int p5), .val (.int p6), .val (.long (((p1 - (48 : Int32))).toInt64)), .second, .val (.long (((p2 - (48 : Int32))).toInt64)), .second, .val (.long (((p3 - (48 : Int32))).toInt64)), .second, .val (.long ((((((p1 - (48 : Int32))).toInt64) * (100 : Int64)) + ((((p2 - (48 : Int32))).toInt64) * (10 : Int64))) + (((p3 - (48 : Int32))).toInt64))), .second, .val (.long (((p4 - (48 : Int32))).toInt64)), .second, .val (.int (p0 - (4 : Int32))), .val (.long (((p5 - (48 : Int32))).toInt64)), .second, .val (.long (100000000000000 : Int64)), .second] [])) (fun t k => XT.lstore N1.here hx rfl (hb hby d10_216) rfl (l' := #[.val (.int p0), .val (.int p1), .val (.int p2), .val (.int p3), .val (.int p4), .val (.int p5), .val (.int p6), .val (.long (((p1 - (48 : Int32))).toInt64)), .second, .val (.long (((p2 - (48 : Int32))).toInt64)), .second, .val (.long (((p3 - (48 : Int32))).toInt64)), .second, .val (.long ((((((p1 - (48 : Int32))).toInt64) * (100 : Int64)) + ((((p2 - (48 : Int32))).toInt64) * (10 : Int64))) + (((p3 - (48 : Int32))).toInt64))), .second, .val (.long (((p4 - (48 : Int32))).toInt64)), .second, .val (.int (p0 - (4 : Int32))), .val (.long (((p5 - (48 : Int32))).toInt64)), .second, .val (.long (100000000000000 : Int64)), .second]) rfl k) ?_
      exact j218 T1 (100000000000000 : Int64) N1 (by rw [hv]; simp only [f_exp_206, if_pos c41])
    · refine Ends.go (f' := (mkF m 218 #[.val (.int p0), .val (.int p1), .val (.int p2), .val (.int p3), .val (.int p4), .val (.int p5), .val (.int p6), .val (.long (((p1 - (48 : Int32))).toInt64)), .second, .val (.long (((p2 - (48 : Int32))).toInt64)), .second, .val (.long (((p3 - (48 : Int32))).toInt64)), .second, .val (.long ((((((p1 - (48 : Int32))).toInt64) * (100 : Int64)) + ((((p2 - (48 : Int32))).toInt64) * (10 : Int64))) + (((p3 - (48 : Int32))).toInt64))), .second, .val (.long (((p4 - (48 : Int32))).toInt64)), .second, .val (.int (p0 - (4 : Int32))), .val (.long (((p5 - (48 : Int32))).toInt64)), .second, .val (.long v20), .second] [])) (fun t k => XS.icmpYes N1.here hx rfl (pc0 := 210) (pc' := 218) rfl (hb hby d10_210) rfl (XT.ii_ne_t c41) (by decide) (by decide) k) ?_
      exact j218 T1 v20 N1 (by rw [hv]; simp only [f_exp_206, if_neg c41])
  have j184 : ∀ (T1 : State), Now p l e ({ frames := 1, cells := 0, slots := 0, locals := 12 } : Room) s m #[(.int p0), (.int p1), (.int p2), (.int p3), (.int p4), (.int p5), (.int p6)] below meth c Z T1 h0 0 0 → f_exp p0 p1 p2 p3 p4 p5 p6 = f_exp_184 p0 p1 p2 p3 p4 p5 p6 → Ends p e below (PhiN Z s (fun v h => v = some (.long (f_exp p0 p1 p2 p3 p4 p5 p6)) ∧ h = h0) ({ frames := 1, cells := 0, slots := 0, locals := 12 } : Room).cells ({ frames := 1, cells := 0, slots := 0, locals := 12 } : Room).slots) T1 (mkF m 184 #[.val (.int p0), .val (.int p1), .val (.int p2), .val (.int p3), .val (.int p4), .val (.int p5), .val (.int p6), .val (.long (((p1 - (48 : Int32))).toInt64)), .second, .val (.long (((p2 - (48 : Int32))).toInt64)), .second, .val (.long (((p3 - (48 : Int32))).toInt64)), .second, .val (.long ((((((p1 - (48 : Int32))).toInt64) * (100 : Int64)) + ((((p2 - (48 : Int32))).toInt64) * (10 : Int64))) + (((p3 - (48 : Int32))).toInt64))), .second, .val (.long (((p4 - (48 : Int32))).toInt64)), .second, .val (.int (p0 - (4 : Int32))), .unset, .unset, .unset, .unset] []) := by
    intro T1 N1 hv
    refine Ends.go (f' := (mkF m 186 #[.val (.int p0), .val (.int p1), .val (.int p2), .val (.int p3), .val (.int p4), .val (.int p5), .val (.int p6), .val (.long (((p1 - (48 : Int32))).toInt64)), .second, .val (.long (((p2 - (48 : Int32))).toInt64)), .second, .val (.long (((p3 - (48 : Int32))).toInt64)), .second, .val (.long ((((((p1 - (48 : Int32))).toInt64) * (100 : Int64)) + ((((p2 - (48 : Int32))).toInt64) * (10 : Int64))) + (((p3 - (48 : Int32))).toInt64))), .second, .val (.long (((p4 - (48 : Int32))).toInt64)), .second, .val (.int (p0 - (4 : Int32))), .unset, .unset, .unset, .unset] [(.int p5)])) (fun t k => XS.iload N1.here hx rfl (hb hby d10_184) rfl k) ?_
    refine Ends.go (f' := (mkF m 188 #[.val (.int p0), .val (.int p1), .val (.int p2), .val (.int p3), .val (.int p4), .val (.int p5), .val (.int p6), .val (.long (((p1 - (48 : Int32))).toInt64)), .second, .val (.long (((p2 - (48 : Int32))).toInt64)), .second, .val (.long (((p3 - (48 : Int32))).toInt64)), .second, .val (.long ((((((p1 - (48 : Int32))).toInt64) * (100 : Int64)) + ((((p2 - (48 : Int32))).toInt64) * (10 : Int64))) + (((p3 - (48 : Int32))).toInt64))), .second, .val (.long (((p4 - (48 : Int32))).toInt64)), .second, .val (.int (p0 - (4 : Int32))), .unset, .unset, .unset, .unset] [(.int (48 : Int32)), (.int p5)])) (fun t k => XS.bipush N1.here hx rfl (hb hby d10_186) k) ?_
    refine Ends.go (f' := (mkF m 189 #[.val (.int p0), .val (.int p1), .val (.int p2), .val (.int p3), .val (.int p4), .val (.int p5), .val (.int p6), .val (.long (((p1 - (48 : Int32))).toInt64)), .second, .val (.long (((p2 - (48 : Int32))).toInt64)), .second, .val (.long (((p3 - (48 : Int32))).toInt64)), .second, .val (.long ((((((p1 - (48 : Int32))).toInt64) * (100 : Int64)) + ((((p2 - (48 : Int32))).toInt64) * (10 : Int64))) + (((p3 - (48 : Int32))).toInt64))), .second, .val (.long (((p4 - (48 : Int32))).toInt64)), .second, .val (.int (p0 - (4 : Int32))), .unset, .unset, .unset, .unset] [(.int (p5 - (48 : Int32)))])) (fun t k => XS.isub N1.here hx rfl (hb hby d10_188) rfl k) ?_
    refine Ends.go (f' := (mkF m 190 #[.val (.int p0), .val (.int p1), .val (.int p2), .val (.int p3), .val (.int p4), .val (.int p5), .val (.int p6), .val (.long (((p1 - (48 : Int32))).toInt64)), .second, .val (.long (((p2 - (48 : Int32))).toInt64)), .second, .val (.long (((p3 - (48 : Int32))).toInt64)), .second, .val (.long ((((((p1 - (48 : Int32))).toInt64) * (100 : Int64)) + ((((p2 - (48 : Int32))).toInt64) * (10 : Int64))) + (((p3 - (48 : Int32))).toInt64))), .second, .val (.long (((p4 - (48 : Int32))).toInt64)), .second, .val (.int (p0 - (4 : Int32))), .unset, .unset, .unset, .unset] [(.long (((p5 - (48 : Int32))).toInt64))])) (fun t k => XT.i2l N1.here hx rfl (hb hby d10_189) rfl k) ?_
    refine Ends.go (f' := (mkF m 192 #[.val (.int p0), .val (.int p1), .val (.int p2), .val (.int p3), .val (.int p4), .val (.int p5), .val (.int p6), .val (.long (((p1 - (48 : Int32))).toInt64)), .second, .val (.long (((p2 - (48 : Int32))).toInt64)), .second, .val (.long (((p3 - (48 : Int32))).toInt64)), .second, .val (.long ((((((p1 - (48 : Int32))).toInt64) * (100 : Int64)) + ((((p2 - (48 : Int32))).toInt64) * (10 : Int64))) + (((p3 - (48 : Int32))).toInt64))), .second, .val (.long (((p4 - (48 : Int32))).toInt64)), .second, .val (.int (p0 - (4 : Int32))), .val (.long (((p5 - (48 : Int32))).toInt64)), .second, .unset, .unset] [])) (fun t k => XT.lstore N1.here hx rfl (hb hby d10_190) rfl (l' := #[.val (.int p0), .val (.int p1), .val (.int p2), .val (.int p3), .val (.int p4), .val (.int p5), .val (.int p6), .val (.long (((p1 - (48 : Int32))).toInt64)), .second, .val (.long (((p2 - (48 : Int32))).toInt64)), .second, .val (.long (((p3 - (48 : Int32))).toInt64)), .second, .val (.long ((((((p1 - (48 : Int32))).toInt64) * (100 : Int64)) + ((((p2 - (48 : Int32))).toInt64) * (10 : Int64))) + (((p3 - (48 : Int32))).toInt64))), .second, .val (.long (((p4 - (48 : Int32))).toInt64)), .second, .val (.int (p0 - (4 : Int32))), .val (.long (((p5 - (48 : Int32))).toInt64)), .second, .unset, .unset]) rfl k) ?_
    refine Ends.go (f' := (mkF m 193 #[.val (.int p0), .val (.int p1), .val (.int p2), .val (.int p3), .val (.int p4), .val (.int p5), .val (.int p6), .val (.long (((p1 - (48 : Int32))).toInt64)), .second, .val (.long (((p2 - (48 : Int32))).toInt64)), .second, .val (.long (((p3 - (48 : Int32))).toInt64)), .second, .val (.long ((((((p1 - (48 : Int32))).toInt64) * (100 : Int64)) + ((((p2 - (48 : Int32))).toInt64) * (10 : Int64))) + (((p3 - (48 : Int32))).toInt64))), .second, .val (.long (((p4 - (48 : Int32))).toInt64)), .second, .val (.int (p0 - (4 : Int32))), .val (.long (((p5 - (48 : Int32))).toInt64)), .second, .unset, .unset] [(.long (1 : Int64))])) (fun t k => XT.lconst N1.here hx rfl (hb hby d10_192) k) ?_
    refine Ends.go (f' := (mkF m 195 #[.val (.int p0), .val (.int p1), .val (.int p2), .val (.int p3), .val (.int p4), .val (.int p5), .val (.int p6), .val (.long (((p1 - (48 : Int32))).toInt64)), .second, .val (.long (((p2 - (48 : Int32))).toInt64)), .second, .val (.long (((p3 - (48 : Int32))).toInt64)), .second, .val (.long ((((((p1 - (48 : Int32))).toInt64) * (100 : Int64)) + ((((p2 - (48 : Int32))).toInt64) * (10 : Int64))) + (((p3 - (48 : Int32))).toInt64))), .second, .val (.long (((p4 - (48 : Int32))).toInt64)), .second, .val (.int (p0 - (4 : Int32))), .val (.long (((p5 - (48 : Int32))).toInt64)), .second, .val (.long (1 : Int64)), .second] [])) (fun t k => XT.lstore N1.here hx rfl (hb hby d10_193) rfl (l' := #[.val (.int p0), .val (.int p1), .val (.int p2), .val (.int p3), .val (.int p4), .val (.int p5), .val (.int p6), .val (.long (((p1 - (48 : Int32))).toInt64)), .second, .val (.long (((p2 - (48 : Int32))).toInt64)), .second, .val (.long (((p3 - (48 : Int32))).toInt64)), .second, .val (.long ((((((p1 - (48 : Int32))).toInt64) * (100 : Int64)) + ((((p2 - (48 : Int32))).toInt64) * (10 : Int64))) + (((p3 - (48 : Int32))).toInt64))), .second, .val (.long (((p4 - (48 : Int32))).toInt64)), .second, .val (.int (p0 - (4 : Int32))), .val (.long (((p5 - (48 : Int32))).toInt64)), .second, .val (.long (1 : Int64)), .second]) rfl k) ?_
    refine Ends.go (f' := (mkF m 197 #[.val (.int p0), .val (.int p1), .val (.int p2), .val (.int p3), .val (.int p4), .val (.int p5), .val (.int p6), .val (.long (((p1 - (48 : Int32))).toInt64)), .second, .val (.long (((p2 - (48 : Int32))).toInt64)), .second, .val (.long (((p3 - (48 : Int32))).toInt64)), .second, .val (.long ((((((p1 - (48 : Int32))).toInt64) * (100 : Int64)) + ((((p2 - (48 : Int32))).toInt64) * (10 : Int64))) + (((p3 - (48 : Int32))).toInt64))), .second, .val (.long (((p4 - (48 : Int32))).toInt64)), .second, .val (.int (p0 - (4 : Int32))), .val (.long (((p5 - (48 : Int32))).toInt64)), .second, .val (.long (1 : Int64)), .second] [(.int (p0 - (4 : Int32)))])) (fun t k => XS.iload N1.here hx rfl (hb hby d10_195) rfl k) ?_
    refine Ends.go (f' := (mkF m 198 #[.val (.int p0), .val (.int p1), .val (.int p2), .val (.int p3), .val (.int p4), .val (.int p5), .val (.int p6), .val (.long (((p1 - (48 : Int32))).toInt64)), .second, .val (.long (((p2 - (48 : Int32))).toInt64)), .second, .val (.long (((p3 - (48 : Int32))).toInt64)), .second, .val (.long ((((((p1 - (48 : Int32))).toInt64) * (100 : Int64)) + ((((p2 - (48 : Int32))).toInt64) * (10 : Int64))) + (((p3 - (48 : Int32))).toInt64))), .second, .val (.long (((p4 - (48 : Int32))).toInt64)), .second, .val (.int (p0 - (4 : Int32))), .val (.long (((p5 - (48 : Int32))).toInt64)), .second, .val (.long (1 : Int64)), .second] [(.int (1 : Int32)), (.int (p0 - (4 : Int32)))])) (fun t k => XS.iconst N1.here hx rfl (hb hby d10_197) k) ?_
    by_cases c40 : (p0 - (4 : Int32)) = (1 : Int32)
    · refine Ends.go (f' := (mkF m 201 #[.val (.int p0), .val (.int p1), .val (.int p2), .val (.int p3), .val (.int p4), .val (.int p5), .val (.int p6), .val (.long (((p1 - (48 : Int32))).toInt64)), .second, .val (.long (((p2 - (48 : Int32))).toInt64)), .second, .val (.long (((p3 - (48 : Int32))).toInt64)), .second, .val (.long ((((((p1 - (48 : Int32))).toInt64) * (100 : Int64)) + ((((p2 - (48 : Int32))).toInt64) * (10 : Int64))) + (((p3 - (48 : Int32))).toInt64))), .second, .val (.long (((p4 - (48 : Int32))).toInt64)), .second, .val (.int (p0 - (4 : Int32))), .val (.long (((p5 - (48 : Int32))).toInt64)), .second, .val (.long (1 : Int64)), .second] [])) (fun t k => XS.icmpNo N1.here hx rfl (hb hby d10_198) rfl (XT.ii_ne_f c40) k) ?_
      refine gLdcJ N1 hx hZ hown (hw _ (List.mem_of_getElem? (i := 99) rfl)) (hb hby d10_201) ?_
      show Ends p e below _ T1 (mkF m 204 #[.val (.int p0), .val (.int p1), .val (.int p2), .val (.int p3), .val (.int p4), .val (.int p5), .val (.int p6), .val (.long (((p1 - (48 : Int32))).toInt64)), .second, .val (.long (((p2 - (48 : Int32))).toInt64)), .second, .val (.long (((p3 - (48 : Int32))).toInt64)), .second, .val (.long ((((((p1 - (48 : Int32))).toInt64) * (100 : Int64)) + ((((p2 - (48 : Int32))).toInt64) * (10 : Int64))) + (((p3 - (48 : Int32))).toInt64))), .second, .val (.long (((p4 - (48 : Int32))).toInt64)), .second, .val (.int (p0 - (4 : Int32))), .val (.long (((p5 - (48 : Int32))).toInt64)), .second, .val (.long (1 : Int64)), .second] [(.long (10 : Int64))])
      refine Ends.go (f' := (mkF m 206 #[.val (.int p0), .val (.int p1), .val (.int p2), .val (.int p3), .val (.int p4), .val (.int p5), .val (.int p6), .val (.long (((p1 - (48 : Int32))).toInt64)), .second, .val (.long (((p2 - (48 : Int32))).toInt64)), .second, .val (.long (((p3 - (48 : Int32))).toInt64)), .second, .val (.long ((((((p1 - (48 : Int32))).toInt64) * (100 : Int64)) + ((((p2 - (48 : Int32))).toInt64) * (10 : Int64))) + (((p3 - (48 : Int32))).toInt64))), .second, .val (.long (((p4 - (48 : Int32))).toInt64)), .second, .val (.int (p0 - (4 : Int32))), .val (.long (((p5 - (48 : Int32))).toInt64)), .second, .val (.long (10 : Int64)), .second] [])) (fun t k => XT.lstore N1.here hx rfl (hb hby d10_204) rfl (l' := #[.val (.int p0), .val (.int p1), .val (.int p2), .val (.int p3), .val (.int p4), .val (.int p5), .val (.int p6), .val (.long (((p1 - (48 : Int32))).toInt64)), .second, .val (.long (((p2 - (48 : Int32))).toInt64)), .second, .val (.long (((p3 - (48 : Int32))).toInt64)), .second, .val (.long ((((((p1 - (48 : Int32))).toInt64) * (100 : Int64)) + ((((p2 - (48 : Int32))).toInt64) * (10 : Int64))) + (((p3 - (48 : Int32))).toInt64))), .second, .val (.long (((p4 - (48 : Int32))).toInt64)), .second, .val (.int (p0 - (4 : Int32))), .val (.long (((p5 - (48 : Int32))).toInt64)), .second, .val (.long (10 : Int64)), .second]) rfl k) ?_
      exact j206 T1 (10 : Int64) N1 (by rw [hv]; simp only [f_exp_184, if_pos c40])
    · refine Ends.go (f' := (mkF m 206 #[.val (.int p0), .val (.int p1), .val (.int p2), .val (.int p3), .val (.int p4), .val (.int p5), .val (.int p6), .val (.long (((p1 - (48 : Int32))).toInt64)), .second, .val (.long (((p2 - (48 : Int32))).toInt64)), .second, .val (.long (((p3 - (48 : Int32))).toInt64)), .second, .val (.long ((((((p1 - (48 : Int32))).toInt64) * (100 : Int64)) + ((((p2 - (48 : Int32))).toInt64) * (10 : Int64))) + (((p3 - (48 : Int32))).toInt64))), .second, .val (.long (((p4 - (48 : Int32))).toInt64)), .second, .val (.int (p0 - (4 : Int32))), .val (.long (((p5 - (48 : Int32))).toInt64)), .second, .val (.long (1 : Int64)), .second] [])) (fun t k => XS.icmpYes N1.here hx rfl (pc0 := 198) (pc' := 206) rfl (hb hby d10_198) rfl (XT.ii_ne_t c40) (by decide) (by decide) k) ?_
      exact j206 T1 (1 : Int64) N1 (by rw [hv]; simp only [f_exp_184, if_neg c40])
  have j39 : ∀ (T1 : State), Now p l e ({ frames := 1, cells := 0, slots := 0, locals := 12 } : Room) s m #[(.int p0), (.int p1), (.int p2), (.int p3), (.int p4), (.int p5), (.int p6)] below meth c Z T1 h0 0 0 → f_exp p0 p1 p2 p3 p4 p5 p6 = f_exp_39 p0 p1 p2 p3 p4 p5 p6 → Ends p e below (PhiN Z s (fun v h => v = some (.long (f_exp p0 p1 p2 p3 p4 p5 p6)) ∧ h = h0) ({ frames := 1, cells := 0, slots := 0, locals := 12 } : Room).cells ({ frames := 1, cells := 0, slots := 0, locals := 12 } : Room).slots) T1 (mkF m 39 #[.val (.int p0), .val (.int p1), .val (.int p2), .val (.int p3), .val (.int p4), .val (.int p5), .val (.int p6), .unset, .unset, .unset, .unset, .unset, .unset, .unset, .unset, .unset, .unset, .unset, .unset, .unset, .unset, .unset] []) := by
    intro T1 N1 hv
    refine Ends.go (f' := (mkF m 40 #[.val (.int p0), .val (.int p1), .val (.int p2), .val (.int p3), .val (.int p4), .val (.int p5), .val (.int p6), .unset, .unset, .unset, .unset, .unset, .unset, .unset, .unset, .unset, .unset, .unset, .unset, .unset, .unset, .unset] [(.int p1)])) (fun t k => XS.iloadN N1.here hx rfl (hb hby d10_39) rfl k) ?_
    refine gStatic (W := 0) (argsL := [(.int p1)]) (rest := []) N1 hx hZ hown (hw _ (List.mem_of_getElem? (i := 95) rfl)) (hw _ (List.mem_of_getElem? (i := 96) rfl)) (hw _ (List.mem_of_getElem? (i := 2) rfl)) (hw _ (List.mem_of_getElem? (i := 97) rfl)) (by decide) ((rm20 l Z a0 hw p1 h0 N1.ext).back (W := 0) hZ (hw _ (List.mem_of_getElem? (i := 97) rfl)) (hw _ (List.mem_of_getElem? (i := 2) rfl)) (nle rfl) (nle rfl)) (hb hby d10_40) rfl (by rw [hml]; rfl) (lenOf (by decide +kernel : parseMethodDescriptor "(C)Z" = some ⟨[.char], (some .boolean)⟩) rfl) (nle rfl) (nle rfl) (nle rfl) (fun _ _ _ q => q.2) ?_
    rintro _ T6 _ _ N7 ⟨⟨rfl, e_h⟩, -⟩; rw [e_h] at N7; clear e_h
    show Ends p e below _ T6 (mkF m 43 #[.val (.int p0), .val (.int p1), .val (.int p2), .val (.int p3), .val (.int p4), .val (.int p5), .val (.int p6), .unset, .unset, .unset, .unset, .unset, .unset, .unset, .unset, .unset, .unset, .unset, .unset, .unset, .unset, .unset] [(.int (f_dig p1))])
    by_cases c11 : (f_dig p1) = 0
    · refine Ends.go (f' := (mkF m 46 #[.val (.int p0), .val (.int p1), .val (.int p2), .val (.int p3), .val (.int p4), .val (.int p5), .val (.int p6), .unset, .unset, .unset, .unset, .unset, .unset, .unset, .unset, .unset, .unset, .unset, .unset, .unset, .unset, .unset] [])) (fun t k => XS.ifNo N7.here hx rfl (hb hby d10_43) rfl (XT.i0_ne_f c11) k) ?_
      refine gLdcJ N7 hx hZ hown (hw _ (List.mem_of_getElem? (i := 55) rfl)) (hb hby d10_46) ?_
      show Ends p e below _ T6 (mkF m 49 #[.val (.int p0), .val (.int p1), .val (.int p2), .val (.int p3), .val (.int p4), .val (.int p5), .val (.int p6), .unset, .unset, .unset, .unset, .unset, .unset, .unset, .unset, .unset, .unset, .unset, .unset, .unset, .unset, .unset] [(.long (-1 : Int64))])
      exact retJ N7 hx hlk hret (hb hby d10_49) ⟨by rw [hv]; simp only [f_exp_39, if_pos c11], rfl⟩ (nle rfl) (nle rfl)
    · refine Ends.go (f' := (mkF m 50 #[.val (.int p0), .val (.int p1), .val (.int p2), .val (.int p3), .val (.int p4), .val (.int p5), .val (.int p6), .unset, .unset, .unset, .unset, .unset, .unset, .unset, .unset, .unset, .unset, .unset, .unset, .unset, .unset, .unset] [])) (fun t k => XS.ifYes N7.here hx rfl (pc0 := 43) (pc' := 50) rfl (hb hby d10_43) rfl (XT.i0_ne_t c11) (by decide) (by decide) k) ?_
      refine Ends.go (f' := (mkF m 51 #[.val (.int p0), .val (.int p1), .val (.int p2), .val (.int p3), .val (.int p4), .val (.int p5), .val (.int p6), .unset, .unset, .unset, .unset, .unset, .unset, .unset, .unset, .unset, .unset, .unset, .unset, .unset, .unset, .unset] [(.int p1)])) (fun t k => XS.iloadN N7.here hx rfl (hb hby d10_50) rfl k) ?_
      refine Ends.go (f' := (mkF m 53 #[.val (.int p0), .val (.int p1), .val (.int p2), .val (.int p3), .val (.int p4), .val (.int p5), .val (.int p6), .unset, .unset, .unset, .unset, .unset, .unset, .unset, .unset, .unset, .unset, .unset, .unset, .unset, .unset, .unset] [(.int (48 : Int32)), (.int p1)])) (fun t k => XS.bipush N7.here hx rfl (hb hby d10_51) k) ?_
      refine Ends.go (f' := (mkF m 54 #[.val (.int p0), .val (.int p1), .val (.int p2), .val (.int p3), .val (.int p4), .val (.int p5), .val (.int p6), .unset, .unset, .unset, .unset, .unset, .unset, .unset, .unset, .unset, .unset, .unset, .unset, .unset, .unset, .unset] [(.int (p1 - (48 : Int32)))])) (fun t k => XS.isub N7.here hx rfl (hb hby d10_53) rfl k) ?_
      refine Ends.go (f' := (mkF m 55 #[.val (.int p0), .val (.int p1), .val (.int p2), .val (.int p3), .val (.int p4), .val (.int p5), .val (.int p6), .unset, .unset, .unset, .unset, .unset, .unset, .unset, .unset, .unset, .unset, .unset, .unset, .unset, .unset, .unset] [(.long (((p1 - (48 : Int32))).toInt64))])) (fun t k => XT.i2l N7.here hx rfl (hb hby d10_54) rfl k) ?_
      refine Ends.go (f' := (mkF m 57 #[.val (.int p0), .val (.int p1), .val (.int p2), .val (.int p3), .val (.int p4), .val (.int p5), .val (.int p6), .val (.long (((p1 - (48 : Int32))).toInt64)), .second, .unset, .unset, .unset, .unset, .unset, .unset, .unset, .unset, .unset, .unset, .unset, .unset, .unset] [])) (fun t k => XT.lstore N7.here hx rfl (hb hby d10_55) rfl (l' := #[.val (.int p0), .val (.int p1), .val (.int p2), .val (.int p3), .val (.int p4), .val (.int p5), .val (.int p6), .val (.long (((p1 - (48 : Int32))).toInt64)), .second, .unset, .unset, .unset, .unset, .unset, .unset, .unset, .unset, .unset, .unset, .unset, .unset, .unset]) rfl k) ?_
      refine Ends.go (f' := (mkF m 58 #[.val (.int p0), .val (.int p1), .val (.int p2), .val (.int p3), .val (.int p4), .val (.int p5), .val (.int p6), .val (.long (((p1 - (48 : Int32))).toInt64)), .second, .unset, .unset, .unset, .unset, .unset, .unset, .unset, .unset, .unset, .unset, .unset, .unset, .unset] [(.int p0)])) (fun t k => XS.iloadN N7.here hx rfl (hb hby d10_57) rfl k) ?_
      refine Ends.go (f' := (mkF m 59 #[.val (.int p0), .val (.int p1), .val (.int p2), .val (.int p3), .val (.int p4), .val (.int p5), .val (.int p6), .val (.long (((p1 - (48 : Int32))).toInt64)), .second, .unset, .unset, .unset, .unset, .unset, .unset, .unset, .unset, .unset, .unset, .unset, .unset, .unset] [(.int (1 : Int32)), (.int p0)])) (fun t k => XS.iconst N7.here hx rfl (hb hby d10_58) k) ?_
      by_cases c12 : p0 = (1 : Int32)
      · refine Ends.go (f' := (mkF m 62 #[.val (.int p0), .val (.int p1), .val (.int p2), .val (.int p3), .val (.int p4), .val (.int p5), .val (.int p6), .val (.long (((p1 - (48 : Int32))).toInt64)), .second, .unset, .unset, .unset, .unset, .unset, .unset, .unset, .unset, .unset, .unset, .unset, .unset, .unset] [])) (fun t k => XS.icmpNo N7.here hx rfl (hb hby d10_59) rfl (XT.ii_ne_f c12) k) ?_
        refine Ends.go (f' := (mkF m 64 #[.val (.int p0), .val (.int p1), .val (.int p2), .val (.int p3), .val (.int p4), .val (.int p5), .val (.int p6), .val (.long (((p1 - (48 : Int32))).toInt64)), .second, .unset, .unset, .unset, .unset, .unset, .unset, .unset, .unset, .unset, .unset, .unset, .unset, .unset] [(.long (((p1 - (48 : Int32))).toInt64))])) (fun t k => XT.lload N7.here hx rfl (hb hby d10_62) rfl k) ?_
        exact retJ N7 hx hlk hret (hb hby d10_64) ⟨by rw [hv]; simp only [f_exp_39, if_neg c11, if_pos c12], rfl⟩ (nle rfl) (nle rfl)
      · refine Ends.go (f' := (mkF m 65 #[.val (.int p0), .val (.int p1), .val (.int p2), .val (.int p3), .val (.int p4), .val (.int p5), .val (.int p6), .val (.long (((p1 - (48 : Int32))).toInt64)), .second, .unset, .unset, .unset, .unset, .unset, .unset, .unset, .unset, .unset, .unset, .unset, .unset, .unset] [])) (fun t k => XS.icmpYes N7.here hx rfl (pc0 := 59) (pc' := 65) rfl (hb hby d10_59) rfl (XT.ii_ne_t c12) (by decide) (by decide) k) ?_
        refine Ends.go (f' := (mkF m 66 #[.val (.int p0), .val (.int p1), .val (.int p2), .val (.int p3), .val (.int p4), .val (.int p5), .val (.int p6), .val (.long (((p1 - (48 : Int32))).toInt64)), .second, .unset, .unset, .unset, .unset, .unset, .unset, .unset, .unset, .unset, .unset, .unset, .unset, .unset] [(.int p2)])) (fun t k => XS.iloadN N7.here hx rfl (hb hby d10_65) rfl k) ?_
        refine gStatic (W := 0) (argsL := [(.int p2)]) (rest := []) N7 hx hZ hown (hw _ (List.mem_of_getElem? (i := 95) rfl)) (hw _ (List.mem_of_getElem? (i := 96) rfl)) (hw _ (List.mem_of_getElem? (i := 2) rfl)) (hw _ (List.mem_of_getElem? (i := 97) rfl)) (by decide) ((rm20 l Z a0 hw p2 h0 N7.ext).back (W := 0) hZ (hw _ (List.mem_of_getElem? (i := 97) rfl)) (hw _ (List.mem_of_getElem? (i := 2) rfl)) (nle rfl) (nle rfl)) (hb hby d10_66) rfl (by rw [hml]; rfl) (lenOf (by decide +kernel : parseMethodDescriptor "(C)Z" = some ⟨[.char], (some .boolean)⟩) rfl) (nle rfl) (nle rfl) (nle rfl) (fun _ _ _ q => q.2) ?_
        rintro _ T13 _ _ N14 ⟨⟨rfl, e_h⟩, -⟩; rw [e_h] at N14; clear e_h
        show Ends p e below _ T13 (mkF m 69 #[.val (.int p0), .val (.int p1), .val (.int p2), .val (.int p3), .val (.int p4), .val (.int p5), .val (.int p6), .val (.long (((p1 - (48 : Int32))).toInt64)), .second, .unset, .unset, .unset, .unset, .unset, .unset, .unset, .unset, .unset, .unset, .unset, .unset, .unset] [(.int (f_dig p2))])
        by_cases c18 : (f_dig p2) = 0
        · refine Ends.go (f' := (mkF m 72 #[.val (.int p0), .val (.int p1), .val (.int p2), .val (.int p3), .val (.int p4), .val (.int p5), .val (.int p6), .val (.long (((p1 - (48 : Int32))).toInt64)), .second, .unset, .unset, .unset, .unset, .unset, .unset, .unset, .unset, .unset, .unset, .unset, .unset, .unset] [])) (fun t k => XS.ifNo N14.here hx rfl (hb hby d10_69) rfl (XT.i0_ne_f c18) k) ?_
          refine gLdcJ N14 hx hZ hown (hw _ (List.mem_of_getElem? (i := 55) rfl)) (hb hby d10_72) ?_
          show Ends p e below _ T13 (mkF m 75 #[.val (.int p0), .val (.int p1), .val (.int p2), .val (.int p3), .val (.int p4), .val (.int p5), .val (.int p6), .val (.long (((p1 - (48 : Int32))).toInt64)), .second, .unset, .unset, .unset, .unset, .unset, .unset, .unset, .unset, .unset, .unset, .unset, .unset, .unset] [(.long (-1 : Int64))])
          exact retJ N14 hx hlk hret (hb hby d10_75) ⟨by rw [hv]; simp only [f_exp_39, if_neg c11, if_neg c12, if_pos c18], rfl⟩ (nle rfl) (nle rfl)
        · refine Ends.go (f' := (mkF m 76 #[.val (.int p0), .val (.int p1), .val (.int p2), .val (.int p3), .val (.int p4), .val (.int p5), .val (.int p6), .val (.long (((p1 - (48 : Int32))).toInt64)), .second, .unset, .unset, .unset, .unset, .unset, .unset, .unset, .unset, .unset, .unset, .unset, .unset, .unset] [])) (fun t k => XS.ifYes N14.here hx rfl (pc0 := 69) (pc' := 76) rfl (hb hby d10_69) rfl (XT.i0_ne_t c18) (by decide) (by decide) k) ?_
          refine Ends.go (f' := (mkF m 77 #[.val (.int p0), .val (.int p1), .val (.int p2), .val (.int p3), .val (.int p4), .val (.int p5), .val (.int p6), .val (.long (((p1 - (48 : Int32))).toInt64)), .second, .unset, .unset, .unset, .unset, .unset, .unset, .unset, .unset, .unset, .unset, .unset, .unset, .unset] [(.int p2)])) (fun t k => XS.iloadN N14.here hx rfl (hb hby d10_76) rfl k) ?_
          refine Ends.go (f' := (mkF m 79 #[.val (.int p0), .val (.int p1), .val (.int p2), .val (.int p3), .val (.int p4), .val (.int p5), .val (.int p6), .val (.long (((p1 - (48 : Int32))).toInt64)), .second, .unset, .unset, .unset, .unset, .unset, .unset, .unset, .unset, .unset, .unset, .unset, .unset, .unset] [(.int (48 : Int32)), (.int p2)])) (fun t k => XS.bipush N14.here hx rfl (hb hby d10_77) k) ?_
          refine Ends.go (f' := (mkF m 80 #[.val (.int p0), .val (.int p1), .val (.int p2), .val (.int p3), .val (.int p4), .val (.int p5), .val (.int p6), .val (.long (((p1 - (48 : Int32))).toInt64)), .second, .unset, .unset, .unset, .unset, .unset, .unset, .unset, .unset, .unset, .unset, .unset, .unset, .unset] [(.int (p2 - (48 : Int32)))])) (fun t k => XS.isub N14.here hx rfl (hb hby d10_79) rfl k) ?_
          refine Ends.go (f' := (mkF m 81 #[.val (.int p0), .val (.int p1), .val (.int p2), .val (.int p3), .val (.int p4), .val (.int p5), .val (.int p6), .val (.long (((p1 - (48 : Int32))).toInt64)), .second, .unset, .unset, .unset, .unset, .unset, .unset, .unset, .unset, .unset, .unset, .unset, .unset, .unset] [(.long (((p2 - (48 : Int32))).toInt64))])) (fun t k => XT.i2l N14.here hx rfl (hb hby d10_80) rfl k) ?_
          refine Ends.go (f' := (mkF m 83 #[.val (.int p0), .val (.int p1), .val (.int p2), .val (.int p3), .val (.int p4), .val (.int p5), .val (.int p6), .val (.long (((p1 - (48 : Int32))).toInt64)), .second, .val (.long (((p2 - (48 : Int32))).toInt64)), .second, .unset, .unset, .unset, .unset, .unset, .unset, .unset, .unset, .unset, .unset, .unset] [])) (fun t k => XT.lstore N14.here hx rfl (hb hby d10_81) rfl (l' := #[.val (.int p0), .val (.int p1), .val (.int p2), .val (.int p3), .val (.int p4), .val (.int p5), .val (.int p6), .val (.long (((p1 - (48 : Int32))).toInt64)), .second, .val (.long (((p2 - (48 : Int32))).toInt64)), .second, .unset, .unset, .unset, .unset, .unset, .unset, .unset, .unset, .unset, .unset, .unset]) rfl k) ?_
          refine Ends.go (f' := (mkF m 84 #[.val (.int p0), .val (.int p1), .val (.int p2), .val (.int p3), .val (.int p4), .val (.int p5), .val (.int p6), .val (.long (((p1 - (48 : Int32))).toInt64)), .second, .val (.long (((p2 - (48 : Int32))).toInt64)), .second, .unset, .unset, .unset, .unset, .unset, .unset, .unset, .unset, .unset, .unset, .unset] [(.int p0)])) (fun t k => XS.iloadN N14.here hx rfl (hb hby d10_83) rfl k) ?_
          refine Ends.go (f' := (mkF m 85 #[.val (.int p0), .val (.int p1), .val (.int p2), .val (.int p3), .val (.int p4), .val (.int p5), .val (.int p6), .val (.long (((p1 - (48 : Int32))).toInt64)), .second, .val (.long (((p2 - (48 : Int32))).toInt64)), .second, .unset, .unset, .unset, .unset, .unset, .unset, .unset, .unset, .unset, .unset, .unset] [(.int (2 : Int32)), (.int p0)])) (fun t k => XS.iconst N14.here hx rfl (hb hby d10_84) k) ?_
          by_cases c19 : p0 = (2 : Int32)
          · refine Ends.go (f' := (mkF m 88 #[.val (.int p0), .val (.int p1), .val (.int p2), .val (.int p3), .val (.int p4), .val (.int p5), .val (.int p6), .val (.long (((p1 - (48 : Int32))).toInt64)), .second, .val (.long (((p2 - (48 : Int32))).toInt64)), .second, .unset, .unset, .unset, .unset, .unset, .unset, .unset, .unset, .unset, .unset, .unset] [])) (fun t k => XS.icmpNo N14.here hx rfl (hb hby d10_85) rfl (XT.ii_ne_f c19) k) ?_
            refine Ends.go (f' := (mkF m 90 #[.val (.int p0), .val (.int p1), .val (.int p2), .val (.int p3), .val (.int p4), .val (.int p5), .val (.int p6), .val (.long (((p1 - (48 : Int32))).toInt64)), .second, .val (.long (((p2 - (48 : Int32))).toInt64)), .second, .unset, .unset, .unset, .unset, .unset, .unset, .unset, .unset, .unset, .unset, .unset] [(.long (((p1 - (48 : Int32))).toInt64))])) (fun t k => XT.lload N14.here hx rfl (hb hby d10_88) rfl k) ?_
            refine gLdcJ N14 hx hZ hown (hw _ (List.mem_of_getElem? (i := 99) rfl)) (hb hby d10_90) ?_
            show Ends p e below _ T13 (mkF m 93 #[.val (.int p0), .val (.int p1), .val (.int p2), .val (.int p3), .val (.int p4), .val (.int p5), .val (.int p6), .val (.long (((p1 - (48 : Int32))).toInt64)), .second, .val (.long (((p2 - (48 : Int32))).toInt64)), .second, .unset, .unset, .unset, .unset, .unset, .unset, .unset, .unset, .unset, .unset, .unset] [(.long (10 : Int64)), (.long (((p1 - (48 : Int32))).toInt64))])
            refine Ends.go (f' := (mkF m 94 #[.val (.int p0), .val (.int p1), .val (.int p2), .val (.int p3), .val (.int p4), .val (.int p5), .val (.int p6), .val (.long (((p1 - (48 : Int32))).toInt64)), .second, .val (.long (((p2 - (48 : Int32))).toInt64)), .second, .unset, .unset, .unset, .unset, .unset, .unset, .unset, .unset, .unset, .unset, .unset] [(.long ((((p1 - (48 : Int32))).toInt64) * (10 : Int64)))])) (fun t k => XT.lmul N14.here hx rfl (hb hby d10_93) rfl k) ?_
            refine Ends.go (f' := (mkF m 96 #[.val (.int p0), .val (.int p1), .val (.int p2), .val (.int p3), .val (.int p4), .val (.int p5), .val (.int p6), .val (.long (((p1 - (48 : Int32))).toInt64)), .second, .val (.long (((p2 - (48 : Int32))).toInt64)), .second, .unset, .unset, .unset, .unset, .unset, .unset, .unset, .unset, .unset, .unset, .unset] [(.long (((p2 - (48 : Int32))).toInt64)), (.long ((((p1 - (48 : Int32))).toInt64) * (10 : Int64)))])) (fun t k => XT.lload N14.here hx rfl (hb hby d10_94) rfl k) ?_
            refine Ends.go (f' := (mkF m 97 #[.val (.int p0), .val (.int p1), .val (.int p2), .val (.int p3), .val (.int p4), .val (.int p5), .val (.int p6), .val (.long (((p1 - (48 : Int32))).toInt64)), .second, .val (.long (((p2 - (48 : Int32))).toInt64)), .second, .unset, .unset, .unset, .unset, .unset, .unset, .unset, .unset, .unset, .unset, .unset] [(.long (((((p1 - (48 : Int32))).toInt64) * (10 : Int64)) + (((p2 - (48 : Int32))).toInt64)))])) (fun t k => XT.ladd N14.here hx rfl (hb hby d10_96) rfl k) ?_
            exact retJ N14 hx hlk hret (hb hby d10_97) ⟨by rw [hv]; simp only [f_exp_39, if_neg c11, if_neg c12, if_neg c18, if_pos c19], rfl⟩ (nle rfl) (nle rfl)
          · refine Ends.go (f' := (mkF m 98 #[.val (.int p0), .val (.int p1), .val (.int p2), .val (.int p3), .val (.int p4), .val (.int p5), .val (.int p6), .val (.long (((p1 - (48 : Int32))).toInt64)), .second, .val (.long (((p2 - (48 : Int32))).toInt64)), .second, .unset, .unset, .unset, .unset, .unset, .unset, .unset, .unset, .unset, .unset, .unset] [])) (fun t k => XS.icmpYes N14.here hx rfl (pc0 := 85) (pc' := 98) rfl (hb hby d10_85) rfl (XT.ii_ne_t c19) (by decide) (by decide) k) ?_
            refine Ends.go (f' := (mkF m 99 #[.val (.int p0), .val (.int p1), .val (.int p2), .val (.int p3), .val (.int p4), .val (.int p5), .val (.int p6), .val (.long (((p1 - (48 : Int32))).toInt64)), .second, .val (.long (((p2 - (48 : Int32))).toInt64)), .second, .unset, .unset, .unset, .unset, .unset, .unset, .unset, .unset, .unset, .unset, .unset] [(.int p3)])) (fun t k => XS.iloadN N14.here hx rfl (hb hby d10_98) rfl k) ?_
            refine gStatic (W := 0) (argsL := [(.int p3)]) (rest := []) N14 hx hZ hown (hw _ (List.mem_of_getElem? (i := 95) rfl)) (hw _ (List.mem_of_getElem? (i := 96) rfl)) (hw _ (List.mem_of_getElem? (i := 2) rfl)) (hw _ (List.mem_of_getElem? (i := 97) rfl)) (by decide) ((rm20 l Z a0 hw p3 h0 N14.ext).back (W := 0) hZ (hw _ (List.mem_of_getElem? (i := 97) rfl)) (hw _ (List.mem_of_getElem? (i := 2) rfl)) (nle rfl) (nle rfl)) (hb hby d10_99) rfl (by rw [hml]; rfl) (lenOf (by decide +kernel : parseMethodDescriptor "(C)Z" = some ⟨[.char], (some .boolean)⟩) rfl) (nle rfl) (nle rfl) (nle rfl) (fun _ _ _ q => q.2) ?_
            rintro _ T20 _ _ N21 ⟨⟨rfl, e_h⟩, -⟩; rw [e_h] at N21; clear e_h
            show Ends p e below _ T20 (mkF m 102 #[.val (.int p0), .val (.int p1), .val (.int p2), .val (.int p3), .val (.int p4), .val (.int p5), .val (.int p6), .val (.long (((p1 - (48 : Int32))).toInt64)), .second, .val (.long (((p2 - (48 : Int32))).toInt64)), .second, .unset, .unset, .unset, .unset, .unset, .unset, .unset, .unset, .unset, .unset, .unset] [(.int (f_dig p3))])
            by_cases c25 : (f_dig p3) = 0
            · refine Ends.go (f' := (mkF m 105 #[.val (.int p0), .val (.int p1), .val (.int p2), .val (.int p3), .val (.int p4), .val (.int p5), .val (.int p6), .val (.long (((p1 - (48 : Int32))).toInt64)), .second, .val (.long (((p2 - (48 : Int32))).toInt64)), .second, .unset, .unset, .unset, .unset, .unset, .unset, .unset, .unset, .unset, .unset, .unset] [])) (fun t k => XS.ifNo N21.here hx rfl (hb hby d10_102) rfl (XT.i0_ne_f c25) k) ?_
              refine gLdcJ N21 hx hZ hown (hw _ (List.mem_of_getElem? (i := 55) rfl)) (hb hby d10_105) ?_
              show Ends p e below _ T20 (mkF m 108 #[.val (.int p0), .val (.int p1), .val (.int p2), .val (.int p3), .val (.int p4), .val (.int p5), .val (.int p6), .val (.long (((p1 - (48 : Int32))).toInt64)), .second, .val (.long (((p2 - (48 : Int32))).toInt64)), .second, .unset, .unset, .unset, .unset, .unset, .unset, .unset, .unset, .unset, .unset, .unset] [(.long (-1 : Int64))])
              exact retJ N21 hx hlk hret (hb hby d10_108) ⟨by rw [hv]; simp only [f_exp_39, if_neg c11, if_neg c12, if_neg c18, if_neg c19, if_pos c25], rfl⟩ (nle rfl) (nle rfl)
            · refine Ends.go (f' := (mkF m 109 #[.val (.int p0), .val (.int p1), .val (.int p2), .val (.int p3), .val (.int p4), .val (.int p5), .val (.int p6), .val (.long (((p1 - (48 : Int32))).toInt64)), .second, .val (.long (((p2 - (48 : Int32))).toInt64)), .second, .unset, .unset, .unset, .unset, .unset, .unset, .unset, .unset, .unset, .unset, .unset] [])) (fun t k => XS.ifYes N21.here hx rfl (pc0 := 102) (pc' := 109) rfl (hb hby d10_102) rfl (XT.i0_ne_t c25) (by decide) (by decide) k) ?_
              refine Ends.go (f' := (mkF m 110 #[.val (.int p0), .val (.int p1), .val (.int p2), .val (.int p3), .val (.int p4), .val (.int p5), .val (.int p6), .val (.long (((p1 - (48 : Int32))).toInt64)), .second, .val (.long (((p2 - (48 : Int32))).toInt64)), .second, .unset, .unset, .unset, .unset, .unset, .unset, .unset, .unset, .unset, .unset, .unset] [(.int p3)])) (fun t k => XS.iloadN N21.here hx rfl (hb hby d10_109) rfl k) ?_
              refine Ends.go (f' := (mkF m 112 #[.val (.int p0), .val (.int p1), .val (.int p2), .val (.int p3), .val (.int p4), .val (.int p5), .val (.int p6), .val (.long (((p1 - (48 : Int32))).toInt64)), .second, .val (.long (((p2 - (48 : Int32))).toInt64)), .second, .unset, .unset, .unset, .unset, .unset, .unset, .unset, .unset, .unset, .unset, .unset] [(.int (48 : Int32)), (.int p3)])) (fun t k => XS.bipush N21.here hx rfl (hb hby d10_110) k) ?_
              refine Ends.go (f' := (mkF m 113 #[.val (.int p0), .val (.int p1), .val (.int p2), .val (.int p3), .val (.int p4), .val (.int p5), .val (.int p6), .val (.long (((p1 - (48 : Int32))).toInt64)), .second, .val (.long (((p2 - (48 : Int32))).toInt64)), .second, .unset, .unset, .unset, .unset, .unset, .unset, .unset, .unset, .unset, .unset, .unset] [(.int (p3 - (48 : Int32)))])) (fun t k => XS.isub N21.here hx rfl (hb hby d10_112) rfl k) ?_
              refine Ends.go (f' := (mkF m 114 #[.val (.int p0), .val (.int p1), .val (.int p2), .val (.int p3), .val (.int p4), .val (.int p5), .val (.int p6), .val (.long (((p1 - (48 : Int32))).toInt64)), .second, .val (.long (((p2 - (48 : Int32))).toInt64)), .second, .unset, .unset, .unset, .unset, .unset, .unset, .unset, .unset, .unset, .unset, .unset] [(.long (((p3 - (48 : Int32))).toInt64))])) (fun t k => XT.i2l N21.here hx rfl (hb hby d10_113) rfl k) ?_
              refine Ends.go (f' := (mkF m 116 #[.val (.int p0), .val (.int p1), .val (.int p2), .val (.int p3), .val (.int p4), .val (.int p5), .val (.int p6), .val (.long (((p1 - (48 : Int32))).toInt64)), .second, .val (.long (((p2 - (48 : Int32))).toInt64)), .second, .val (.long (((p3 - (48 : Int32))).toInt64)), .second, .unset, .unset, .unset, .unset, .unset, .unset, .unset, .unset, .unset] [])) (fun t k => XT.lstore N21.here hx rfl (hb hby d10_114) rfl (l' := #[.val (.int p0), .val (.int p1), .val (.int p2), .val (.int p3), .val (.int p4), .val (.int p5), .val (.int p6), .val (.long (((p1 - (48 : Int32))).toInt64)), .second, .val (.long (((p2 - (48 : Int32))).toInt64)), .second, .val (.long (((p3 - (48 : Int32))).toInt64)), .second, .unset, .unset, .unset, .unset, .unset, .unset, .unset, .unset, .unset]) rfl k) ?_
              refine Ends.go (f' := (mkF m 118 #[.val (.int p0), .val (.int p1), .val (.int p2), .val (.int p3), .val (.int p4), .val (.int p5), .val (.int p6), .val (.long (((p1 - (48 : Int32))).toInt64)), .second, .val (.long (((p2 - (48 : Int32))).toInt64)), .second, .val (.long (((p3 - (48 : Int32))).toInt64)), .second, .unset, .unset, .unset, .unset, .unset, .unset, .unset, .unset, .unset] [(.long (((p1 - (48 : Int32))).toInt64))])) (fun t k => XT.lload N21.here hx rfl (hb hby d10_116) rfl k) ?_
              refine gLdcJ N21 hx hZ hown (hw _ (List.mem_of_getElem? (i := 100) rfl)) (hb hby d10_118) ?_
              show Ends p e below _ T20 (mkF m 121 #[.val (.int p0), .val (.int p1), .val (.int p2), .val (.int p3), .val (.int p4), .val (.int p5), .val (.int p6), .val (.long (((p1 - (48 : Int32))).toInt64)), .second, .val (.long (((p2 - (48 : Int32))).toInt64)), .second, .val (.long (((p3 - (48 : Int32))).toInt64)), .second, .unset, .unset, .unset, .unset, .unset, .unset, .unset, .unset, .unset] [(.long (100 : Int64)), (.long (((p1 - (48 : Int32))).toInt64))])
              refine Ends.go (f' := (mkF m 122 #[.val (.int p0), .val (.int p1), .val (.int p2), .val (.int p3), .val (.int p4), .val (.int p5), .val (.int p6), .val (.long (((p1 - (48 : Int32))).toInt64)), .second, .val (.long (((p2 - (48 : Int32))).toInt64)), .second, .val (.long (((p3 - (48 : Int32))).toInt64)), .second, .unset, .unset, .unset, .unset, .unset, .unset, .unset, .unset, .unset] [(.long ((((p1 - (48 : Int32))).toInt64) * (100 : Int64)))])) (fun t k => XT.lmul N21.here hx rfl (hb hby d10_121) rfl k) ?_
              refine Ends.go (f' := (mkF m 124 #[.val (.int p0), .val (.int p1), .val (.int p2), .val (.int p3), .val (.int p4), .val (.int p5), .val (.int p6), .val (.long (((p1 - (48 : Int32))).toInt64)), .second, .val (.long (((p2 - (48 : Int32))).toInt64)), .second, .val (.long (((p3 - (48 : Int32))).toInt64)), .second, .unset, .unset, .unset, .unset, .unset, .unset, .unset, .unset, .unset] [(.long (((p2 - (48 : Int32))).toInt64)), (.long ((((p1 - (48 : Int32))).toInt64) * (100 : Int64)))])) (fun t k => XT.lload N21.here hx rfl (hb hby d10_122) rfl k) ?_
              refine gLdcJ N21 hx hZ hown (hw _ (List.mem_of_getElem? (i := 99) rfl)) (hb hby d10_124) ?_
              show Ends p e below _ T20 (mkF m 127 #[.val (.int p0), .val (.int p1), .val (.int p2), .val (.int p3), .val (.int p4), .val (.int p5), .val (.int p6), .val (.long (((p1 - (48 : Int32))).toInt64)), .second, .val (.long (((p2 - (48 : Int32))).toInt64)), .second, .val (.long (((p3 - (48 : Int32))).toInt64)), .second, .unset, .unset, .unset, .unset, .unset, .unset, .unset, .unset, .unset] [(.long (10 : Int64)), (.long (((p2 - (48 : Int32))).toInt64)), (.long ((((p1 - (48 : Int32))).toInt64) * (100 : Int64)))])
              refine Ends.go (f' := (mkF m 128 #[.val (.int p0), .val (.int p1), .val (.int p2), .val (.int p3), .val (.int p4), .val (.int p5), .val (.int p6), .val (.long (((p1 - (48 : Int32))).toInt64)), .second, .val (.long (((p2 - (48 : Int32))).toInt64)), .second, .val (.long (((p3 - (48 : Int32))).toInt64)), .second, .unset, .unset, .unset, .unset, .unset, .unset, .unset, .unset, .unset] [(.long ((((p2 - (48 : Int32))).toInt64) * (10 : Int64))), (.long ((((p1 - (48 : Int32))).toInt64) * (100 : Int64)))])) (fun t k => XT.lmul N21.here hx rfl (hb hby d10_127) rfl k) ?_
              refine Ends.go (f' := (mkF m 129 #[.val (.int p0), .val (.int p1), .val (.int p2), .val (.int p3), .val (.int p4), .val (.int p5), .val (.int p6), .val (.long (((p1 - (48 : Int32))).toInt64)), .second, .val (.long (((p2 - (48 : Int32))).toInt64)), .second, .val (.long (((p3 - (48 : Int32))).toInt64)), .second, .unset, .unset, .unset, .unset, .unset, .unset, .unset, .unset, .unset] [(.long (((((p1 - (48 : Int32))).toInt64) * (100 : Int64)) + ((((p2 - (48 : Int32))).toInt64) * (10 : Int64))))])) (fun t k => XT.ladd N21.here hx rfl (hb hby d10_128) rfl k) ?_
              refine Ends.go (f' := (mkF m 131 #[.val (.int p0), .val (.int p1), .val (.int p2), .val (.int p3), .val (.int p4), .val (.int p5), .val (.int p6), .val (.long (((p1 - (48 : Int32))).toInt64)), .second, .val (.long (((p2 - (48 : Int32))).toInt64)), .second, .val (.long (((p3 - (48 : Int32))).toInt64)), .second, .unset, .unset, .unset, .unset, .unset, .unset, .unset, .unset, .unset] [(.long (((p3 - (48 : Int32))).toInt64)), (.long (((((p1 - (48 : Int32))).toInt64) * (100 : Int64)) + ((((p2 - (48 : Int32))).toInt64) * (10 : Int64))))])) (fun t k => XT.lload N21.here hx rfl (hb hby d10_129) rfl k) ?_
              refine Ends.go (f' := (mkF m 132 #[.val (.int p0), .val (.int p1), .val (.int p2), .val (.int p3), .val (.int p4), .val (.int p5), .val (.int p6), .val (.long (((p1 - (48 : Int32))).toInt64)), .second, .val (.long (((p2 - (48 : Int32))).toInt64)), .second, .val (.long (((p3 - (48 : Int32))).toInt64)), .second, .unset, .unset, .unset, .unset, .unset, .unset, .unset, .unset, .unset] [(.long ((((((p1 - (48 : Int32))).toInt64) * (100 : Int64)) + ((((p2 - (48 : Int32))).toInt64) * (10 : Int64))) + (((p3 - (48 : Int32))).toInt64)))])) (fun t k => XT.ladd N21.here hx rfl (hb hby d10_131) rfl k) ?_
              refine Ends.go (f' := (mkF m 134 #[.val (.int p0), .val (.int p1), .val (.int p2), .val (.int p3), .val (.int p4), .val (.int p5), .val (.int p6), .val (.long (((p1 - (48 : Int32))).toInt64)), .second, .val (.long (((p2 - (48 : Int32))).toInt64)), .second, .val (.long (((p3 - (48 : Int32))).toInt64)), .second, .val (.long ((((((p1 - (48 : Int32))).toInt64) * (100 : Int64)) + ((((p2 - (48 : Int32))).toInt64) * (10 : Int64))) + (((p3 - (48 : Int32))).toInt64))), .second, .unset, .unset, .unset, .unset, .unset, .unset, .unset] [])) (fun t k => XT.lstore N21.here hx rfl (hb hby d10_132) rfl (l' := #[.val (.int p0), .val (.int p1), .val (.int p2), .val (.int p3), .val (.int p4), .val (.int p5), .val (.int p6), .val (.long (((p1 - (48 : Int32))).toInt64)), .second, .val (.long (((p2 - (48 : Int32))).toInt64)), .second, .val (.long (((p3 - (48 : Int32))).toInt64)), .second, .val (.long ((((((p1 - (48 : Int32))).toInt64) * (100 : Int64)) + ((((p2 - (48 : Int32))).toInt64) * (10 : Int64))) + (((p3 - (48 : Int32))).toInt64))), .second, .unset, .unset, .unset, .unset, .unset, .unset, .unset]) rfl k) ?_
              refine Ends.go (f' := (mkF m 135 #[.val (.int p0), .val (.int p1), .val (.int p2), .val (.int p3), .val (.int p4), .val (.int p5), .val (.int p6), .val (.long (((p1 - (48 : Int32))).toInt64)), .second, .val (.long (((p2 - (48 : Int32))).toInt64)), .second, .val (.long (((p3 - (48 : Int32))).toInt64)), .second, .val (.long ((((((p1 - (48 : Int32))).toInt64) * (100 : Int64)) + ((((p2 - (48 : Int32))).toInt64) * (10 : Int64))) + (((p3 - (48 : Int32))).toInt64))), .second, .unset, .unset, .unset, .unset, .unset, .unset, .unset] [(.int p0)])) (fun t k => XS.iloadN N21.here hx rfl (hb hby d10_134) rfl k) ?_
              refine Ends.go (f' := (mkF m 136 #[.val (.int p0), .val (.int p1), .val (.int p2), .val (.int p3), .val (.int p4), .val (.int p5), .val (.int p6), .val (.long (((p1 - (48 : Int32))).toInt64)), .second, .val (.long (((p2 - (48 : Int32))).toInt64)), .second, .val (.long (((p3 - (48 : Int32))).toInt64)), .second, .val (.long ((((((p1 - (48 : Int32))).toInt64) * (100 : Int64)) + ((((p2 - (48 : Int32))).toInt64) * (10 : Int64))) + (((p3 - (48 : Int32))).toInt64))), .second, .unset, .unset, .unset, .unset, .unset, .unset, .unset] [(.int (3 : Int32)), (.int p0)])) (fun t k => XS.iconst N21.here hx rfl (hb hby d10_135) k) ?_
              by_cases c26 : p0 = (3 : Int32)
              · refine Ends.go (f' := (mkF m 139 #[.val (.int p0), .val (.int p1), .val (.int p2), .val (.int p3), .val (.int p4), .val (.int p5), .val (.int p6), .val (.long (((p1 - (48 : Int32))).toInt64)), .second, .val (.long (((p2 - (48 : Int32))).toInt64)), .second, .val (.long (((p3 - (48 : Int32))).toInt64)), .second, .val (.long ((((((p1 - (48 : Int32))).toInt64) * (100 : Int64)) + ((((p2 - (48 : Int32))).toInt64) * (10 : Int64))) + (((p3 - (48 : Int32))).toInt64))), .second, .unset, .unset, .unset, .unset, .unset, .unset, .unset] [])) (fun t k => XS.icmpNo N21.here hx rfl (hb hby d10_136) rfl (XT.ii_ne_f c26) k) ?_
                refine Ends.go (f' := (mkF m 141 #[.val (.int p0), .val (.int p1), .val (.int p2), .val (.int p3), .val (.int p4), .val (.int p5), .val (.int p6), .val (.long (((p1 - (48 : Int32))).toInt64)), .second, .val (.long (((p2 - (48 : Int32))).toInt64)), .second, .val (.long (((p3 - (48 : Int32))).toInt64)), .second, .val (.long ((((((p1 - (48 : Int32))).toInt64) * (100 : Int64)) + ((((p2 - (48 : Int32))).toInt64) * (10 : Int64))) + (((p3 - (48 : Int32))).toInt64))), .second, .unset, .unset, .unset, .unset, .unset, .unset, .unset] [(.long ((((((p1 - (48 : Int32))).toInt64) * (100 : Int64)) + ((((p2 - (48 : Int32))).toInt64) * (10 : Int64))) + (((p3 - (48 : Int32))).toInt64)))])) (fun t k => XT.lload N21.here hx rfl (hb hby d10_139) rfl k) ?_
                exact retJ N21 hx hlk hret (hb hby d10_141) ⟨by rw [hv]; simp only [f_exp_39, if_neg c11, if_neg c12, if_neg c18, if_neg c19, if_neg c25, if_pos c26], rfl⟩ (nle rfl) (nle rfl)
              · refine Ends.go (f' := (mkF m 142 #[.val (.int p0), .val (.int p1), .val (.int p2), .val (.int p3), .val (.int p4), .val (.int p5), .val (.int p6), .val (.long (((p1 - (48 : Int32))).toInt64)), .second, .val (.long (((p2 - (48 : Int32))).toInt64)), .second, .val (.long (((p3 - (48 : Int32))).toInt64)), .second, .val (.long ((((((p1 - (48 : Int32))).toInt64) * (100 : Int64)) + ((((p2 - (48 : Int32))).toInt64) * (10 : Int64))) + (((p3 - (48 : Int32))).toInt64))), .second, .unset, .unset, .unset, .unset, .unset, .unset, .unset] [])) (fun t k => XS.icmpYes N21.here hx rfl (pc0 := 136) (pc' := 142) rfl (hb hby d10_136) rfl (XT.ii_ne_t c26) (by decide) (by decide) k) ?_
                refine Ends.go (f' := (mkF m 144 #[.val (.int p0), .val (.int p1), .val (.int p2), .val (.int p3), .val (.int p4), .val (.int p5), .val (.int p6), .val (.long (((p1 - (48 : Int32))).toInt64)), .second, .val (.long (((p2 - (48 : Int32))).toInt64)), .second, .val (.long (((p3 - (48 : Int32))).toInt64)), .second, .val (.long ((((((p1 - (48 : Int32))).toInt64) * (100 : Int64)) + ((((p2 - (48 : Int32))).toInt64) * (10 : Int64))) + (((p3 - (48 : Int32))).toInt64))), .second, .unset, .unset, .unset, .unset, .unset, .unset, .unset] [(.int p4)])) (fun t k => XS.iload N21.here hx rfl (hb hby d10_142) rfl k) ?_
                refine gStatic (W := 0) (argsL := [(.int p4)]) (rest := []) N21 hx hZ hown (hw _ (List.mem_of_getElem? (i := 95) rfl)) (hw _ (List.mem_of_getElem? (i := 96) rfl)) (hw _ (List.mem_of_getElem? (i := 2) rfl)) (hw _ (List.mem_of_getElem? (i := 97) rfl)) (by decide) ((rm20 l Z a0 hw p4 h0 N21.ext).back (W := 0) hZ (hw _ (List.mem_of_getElem? (i := 97) rfl)) (hw _ (List.mem_of_getElem? (i := 2) rfl)) (nle rfl) (nle rfl)) (hb hby d10_144) rfl (by rw [hml]; rfl) (lenOf (by decide +kernel : parseMethodDescriptor "(C)Z" = some ⟨[.char], (some .boolean)⟩) rfl) (nle rfl) (nle rfl) (nle rfl) (fun _ _ _ q => q.2) ?_
                rintro _ T27 _ _ N28 ⟨⟨rfl, e_h⟩, -⟩; rw [e_h] at N28; clear e_h
                show Ends p e below _ T27 (mkF m 147 #[.val (.int p0), .val (.int p1), .val (.int p2), .val (.int p3), .val (.int p4), .val (.int p5), .val (.int p6), .val (.long (((p1 - (48 : Int32))).toInt64)), .second, .val (.long (((p2 - (48 : Int32))).toInt64)), .second, .val (.long (((p3 - (48 : Int32))).toInt64)), .second, .val (.long ((((((p1 - (48 : Int32))).toInt64) * (100 : Int64)) + ((((p2 - (48 : Int32))).toInt64) * (10 : Int64))) + (((p3 - (48 : Int32))).toInt64))), .second, .unset, .unset, .unset, .unset, .unset, .unset, .unset] [(.int (f_dig p4))])
                by_cases c32 : (f_dig p4) = 0
                · refine Ends.go (f' := (mkF m 150 #[.val (.int p0), .val (.int p1), .val (.int p2), .val (.int p3), .val (.int p4), .val (.int p5), .val (.int p6), .val (.long (((p1 - (48 : Int32))).toInt64)), .second, .val (.long (((p2 - (48 : Int32))).toInt64)), .second, .val (.long (((p3 - (48 : Int32))).toInt64)), .second, .val (.long ((((((p1 - (48 : Int32))).toInt64) * (100 : Int64)) + ((((p2 - (48 : Int32))).toInt64) * (10 : Int64))) + (((p3 - (48 : Int32))).toInt64))), .second, .unset, .unset, .unset, .unset, .unset, .unset, .unset] [])) (fun t k => XS.ifNo N28.here hx rfl (hb hby d10_147) rfl (XT.i0_ne_f c32) k) ?_
                  refine gLdcJ N28 hx hZ hown (hw _ (List.mem_of_getElem? (i := 55) rfl)) (hb hby d10_150) ?_
                  show Ends p e below _ T27 (mkF m 153 #[.val (.int p0), .val (.int p1), .val (.int p2), .val (.int p3), .val (.int p4), .val (.int p5), .val (.int p6), .val (.long (((p1 - (48 : Int32))).toInt64)), .second, .val (.long (((p2 - (48 : Int32))).toInt64)), .second, .val (.long (((p3 - (48 : Int32))).toInt64)), .second, .val (.long ((((((p1 - (48 : Int32))).toInt64) * (100 : Int64)) + ((((p2 - (48 : Int32))).toInt64) * (10 : Int64))) + (((p3 - (48 : Int32))).toInt64))), .second, .unset, .unset, .unset, .unset, .unset, .unset, .unset] [(.long (-1 : Int64))])
                  exact retJ N28 hx hlk hret (hb hby d10_153) ⟨by rw [hv]; simp only [f_exp_39, if_neg c11, if_neg c12, if_neg c18, if_neg c19, if_neg c25, if_neg c26, if_pos c32], rfl⟩ (nle rfl) (nle rfl)
                · refine Ends.go (f' := (mkF m 154 #[.val (.int p0), .val (.int p1), .val (.int p2), .val (.int p3), .val (.int p4), .val (.int p5), .val (.int p6), .val (.long (((p1 - (48 : Int32))).toInt64)), .second, .val (.long (((p2 - (48 : Int32))).toInt64)), .second, .val (.long (((p3 - (48 : Int32))).toInt64)), .second, .val (.long ((((((p1 - (48 : Int32))).toInt64) * (100 : Int64)) + ((((p2 - (48 : Int32))).toInt64) * (10 : Int64))) + (((p3 - (48 : Int32))).toInt64))), .second, .unset, .unset, .unset, .unset, .unset, .unset, .unset] [])) (fun t k => XS.ifYes N28.here hx rfl (pc0 := 147) (pc' := 154) rfl (hb hby d10_147) rfl (XT.i0_ne_t c32) (by decide) (by decide) k) ?_
                  refine Ends.go (f' := (mkF m 156 #[.val (.int p0), .val (.int p1), .val (.int p2), .val (.int p3), .val (.int p4), .val (.int p5), .val (.int p6), .val (.long (((p1 - (48 : Int32))).toInt64)), .second, .val (.long (((p2 - (48 : Int32))).toInt64)), .second, .val (.long (((p3 - (48 : Int32))).toInt64)), .second, .val (.long ((((((p1 - (48 : Int32))).toInt64) * (100 : Int64)) + ((((p2 - (48 : Int32))).toInt64) * (10 : Int64))) + (((p3 - (48 : Int32))).toInt64))), .second, .unset, .unset, .unset, .unset, .unset, .unset, .unset] [(.int p4)])) (fun t k => XS.iload N28.here hx rfl (hb hby d10_154) rfl k) ?_
                  refine Ends.go (f' := (mkF m 158 #[.val (.int p0), .val (.int p1), .val (.int p2), .val (.int p3), .val (.int p4), .val (.int p5), .val (.int p6), .val (.long (((p1 - (48 : Int32))).toInt64)), .second, .val (.long (((p2 - (48 : Int32))).toInt64)), .second, .val (.long (((p3 - (48 : Int32))).toInt64)), .second, .val (.long ((((((p1 - (48 : Int32))).toInt64) * (100 : Int64)) + ((((p2 - (48 : Int32))).toInt64) * (10 : Int64))) + (((p3 - (48 : Int32))).toInt64))), .second, .unset, .unset, .unset, .unset, .unset, .unset, .unset] [(.int (48 : Int32)), (.int p4)])) (fun t k => XS.bipush N28.here hx rfl (hb hby d10_156) k) ?_
                  refine Ends.go (f' := (mkF m 159 #[.val (.int p0), .val (.int p1), .val (.int p2), .val (.int p3), .val (.int p4), .val (.int p5), .val (.int p6), .val (.long (((p1 - (48 : Int32))).toInt64)), .second, .val (.long (((p2 - (48 : Int32))).toInt64)), .second, .val (.long (((p3 - (48 : Int32))).toInt64)), .second, .val (.long ((((((p1 - (48 : Int32))).toInt64) * (100 : Int64)) + ((((p2 - (48 : Int32))).toInt64) * (10 : Int64))) + (((p3 - (48 : Int32))).toInt64))), .second, .unset, .unset, .unset, .unset, .unset, .unset, .unset] [(.int (p4 - (48 : Int32)))])) (fun t k => XS.isub N28.here hx rfl (hb hby d10_158) rfl k) ?_
                  refine Ends.go (f' := (mkF m 160 #[.val (.int p0), .val (.int p1), .val (.int p2), .val (.int p3), .val (.int p4), .val (.int p5), .val (.int p6), .val (.long (((p1 - (48 : Int32))).toInt64)), .second, .val (.long (((p2 - (48 : Int32))).toInt64)), .second, .val (.long (((p3 - (48 : Int32))).toInt64)), .second, .val (.long ((((((p1 - (48 : Int32))).toInt64) * (100 : Int64)) + ((((p2 - (48 : Int32))).toInt64) * (10 : Int64))) + (((p3 - (48 : Int32))).toInt64))), .second, .unset, .unset, .unset, .unset, .unset, .unset, .unset] [(.long (((p4 - (48 : Int32))).toInt64))])) (fun t k => XT.i2l N28.here hx rfl (hb hby d10_159) rfl k) ?_
                  refine Ends.go (f' := (mkF m 162 #[.val (.int p0), .val (.int p1), .val (.int p2), .val (.int p3), .val (.int p4), .val (.int p5), .val (.int p6), .val (.long (((p1 - (48 : Int32))).toInt64)), .second, .val (.long (((p2 - (48 : Int32))).toInt64)), .second, .val (.long (((p3 - (48 : Int32))).toInt64)), .second, .val (.long ((((((p1 - (48 : Int32))).toInt64) * (100 : Int64)) + ((((p2 - (48 : Int32))).toInt64) * (10 : Int64))) + (((p3 - (48 : Int32))).toInt64))), .second, .val (.long (((p4 - (48 : Int32))).toInt64)), .second, .unset, .unset, .unset, .unset, .unset] [])) (fun t k => XT.lstore N28.here hx rfl (hb hby d10_160) rfl (l' := #[.val (.int p0), .val (.int p1), .val (.int p2), .val (.int p3), .val (.int p4), .val (.int p5), .val (.int p6), .val (.long (((p1 - (48 : Int32))).toInt64)), .second, .val (.long (((p2 - (48 : Int32))).toInt64)), .second, .val (.long (((p3 - (48 : Int32))).toInt64)), .second, .val (.long ((((((p1 - (48 : Int32))).toInt64) * (100 : Int64)) + ((((p2 - (48 : Int32))).toInt64) * (10 : Int64))) + (((p3 - (48 : Int32))).toInt64))), .second, .val (.long (((p4 - (48 : Int32))).toInt64)), .second, .unset, .unset, .unset, .unset, .unset]) rfl k) ?_
                  refine Ends.go (f' := (mkF m 163 #[.val (.int p0), .val (.int p1), .val (.int p2), .val (.int p3), .val (.int p4), .val (.int p5), .val (.int p6), .val (.long (((p1 - (48 : Int32))).toInt64)), .second, .val (.long (((p2 - (48 : Int32))).toInt64)), .second, .val (.long (((p3 - (48 : Int32))).toInt64)), .second, .val (.long ((((((p1 - (48 : Int32))).toInt64) * (100 : Int64)) + ((((p2 - (48 : Int32))).toInt64) * (10 : Int64))) + (((p3 - (48 : Int32))).toInt64))), .second, .val (.long (((p4 - (48 : Int32))).toInt64)), .second, .unset, .unset, .unset, .unset, .unset] [(.int p0)])) (fun t k => XS.iloadN N28.here hx rfl (hb hby d10_162) rfl k) ?_
                  refine Ends.go (f' := (mkF m 164 #[.val (.int p0), .val (.int p1), .val (.int p2), .val (.int p3), .val (.int p4), .val (.int p5), .val (.int p6), .val (.long (((p1 - (48 : Int32))).toInt64)), .second, .val (.long (((p2 - (48 : Int32))).toInt64)), .second, .val (.long (((p3 - (48 : Int32))).toInt64)), .second, .val (.long ((((((p1 - (48 : Int32))).toInt64) * (100 : Int64)) + ((((p2 - (48 : Int32))).toInt64) * (10 : Int64))) + (((p3 - (48 : Int32))).toInt64))), .second, .val (.long (((p4 - (48 : Int32))).toInt64)), .second, .unset, .unset, .unset, .unset, .unset] [(.int (4 : Int32)), (.int p0)])) (fun t k => XS.iconst N28.here hx rfl (hb hby d10_163) k) ?_
                  refine Ends.go (f' := (mkF m 165 #[.val (.int p0), .val (.int p1), .val (.int p2), .val (.int p3), .val (.int p4), .val (.int p5), .val (.int p6), .val (.long (((p1 - (48 : Int32))).toInt64)), .second, .val (.long (((p2 - (48 : Int32))).toInt64)), .second, .val (.long (((p3 - (48 : Int32))).toInt64)), .second, .val (.long ((((((p1 - (48 : Int32))).toInt64) * (100 : Int64)) + ((((p2 - (48 : Int32))).toInt64) * (10 : Int64))) + (((p3 - (48 : Int32))).toInt64))), .second, .val (.long (((p4 - (48 : Int32))).toInt64)), .second, .unset, .unset, .unset, .unset, .unset] [(.int (p0 - (4 : Int32)))])) (fun t k => XS.isub N28.here hx rfl (hb hby d10_164) rfl k) ?_
                  refine Ends.go (f' := (mkF m 167 #[.val (.int p0), .val (.int p1), .val (.int p2), .val (.int p3), .val (.int p4), .val (.int p5), .val (.int p6), .val (.long (((p1 - (48 : Int32))).toInt64)), .second, .val (.long (((p2 - (48 : Int32))).toInt64)), .second, .val (.long (((p3 - (48 : Int32))).toInt64)), .second, .val (.long ((((((p1 - (48 : Int32))).toInt64) * (100 : Int64)) + ((((p2 - (48 : Int32))).toInt64) * (10 : Int64))) + (((p3 - (48 : Int32))).toInt64))), .second, .val (.long (((p4 - (48 : Int32))).toInt64)), .second, .val (.int (p0 - (4 : Int32))), .unset, .unset, .unset, .unset] [])) (fun t k => XS.istore N28.here hx rfl (hb hby d10_165) rfl (l' := #[.val (.int p0), .val (.int p1), .val (.int p2), .val (.int p3), .val (.int p4), .val (.int p5), .val (.int p6), .val (.long (((p1 - (48 : Int32))).toInt64)), .second, .val (.long (((p2 - (48 : Int32))).toInt64)), .second, .val (.long (((p3 - (48 : Int32))).toInt64)), .second, .val (.long ((((((p1 - (48 : Int32))).toInt64) * (100 : Int64)) + ((((p2 - (48 : Int32))).toInt64) * (10 : Int64))) + (((p3 - (48 : Int32))).toInt64))), .second, .val (.long (((p4 - (48 : Int32))).toInt64)), .second, .val (.int (p0 - (4 : Int32))), .unset, .unset, .unset, .unset]) rfl k) ?_
                  refine Ends.go (f' := (mkF m 169 #[.val (.int p0), .val (.int p1), .val (.int p2), .val (.int p3), .val (.int p4), .val (.int p5), .val (.int p6), .val (.long (((p1 - (48 : Int32))).toInt64)), .second, .val (.long (((p2 - (48 : Int32))).toInt64)), .second, .val (.long (((p3 - (48 : Int32))).toInt64)), .second, .val (.long ((((((p1 - (48 : Int32))).toInt64) * (100 : Int64)) + ((((p2 - (48 : Int32))).toInt64) * (10 : Int64))) + (((p3 - (48 : Int32))).toInt64))), .second, .val (.long (((p4 - (48 : Int32))).toInt64)), .second, .val (.int (p0 - (4 : Int32))), .unset, .unset, .unset, .unset] [(.int (p0 - (4 : Int32)))])) (fun t k => XS.iload N28.here hx rfl (hb hby d10_167) rfl k) ?_
                  by_cases c33 : 0 < (p0 - (4 : Int32))
                  · refine Ends.go (f' := (mkF m 172 #[.val (.int p0), .val (.int p1), .val (.int p2), .val (.int p3), .val (.int p4), .val (.int p5), .val (.int p6), .val (.long (((p1 - (48 : Int32))).toInt64)), .second, .val (.long (((p2 - (48 : Int32))).toInt64)), .second, .val (.long (((p3 - (48 : Int32))).toInt64)), .second, .val (.long ((((((p1 - (48 : Int32))).toInt64) * (100 : Int64)) + ((((p2 - (48 : Int32))).toInt64) * (10 : Int64))) + (((p3 - (48 : Int32))).toInt64))), .second, .val (.long (((p4 - (48 : Int32))).toInt64)), .second, .val (.int (p0 - (4 : Int32))), .unset, .unset, .unset, .unset] [])) (fun t k => XS.ifNo N28.here hx rfl (hb hby d10_169) rfl (XT.i0_le_f c33) k) ?_
                    refine Ends.go (f' := (mkF m 174 #[.val (.int p0), .val (.int p1), .val (.int p2), .val (.int p3), .val (.int p4), .val (.int p5), .val (.int p6), .val (.long (((p1 - (48 : Int32))).toInt64)), .second, .val (.long (((p2 - (48 : Int32))).toInt64)), .second, .val (.long (((p3 - (48 : Int32))).toInt64)), .second, .val (.long ((((((p1 - (48 : Int32))).toInt64) * (100 : Int64)) + ((((p2 - (48 : Int32))).toInt64) * (10 : Int64))) + (((p3 - (48 : Int32))).toInt64))), .second, .val (.long (((p4 - (48 : Int32))).toInt64)), .second, .val (.int (p0 - (4 : Int32))), .unset, .unset, .unset, .unset] [(.int p5)])) (fun t k => XS.iload N28.here hx rfl (hb hby d10_172) rfl k) ?_
                    refine gStatic (W := 0) (argsL := [(.int p5)]) (rest := []) N28 hx hZ hown (hw _ (List.mem_of_getElem? (i := 95) rfl)) (hw _ (List.mem_of_getElem? (i := 96) rfl)) (hw _ (List.mem_of_getElem? (i := 2) rfl)) (hw _ (List.mem_of_getElem? (i := 97) rfl)) (by decide) ((rm20 l Z a0 hw p5 h0 N28.ext).back (W := 0) hZ (hw _ (List.mem_of_getElem? (i := 97) rfl)) (hw _ (List.mem_of_getElem? (i := 2) rfl)) (nle rfl) (nle rfl)) (hb hby d10_174) rfl (by rw [hml]; rfl) (lenOf (by decide +kernel : parseMethodDescriptor "(C)Z" = some ⟨[.char], (some .boolean)⟩) rfl) (nle rfl) (nle rfl) (nle rfl) (fun _ _ _ q => q.2) ?_
                    rintro _ T34 _ _ N35 ⟨⟨rfl, e_h⟩, -⟩; rw [e_h] at N35; clear e_h
                    show Ends p e below _ T34 (mkF m 177 #[.val (.int p0), .val (.int p1), .val (.int p2), .val (.int p3), .val (.int p4), .val (.int p5), .val (.int p6), .val (.long (((p1 - (48 : Int32))).toInt64)), .second, .val (.long (((p2 - (48 : Int32))).toInt64)), .second, .val (.long (((p3 - (48 : Int32))).toInt64)), .second, .val (.long ((((((p1 - (48 : Int32))).toInt64) * (100 : Int64)) + ((((p2 - (48 : Int32))).toInt64) * (10 : Int64))) + (((p3 - (48 : Int32))).toInt64))), .second, .val (.long (((p4 - (48 : Int32))).toInt64)), .second, .val (.int (p0 - (4 : Int32))), .unset, .unset, .unset, .unset] [(.int (f_dig p5))])
                    by_cases c39 : (f_dig p5) = 0
                    · refine Ends.go (f' := (mkF m 180 #[.val (.int p0), .val (.int p1), .val (.int p2), .val (.int p3), .val (.int p4), .val (.int p5), .val (.int p6), .val (.long (((p1 - (48 : Int32))).toInt64)), .second, .val (.long (((p2 - (48 : Int32))).toInt64)), .second, .val (.long (((p3 - (48 : Int32))).toInt64)), .second, .val (.long ((((((p1 - (48 : Int32))).toInt64) * (100 : Int64)) + ((((p2 - (48 : Int32))).toInt64) * (10 : Int64))) + (((p3 - (48 : Int32))).toInt64))), .second, .val (.long (((p4 - (48 : Int32))).toInt64)), .second, .val (.int (p0 - (4 : Int32))), .unset, .unset, .unset, .unset] [])) (fun t k => XS.ifNo N35.here hx rfl (hb hby d10_177) rfl (XT.i0_ne_f c39) k) ?_
                      refine gLdcJ N35 hx hZ hown (hw _ (List.mem_of_getElem? (i := 55) rfl)) (hb hby d10_180) ?_
                      show Ends p e below _ T34 (mkF m 183 #[.val (.int p0), .val (.int p1), .val (.int p2), .val (.int p3), .val (.int p4), .val (.int p5), .val (.int p6), .val (.long (((p1 - (48 : Int32))).toInt64)), .second, .val (.long (((p2 - (48 : Int32))).toInt64)), .second, .val (.long (((p3 - (48 : Int32))).toInt64)), .second, .val (.long ((((((p1 - (48 : Int32))).toInt64) * (100 : Int64)) + ((((p2 - (48 : Int32))).toInt64) * (10 : Int64))) + (((p3 - (48 : Int32))).toInt64))), .second, .val (.long (((p4 - (48 : Int32))).toInt64)), .second, .val (.int (p0 - (4 : Int32))), .unset, .unset, .unset, .unset] [(.long (-1 : Int64))])
                      exact retJ N35 hx hlk hret (hb hby d10_183) ⟨by rw [hv]; simp only [f_exp_39, if_neg c11, if_neg c12, if_neg c18, if_neg c19, if_neg c25, if_neg c26, if_neg c32, if_pos c33, if_pos c39], rfl⟩ (nle rfl) (nle rfl)
                    · refine Ends.go (f' := (mkF m 184 #[.val (.int p0), .val (.int p1), .val (.int p2), .val (.int p3), .val (.int p4), .val (.int p5), .val (.int p6), .val (.long (((p1 - (48 : Int32))).toInt64)), .second, .val (.long (((p2 - (48 : Int32))).toInt64)), .second, .val (.long (((p3 - (48 : Int32))).toInt64)), .second, .val (.long ((((((p1 - (48 : Int32))).toInt64) * (100 : Int64)) + ((((p2 - (48 : Int32))).toInt64) * (10 : Int64))) + (((p3 - (48 : Int32))).toInt64))), .second, .val (.long (((p4 - (48 : Int32))).toInt64)), .second, .val (.int (p0 - (4 : Int32))), .unset, .unset, .unset, .unset] [])) (fun t k => XS.ifYes N35.here hx rfl (pc0 := 177) (pc' := 184) rfl (hb hby d10_177) rfl (XT.i0_ne_t c39) (by decide) (by decide) k) ?_
                      exact j184 T34 N35 (by rw [hv]; simp only [f_exp_39, if_neg c11, if_neg c12, if_neg c18, if_neg c19, if_neg c25, if_neg c26, if_neg c32, if_pos c33, if_neg c39])
                  · refine Ends.go (f' := (mkF m 184 #[.val (.int p0), .val (.int p1), .val (.int p2), .val (.int p3), .val (.int p4), .val (.int p5), .val (.int p6), .val (.long (((p1 - (48 : Int32))).toInt64)), .second, .val (.long (((p2 - (48 : Int32))).toInt64)), .second, .val (.long (((p3 - (48 : Int32))).toInt64)), .second, .val (.long ((((((p1 - (48 : Int32))).toInt64) * (100 : Int64)) + ((((p2 - (48 : Int32))).toInt64) * (10 : Int64))) + (((p3 - (48 : Int32))).toInt64))), .second, .val (.long (((p4 - (48 : Int32))).toInt64)), .second, .val (.int (p0 - (4 : Int32))), .unset, .unset, .unset, .unset] [])) (fun t k => XS.ifYes N28.here hx rfl (pc0 := 169) (pc' := 184) rfl (hb hby d10_169) rfl (XT.i0_le_t c33) (by decide) (by decide) k) ?_
                    exact j184 T27 N28 (by rw [hv]; simp only [f_exp_39, if_neg c11, if_neg c12, if_neg c18, if_neg c19, if_neg c25, if_neg c26, if_neg c32, if_neg c33])
  refine Ends.go (f' := (mkF m 1 #[.val (.int p0), .val (.int p1), .val (.int p2), .val (.int p3), .val (.int p4), .val (.int p5), .val (.int p6), .unset, .unset, .unset, .unset, .unset, .unset, .unset, .unset, .unset, .unset, .unset, .unset, .unset, .unset, .unset] [(.int p0)])) (fun t k => XS.iloadN N0.here hx rfl (hb hby d10_0) rfl k) ?_
  by_cases c1 : p0 = 0
  · refine Ends.go (f' := (mkF m 4 #[.val (.int p0), .val (.int p1), .val (.int p2), .val (.int p3), .val (.int p4), .val (.int p5), .val (.int p6), .unset, .unset, .unset, .unset, .unset, .unset, .unset, .unset, .unset, .unset, .unset, .unset, .unset, .unset, .unset] [])) (fun t k => XS.ifNo N0.here hx rfl (hb hby d10_1) rfl (XT.i0_ne_f c1) k) ?_
    refine gLdcJ N0 hx hZ hown (hw _ (List.mem_of_getElem? (i := 55) rfl)) (hb hby d10_4) ?_
    show Ends p e below _ T0 (mkF m 7 #[.val (.int p0), .val (.int p1), .val (.int p2), .val (.int p3), .val (.int p4), .val (.int p5), .val (.int p6), .unset, .unset, .unset, .unset, .unset, .unset, .unset, .unset, .unset, .unset, .unset, .unset, .unset, .unset, .unset] [(.long (-1 : Int64))])
    exact retJ N0 hx hlk hret (hb hby d10_7) ⟨by simp only [f_exp, if_pos c1], rfl⟩ (nle rfl) (nle rfl)
  · refine Ends.go (f' := (mkF m 8 #[.val (.int p0), .val (.int p1), .val (.int p2), .val (.int p3), .val (.int p4), .val (.int p5), .val (.int p6), .unset, .unset, .unset, .unset, .unset, .unset, .unset, .unset, .unset, .unset, .unset, .unset, .unset, .unset, .unset] [])) (fun t k => XS.ifYes N0.here hx rfl (pc0 := 1) (pc' := 8) rfl (hb hby d10_1) rfl (XT.i0_ne_t c1) (by decide) (by decide) k) ?_
    refine Ends.go (f' := (mkF m 9 #[.val (.int p0), .val (.int p1), .val (.int p2), .val (.int p3), .val (.int p4), .val (.int p5), .val (.int p6), .unset, .unset, .unset, .unset, .unset, .unset, .unset, .unset, .unset, .unset, .unset, .unset, .unset, .unset, .unset] [(.int p0)])) (fun t k => XS.iloadN N0.here hx rfl (hb hby d10_8) rfl k) ?_
    refine Ends.go (f' := (mkF m 11 #[.val (.int p0), .val (.int p1), .val (.int p2), .val (.int p3), .val (.int p4), .val (.int p5), .val (.int p6), .unset, .unset, .unset, .unset, .unset, .unset, .unset, .unset, .unset, .unset, .unset, .unset, .unset, .unset, .unset] [(.int p6), (.int p0)])) (fun t k => XS.iload N0.here hx rfl (hb hby d10_9) rfl k) ?_
    by_cases c2 : p6 < p0
    · refine Ends.go (f' := (mkF m 20 #[.val (.int p0), .val (.int p1), .val (.int p2), .val (.int p3), .val (.int p4), .val (.int p5), .val (.int p6), .unset, .unset, .unset, .unset, .unset, .unset, .unset, .unset, .unset, .unset, .unset, .unset, .unset, .unset, .unset] [])) (fun t k => XS.icmpYes N0.here hx rfl (pc0 := 11) (pc' := 20) rfl (hb hby d10_11) rfl (XT.ii_gt_t c2) (by decide) (by decide) k) ?_
      refine gLdcJ N0 hx hZ hown (hw _ (List.mem_of_getElem? (i := 55) rfl)) (hb hby d10_20) ?_
      show Ends p e below _ T0 (mkF m 23 #[.val (.int p0), .val (.int p1), .val (.int p2), .val (.int p3), .val (.int p4), .val (.int p5), .val (.int p6), .unset, .unset, .unset, .unset, .unset, .unset, .unset, .unset, .unset, .unset, .unset, .unset, .unset, .unset, .unset] [(.long (-1 : Int64))])
      exact retJ N0 hx hlk hret (hb hby d10_23) ⟨by simp only [f_exp, if_neg c1, if_pos c2], rfl⟩ (nle rfl) (nle rfl)
    · refine Ends.go (f' := (mkF m 14 #[.val (.int p0), .val (.int p1), .val (.int p2), .val (.int p3), .val (.int p4), .val (.int p5), .val (.int p6), .unset, .unset, .unset, .unset, .unset, .unset, .unset, .unset, .unset, .unset, .unset, .unset, .unset, .unset, .unset] [])) (fun t k => XS.icmpNo N0.here hx rfl (hb hby d10_11) rfl (XT.ii_gt_f c2) k) ?_
      refine Ends.go (f' := (mkF m 15 #[.val (.int p0), .val (.int p1), .val (.int p2), .val (.int p3), .val (.int p4), .val (.int p5), .val (.int p6), .unset, .unset, .unset, .unset, .unset, .unset, .unset, .unset, .unset, .unset, .unset, .unset, .unset, .unset, .unset] [(.int p0)])) (fun t k => XS.iloadN N0.here hx rfl (hb hby d10_14) rfl k) ?_
      refine Ends.go (f' := (mkF m 17 #[.val (.int p0), .val (.int p1), .val (.int p2), .val (.int p3), .val (.int p4), .val (.int p5), .val (.int p6), .unset, .unset, .unset, .unset, .unset, .unset, .unset, .unset, .unset, .unset, .unset, .unset, .unset, .unset, .unset] [(.int (18 : Int32)), (.int p0)])) (fun t k => XS.bipush N0.here hx rfl (hb hby d10_15) k) ?_
      by_cases c3 : (18 : Int32) < p0
      · refine Ends.go (f' := (mkF m 20 #[.val (.int p0), .val (.int p1), .val (.int p2), .val (.int p3), .val (.int p4), .val (.int p5), .val (.int p6), .unset, .unset, .unset, .unset, .unset, .unset, .unset, .unset, .unset, .unset, .unset, .unset, .unset, .unset, .unset] [])) (fun t k => XS.icmpNo N0.here hx rfl (hb hby d10_17) rfl (XT.ii_le_f c3) k) ?_
        refine gLdcJ N0 hx hZ hown (hw _ (List.mem_of_getElem? (i := 55) rfl)) (hb hby d10_20) ?_
        show Ends p e below _ T0 (mkF m 23 #[.val (.int p0), .val (.int p1), .val (.int p2), .val (.int p3), .val (.int p4), .val (.int p5), .val (.int p6), .unset, .unset, .unset, .unset, .unset, .unset, .unset, .unset, .unset, .unset, .unset, .unset, .unset, .unset, .unset] [(.long (-1 : Int64))])
        exact retJ N0 hx hlk hret (hb hby d10_23) ⟨by simp only [f_exp, if_neg c1, if_neg c2, if_pos c3], rfl⟩ (nle rfl) (nle rfl)
      · refine Ends.go (f' := (mkF m 24 #[.val (.int p0), .val (.int p1), .val (.int p2), .val (.int p3), .val (.int p4), .val (.int p5), .val (.int p6), .unset, .unset, .unset, .unset, .unset, .unset, .unset, .unset, .unset, .unset, .unset, .unset, .unset, .unset, .unset] [])) (fun t k => XS.icmpYes N0.here hx rfl (pc0 := 17) (pc' := 24) rfl (hb hby d10_17) rfl (XT.ii_le_t c3) (by decide) (by decide) k) ?_
        refine Ends.go (f' := (mkF m 25 #[.val (.int p0), .val (.int p1), .val (.int p2), .val (.int p3), .val (.int p4), .val (.int p5), .val (.int p6), .unset, .unset, .unset, .unset, .unset, .unset, .unset, .unset, .unset, .unset, .unset, .unset, .unset, .unset, .unset] [(.int p0)])) (fun t k => XS.iloadN N0.here hx rfl (hb hby d10_24) rfl k) ?_
        refine Ends.go (f' := (mkF m 26 #[.val (.int p0), .val (.int p1), .val (.int p2), .val (.int p3), .val (.int p4), .val (.int p5), .val (.int p6), .unset, .unset, .unset, .unset, .unset, .unset, .unset, .unset, .unset, .unset, .unset, .unset, .unset, .unset, .unset] [(.int (1 : Int32)), (.int p0)])) (fun t k => XS.iconst N0.here hx rfl (hb hby d10_25) k) ?_
        by_cases c4 : (1 : Int32) < p0
        · refine Ends.go (f' := (mkF m 29 #[.val (.int p0), .val (.int p1), .val (.int p2), .val (.int p3), .val (.int p4), .val (.int p5), .val (.int p6), .unset, .unset, .unset, .unset, .unset, .unset, .unset, .unset, .unset, .unset, .unset, .unset, .unset, .unset, .unset] [])) (fun t k => XS.icmpNo N0.here hx rfl (hb hby d10_26) rfl (XT.ii_le_f c4) k) ?_
          refine Ends.go (f' := (mkF m 30 #[.val (.int p0), .val (.int p1), .val (.int p2), .val (.int p3), .val (.int p4), .val (.int p5), .val (.int p6), .unset, .unset, .unset, .unset, .unset, .unset, .unset, .unset, .unset, .unset, .unset, .unset, .unset, .unset, .unset] [(.int p1)])) (fun t k => XS.iloadN N0.here hx rfl (hb hby d10_29) rfl k) ?_
          refine Ends.go (f' := (mkF m 32 #[.val (.int p0), .val (.int p1), .val (.int p2), .val (.int p3), .val (.int p4), .val (.int p5), .val (.int p6), .unset, .unset, .unset, .unset, .unset, .unset, .unset, .unset, .unset, .unset, .unset, .unset, .unset, .unset, .unset] [(.int (48 : Int32)), (.int p1)])) (fun t k => XS.bipush N0.here hx rfl (hb hby d10_30) k) ?_
          by_cases c5 : p1 = (48 : Int32)
          · refine Ends.go (f' := (mkF m 35 #[.val (.int p0), .val (.int p1), .val (.int p2), .val (.int p3), .val (.int p4), .val (.int p5), .val (.int p6), .unset, .unset, .unset, .unset, .unset, .unset, .unset, .unset, .unset, .unset, .unset, .unset, .unset, .unset, .unset] [])) (fun t k => XS.icmpNo N0.here hx rfl (hb hby d10_32) rfl (XT.ii_ne_f c5) k) ?_
            refine gLdcJ N0 hx hZ hown (hw _ (List.mem_of_getElem? (i := 55) rfl)) (hb hby d10_35) ?_
            show Ends p e below _ T0 (mkF m 38 #[.val (.int p0), .val (.int p1), .val (.int p2), .val (.int p3), .val (.int p4), .val (.int p5), .val (.int p6), .unset, .unset, .unset, .unset, .unset, .unset, .unset, .unset, .unset, .unset, .unset, .unset, .unset, .unset, .unset] [(.long (-1 : Int64))])
            exact retJ N0 hx hlk hret (hb hby d10_38) ⟨by simp only [f_exp, if_neg c1, if_neg c2, if_neg c3, if_pos c4, if_pos c5], rfl⟩ (nle rfl) (nle rfl)
          · refine Ends.go (f' := (mkF m 39 #[.val (.int p0), .val (.int p1), .val (.int p2), .val (.int p3), .val (.int p4), .val (.int p5), .val (.int p6), .unset, .unset, .unset, .unset, .unset, .unset, .unset, .unset, .unset, .unset, .unset, .unset, .unset, .unset, .unset] [])) (fun t k => XS.icmpYes N0.here hx rfl (pc0 := 32) (pc' := 39) rfl (hb hby d10_32) rfl (XT.ii_ne_t c5) (by decide) (by decide) k) ?_
            exact j39 T0 N0 (by simp only [f_exp, if_neg c1, if_neg c2, if_neg c3, if_pos c4, if_neg c5])
        · refine Ends.go (f' := (mkF m 39 #[.val (.int p0), .val (.int p1), .val (.int p2), .val (.int p3), .val (.int p4), .val (.int p5), .val (.int p6), .unset, .unset, .unset, .unset, .unset, .unset, .unset, .unset, .unset, .unset, .unset, .unset, .unset, .unset, .unset] [])) (fun t k => XS.icmpYes N0.here hx rfl (pc0 := 26) (pc' := 39) rfl (hb hby d10_26) rfl (XT.ii_le_t c4) (by decide) (by decide) k) ?_
          exact j39 T0 N0 (by simp only [f_exp, if_neg c1, if_neg c2, if_neg c3, if_neg c4])
def parseGo : List Int32 → Int64 → Int64
  | [], v => v
  | c :: r, v => if c < (48 : Int32) then (-1 : Int64) else if (57 : Int32) < c then (-1 : Int64) else parseGo r (v * (10 : Int64) + (c - (48 : Int32)).toInt64)
def parseSpec (cs : List Int32) (mx : Int32) : Int64 := if Int32.ofNat cs.length = 0 then (-1 : Int64) else if f_min mx (18 : Int32) < Int32.ofNat cs.length then (-1 : Int64) else if (1 : Int32) < Int32.ofNat cs.length then (if cs.getD 0 0 = (48 : Int32) then (-1 : Int64) else parseGo cs 0) else parseGo cs 0
theorem ofNat_toInt {i : Nat} (h : i ≤ 4000) : (Int32.ofNat i).toInt = i := len_toInt (by omega)
theorem ofNat_lt {i j : Nat} (hi : i ≤ 4000) (hj : j ≤ 4000) : Int32.ofNat i < Int32.ofNat j ↔ i < j := by
  rw [Int32.lt_iff_toInt_lt, ofNat_toInt hi, ofNat_toInt hj]; omega
theorem ofNat_succ (i : Nat) : Int32.ofNat i + (1 : Int32) = Int32.ofNat (i + 1) := by rw [Int32.ofNat_add]; rfl
theorem drop_cons {cs r : List Int32} {c : Int32} {i : Nat} (h : cs.drop i = c :: r) : i < cs.length ∧ cs.getD i 0 = c ∧ cs.drop (i + 1) = r := by
  have h1 : i < cs.length := by
    rcases Nat.lt_or_ge i cs.length with q | q
    · exact q
    · rw [List.drop_eq_nil_of_le q] at h; cases h
  have h2 := List.drop_eq_getElem_cons h1
  rw [h2] at h
  injection h with e1 e2
  exact ⟨h1, by simp [List.getD_eq_getElem?_getD, h1, e1], e2⟩
theorem fr_nil {Z : State} {L : List Loc} (q : L = []) : Fr Z.heap.size L := q ▸ Fr.nil _
theorem d7_0 : decode prog_6_method_2_code 0 = .ok (.aload_n 0, 1) := by decide +kernel
theorem d7_1 : decode prog_6_method_2_code 1 = .ok (.invokeinterface 7 1, 5) := by decide +kernel
theorem d7_6 : decode prog_6_method_2_code 6 = .ok (.istore_n 2, 1) := by decide +kernel
theorem d7_7 : decode prog_6_method_2_code 7 = .ok (.iload_n 2, 1) := by decide +kernel
theorem d7_8 : decode prog_6_method_2_code 8 = .ok (.ifCond .eq 30, 3) := by decide +kernel
theorem d7_11 : decode prog_6_method_2_code 11 = .ok (.iload_n 2, 1) := by decide +kernel
theorem d7_12 : decode prog_6_method_2_code 12 = .ok (.iload_n 1, 1) := by decide +kernel
theorem d7_13 : decode prog_6_method_2_code 13 = .ok (.bipush 18, 2) := by decide +kernel
theorem d7_15 : decode prog_6_method_2_code 15 = .ok (.invokestatic 15, 3) := by decide +kernel
theorem d7_18 : decode prog_6_method_2_code 18 = .ok (.if_icmp .gt 20, 3) := by decide +kernel
theorem d7_21 : decode prog_6_method_2_code 21 = .ok (.iload_n 2, 1) := by decide +kernel
theorem d7_22 : decode prog_6_method_2_code 22 = .ok (.iconst 1, 1) := by decide +kernel
theorem d7_23 : decode prog_6_method_2_code 23 = .ok (.if_icmp .le 19, 3) := by decide +kernel
theorem d7_26 : decode prog_6_method_2_code 26 = .ok (.aload_n 0, 1) := by decide +kernel
theorem d7_27 : decode prog_6_method_2_code 27 = .ok (.iconst 0, 1) := by decide +kernel
theorem d7_28 : decode prog_6_method_2_code 28 = .ok (.invokeinterface 21 2, 5) := by decide +kernel
theorem d7_33 : decode prog_6_method_2_code 33 = .ok (.bipush 48, 2) := by decide +kernel
theorem d7_35 : decode prog_6_method_2_code 35 = .ok (.if_icmp .ne 7, 3) := by decide +kernel
theorem d7_38 : decode prog_6_method_2_code 38 = .ok (.ldc2_w 25, 3) := by decide +kernel
theorem d7_41 : decode prog_6_method_2_code 41 = .ok (.lreturn, 1) := by decide +kernel
theorem d7_42 : decode prog_6_method_2_code 42 = .ok (.lconst 0, 1) := by decide +kernel
theorem d7_43 : decode prog_6_method_2_code 43 = .ok (.lstore_n 3, 1) := by decide +kernel
theorem d7_44 : decode prog_6_method_2_code 44 = .ok (.iconst 0, 1) := by decide +kernel
theorem d7_45 : decode prog_6_method_2_code 45 = .ok (.istore 5, 2) := by decide +kernel
theorem d7_47 : decode prog_6_method_2_code 47 = .ok (.iload 5, 2) := by decide +kernel
theorem d7_49 : decode prog_6_method_2_code 49 = .ok (.iload_n 2, 1) := by decide +kernel
theorem d7_50 : decode prog_6_method_2_code 50 = .ok (.if_icmp .ge 50, 3) := by decide +kernel
theorem d7_53 : decode prog_6_method_2_code 53 = .ok (.aload_n 0, 1) := by decide +kernel
theorem d7_54 : decode prog_6_method_2_code 54 = .ok (.iload 5, 2) := by decide +kernel
theorem d7_56 : decode prog_6_method_2_code 56 = .ok (.invokeinterface 21 2, 5) := by decide +kernel
theorem d7_61 : decode prog_6_method_2_code 61 = .ok (.istore 6, 2) := by decide +kernel
theorem d7_63 : decode prog_6_method_2_code 63 = .ok (.iload 6, 2) := by decide +kernel
theorem d7_65 : decode prog_6_method_2_code 65 = .ok (.bipush 48, 2) := by decide +kernel
theorem d7_67 : decode prog_6_method_2_code 67 = .ok (.if_icmp .lt 10, 3) := by decide +kernel
theorem d7_70 : decode prog_6_method_2_code 70 = .ok (.iload 6, 2) := by decide +kernel
theorem d7_72 : decode prog_6_method_2_code 72 = .ok (.bipush 57, 2) := by decide +kernel
theorem d7_74 : decode prog_6_method_2_code 74 = .ok (.if_icmp .le 7, 3) := by decide +kernel
theorem d7_77 : decode prog_6_method_2_code 77 = .ok (.ldc2_w 25, 3) := by decide +kernel
theorem d7_80 : decode prog_6_method_2_code 80 = .ok (.lreturn, 1) := by decide +kernel
theorem d7_81 : decode prog_6_method_2_code 81 = .ok (.lload_n 3, 1) := by decide +kernel
theorem d7_82 : decode prog_6_method_2_code 82 = .ok (.ldc2_w 27, 3) := by decide +kernel
theorem d7_85 : decode prog_6_method_2_code 85 = .ok (.lmul, 1) := by decide +kernel
theorem d7_86 : decode prog_6_method_2_code 86 = .ok (.iload 6, 2) := by decide +kernel
theorem d7_88 : decode prog_6_method_2_code 88 = .ok (.bipush 48, 2) := by decide +kernel
theorem d7_90 : decode prog_6_method_2_code 90 = .ok (.isub, 1) := by decide +kernel
theorem d7_91 : decode prog_6_method_2_code 91 = .ok (.i2l, 1) := by decide +kernel
theorem d7_92 : decode prog_6_method_2_code 92 = .ok (.ladd, 1) := by decide +kernel
theorem d7_93 : decode prog_6_method_2_code 93 = .ok (.lstore_n 3, 1) := by decide +kernel
theorem d7_94 : decode prog_6_method_2_code 94 = .ok (.iinc 5 1, 3) := by decide +kernel
theorem d7_97 : decode prog_6_method_2_code 97 = .ok (.goto (-50), 3) := by decide +kernel
theorem d7_100 : decode prog_6_method_2_code 100 = .ok (.lload_n 3, 1) := by decide +kernel
theorem d7_101 : decode prog_6_method_2_code 101 = .ok (.lreturn, 1) := by decide +kernel
set_option maxRecDepth 65536 in
set_option maxHeartbeats 40000000 in
theorem rm7 (l : Launch) (Z : State) (a0 : Array Value) (hw : ∀ d ∈ tables_1, d.before a0 Z = true) (a : Addr) (mx : Int32) (cs : List Int32) (h0 : Heap) (Z0 : Ext Z.heap h0) (G : Jdk Z) (S : Str Z h0 a cs) :
    MetN l Z (⟨"com/example/askel/askel/Decimal", "parse", "(Ljava/lang/CharSequence;I)J"⟩ : MethodName) prog_6_method_2_code 7 (some .long) [] ({ frames := 4, cells := 0, slots := 0, locals := 70 } : Room) #[(.ref a), (.int mx)] h0 (fun v h => v = some (.long (parseSpec cs mx)) ∧ h = h0) := by
  refine metN (by first | exact plainFor_of_name (by first | (simp [plainName, overriddenIn]; done) | decide +kernel) | decide +kernel) Z0 (Ls := #[.val (.ref a), .val (.int mx), .unset, .unset, .unset, .unset, .unset]) (fun m => by first | (simp [entryFrame, mkF, argsToLocals, Value.category]; done) | rfl) ?_
  intro p e s m below meth c T0 hx hby hml hret hlk hown hnm hZ N0
  have loop : ∀ (r : List Int32) (i : Nat) (v : Int64) (T1 : State) (s6 : Slot), One s6 → cs.drop i = r → i ≤ cs.length → i ≤ 4000 → Now p l e ({ frames := 4, cells := 0, slots := 0, locals := 70 } : Room) s m #[(.ref a), (.int mx)] below meth c Z T1 h0 0 0 → parseSpec cs mx = parseGo r v → Ends p e below (PhiN Z s (fun v h => v = some (.long (parseSpec cs mx)) ∧ h = h0) ({ frames := 4, cells := 0, slots := 0, locals := 70 } : Room).cells ({ frames := 4, cells := 0, slots := 0, locals := 70 } : Room).slots) T1 (mkF m 47 #[.val (.ref a), .val (.int mx), .val (.int (Int32.ofNat cs.length)), .val (.long v), .second, .val (.int (Int32.ofNat i)), s6] []) := by
    intro r
    induction r with
    | nil =>
      intro i v T1 s6 hs6 hr hi hi4 N1 hv
      refine Ends.go (f' := (mkF m 49 #[.val (.ref a), .val (.int mx), .val (.int (Int32.ofNat cs.length)), .val (.long v), .second, .val (.int (Int32.ofNat i)), s6] [(.int (Int32.ofNat i))])) (fun t k => XS.iload N1.here hx rfl (hb hby d7_47) rfl k) ?_
      refine Ends.go (f' := (mkF m 50 #[.val (.ref a), .val (.int mx), .val (.int (Int32.ofNat cs.length)), .val (.long v), .second, .val (.int (Int32.ofNat i)), s6] [(.int (Int32.ofNat cs.length)), (.int (Int32.ofNat i))])) (fun t k => XS.iloadN N1.here hx rfl (hb hby d7_49) rfl k) ?_
      refine Ends.go (f' := (mkF m 100 #[.val (.ref a), .val (.int mx), .val (.int (Int32.ofNat cs.length)), .val (.long v), .second, .val (.int (Int32.ofNat i)), s6] [])) (fun t k => XS.icmpYes N1.here hx rfl (pc0 := 50) (pc' := 100) rfl (hb hby d7_50) rfl (XT.ii_ge_t (fun q => by rw [ofNat_lt hi4 S.2.2.2.2] at q; have := List.drop_eq_nil_iff.mp hr; omega)) (by decide) (by decide) k) ?_
      refine Ends.go (f' := (mkF m 101 #[.val (.ref a), .val (.int mx), .val (.int (Int32.ofNat cs.length)), .val (.long v), .second, .val (.int (Int32.ofNat i)), s6] [(.long v)])) (fun t k => XT.lloadN N1.here hx rfl (hb hby d7_100) rfl k) ?_
      exact retJ N1 hx hlk hret (hb hby d7_101) ⟨by rw [hv]; rfl, rfl⟩ (nle rfl) (nle rfl)
    | cons d r ih =>
      intro i v T1 s6 hs6 hr hi hi4 N1 hv
      obtain ⟨hi1, hg, hr1⟩ := drop_cons hr
      refine Ends.go (f' := (mkF m 49 #[.val (.ref a), .val (.int mx), .val (.int (Int32.ofNat cs.length)), .val (.long v), .second, .val (.int (Int32.ofNat i)), s6] [(.int (Int32.ofNat i))])) (fun t k => XS.iload N1.here hx rfl (hb hby d7_47) rfl k) ?_
      refine Ends.go (f' := (mkF m 50 #[.val (.ref a), .val (.int mx), .val (.int (Int32.ofNat cs.length)), .val (.long v), .second, .val (.int (Int32.ofNat i)), s6] [(.int (Int32.ofNat cs.length)), (.int (Int32.ofNat i))])) (fun t k => XS.iloadN N1.here hx rfl (hb hby d7_49) rfl k) ?_
      refine Ends.go (f' := (mkF m 53 #[.val (.ref a), .val (.int mx), .val (.int (Int32.ofNat cs.length)), .val (.long v), .second, .val (.int (Int32.ofNat i)), s6] [])) (fun t k => XS.icmpNo N1.here hx rfl (hb hby d7_50) rfl (XT.ii_ge_f ((ofNat_lt hi4 S.2.2.2.2).mpr hi1)) k) ?_
      refine Ends.go (f' := (mkF m 54 #[.val (.ref a), .val (.int mx), .val (.int (Int32.ofNat cs.length)), .val (.long v), .second, .val (.int (Int32.ofNat i)), s6] [(.ref a)])) (fun t k => XS.aloadN N1.here hx rfl (hb hby d7_53) rfl rfl k) ?_
      refine Ends.go (f' := (mkF m 56 #[.val (.ref a), .val (.int mx), .val (.int (Int32.ofNat cs.length)), .val (.long v), .second, .val (.int (Int32.ofNat i)), s6] [(.int (Int32.ofNat i)), (.ref a)])) (fun t k => XS.iload N1.here hx rfl (hb hby d7_54) rfl k) ?_
      refine gFace (W := 0) (y := (⟨"java/lang/CharSequence", "charAt", "(I)C"⟩ : MethodName)) (z := (⟨"java/lang/String", "charAt", "(I)C"⟩ : MethodName)) (C := "java/lang/String") (b := a) (argsL := [(.int (Int32.ofNat i))]) (rest := []) N1 hx hZ hown (hw _ (List.mem_of_getElem? (i := 70) rfl)) (hw _ (List.mem_of_getElem? (i := 71) rfl)) (mvT hZ (hw _ (List.mem_of_getElem? (i := 72) rfl))) (hw _ (List.mem_of_getElem? (i := 73) rfl)) (hw _ (List.mem_of_getElem? (i := 74) rfl)) (hw _ (List.mem_of_getElem? (i := 75) rfl)) (hw _ (List.mem_of_getElem? (i := 76) rfl)) (hw _ (List.mem_of_getElem? (i := 43) rfl)) (by decide) S.1 (strAt (W := 0) hZ hw G N1.ext S (i := i) hi1 rfl (by decide) (by decide)) (hb hby d7_56) rfl (by rw [hml]; rfl) (lenOf (by decide +kernel : parseMethodDescriptor "(I)C" = some ⟨[.int], (some .char)⟩) rfl) (nle rfl) (nle rfl) (nle rfl) (fun _ _ _ q => fr_nil q.2.1) ?_
      rintro _ T1 _ _ N2 ⟨rfl, -, e_h⟩; rw [e_h] at N2; clear e_h
      show Ends p e below _ T1 (mkF m 61 #[.val (.ref a), .val (.int mx), .val (.int (Int32.ofNat cs.length)), .val (.long v), .second, .val (.int (Int32.ofNat i)), s6] [(.int (cs.getD i 0))])
      rw [hg]
      refine Ends.go (f' := (mkF m 63 #[.val (.ref a), .val (.int mx), .val (.int (Int32.ofNat cs.length)), .val (.long v), .second, .val (.int (Int32.ofNat i)), .val (.int d)] [])) (fun t k => XS.istoreS N2.here hx rfl (hb hby d7_61) rfl (hold := rfl) hs6 k) ?_
      refine Ends.go (f' := (mkF m 65 #[.val (.ref a), .val (.int mx), .val (.int (Int32.ofNat cs.length)), .val (.long v), .second, .val (.int (Int32.ofNat i)), .val (.int d)] [(.int d)])) (fun t k => XS.iload N2.here hx rfl (hb hby d7_63) rfl k) ?_
      refine Ends.go (f' := (mkF m 67 #[.val (.ref a), .val (.int mx), .val (.int (Int32.ofNat cs.length)), .val (.long v), .second, .val (.int (Int32.ofNat i)), .val (.int d)] [(.int (48 : Int32)), (.int d)])) (fun t k => XS.bipush N2.here hx rfl (hb hby d7_65) k) ?_
      by_cases c1 : d < (48 : Int32)
      · refine Ends.go (f' := (mkF m 77 #[.val (.ref a), .val (.int mx), .val (.int (Int32.ofNat cs.length)), .val (.long v), .second, .val (.int (Int32.ofNat i)), .val (.int d)] [])) (fun t k => XS.icmpYes N2.here hx rfl (pc0 := 67) (pc' := 77) rfl (hb hby d7_67) rfl (XT.ii_lt_t c1) (by decide) (by decide) k) ?_
        refine gLdcJ N2 hx hZ hown (hw _ (List.mem_of_getElem? (i := 51) rfl)) (hb hby d7_77) ?_
        show Ends p e below _ T1 (mkF m 80 #[.val (.ref a), .val (.int mx), .val (.int (Int32.ofNat cs.length)), .val (.long v), .second, .val (.int (Int32.ofNat i)), .val (.int d)] [(.long (-1 : Int64))])
        exact retJ N2 hx hlk hret (hb hby d7_80) ⟨by rw [hv]; simp only [parseGo, if_pos c1], rfl⟩ (nle rfl) (nle rfl)
      · refine Ends.go (f' := (mkF m 70 #[.val (.ref a), .val (.int mx), .val (.int (Int32.ofNat cs.length)), .val (.long v), .second, .val (.int (Int32.ofNat i)), .val (.int d)] [])) (fun t k => XS.icmpNo N2.here hx rfl (hb hby d7_67) rfl (XT.ii_lt_f c1) k) ?_
        refine Ends.go (f' := (mkF m 72 #[.val (.ref a), .val (.int mx), .val (.int (Int32.ofNat cs.length)), .val (.long v), .second, .val (.int (Int32.ofNat i)), .val (.int d)] [(.int d)])) (fun t k => XS.iload N2.here hx rfl (hb hby d7_70) rfl k) ?_
        refine Ends.go (f' := (mkF m 74 #[.val (.ref a), .val (.int mx), .val (.int (Int32.ofNat cs.length)), .val (.long v), .second, .val (.int (Int32.ofNat i)), .val (.int d)] [(.int (57 : Int32)), (.int d)])) (fun t k => XS.bipush N2.here hx rfl (hb hby d7_72) k) ?_
        by_cases c2 : (57 : Int32) < d
        · refine Ends.go (f' := (mkF m 77 #[.val (.ref a), .val (.int mx), .val (.int (Int32.ofNat cs.length)), .val (.long v), .second, .val (.int (Int32.ofNat i)), .val (.int d)] [])) (fun t k => XS.icmpNo N2.here hx rfl (hb hby d7_74) rfl (XT.ii_le_f c2) k) ?_
          refine gLdcJ N2 hx hZ hown (hw _ (List.mem_of_getElem? (i := 51) rfl)) (hb hby d7_77) ?_
          show Ends p e below _ T1 (mkF m 80 #[.val (.ref a), .val (.int mx), .val (.int (Int32.ofNat cs.length)), .val (.long v), .second, .val (.int (Int32.ofNat i)), .val (.int d)] [(.long (-1 : Int64))])
          exact retJ N2 hx hlk hret (hb hby d7_80) ⟨by rw [hv]; simp only [parseGo, if_neg c1, if_pos c2], rfl⟩ (nle rfl) (nle rfl)
        · refine Ends.go (f' := (mkF m 81 #[.val (.ref a), .val (.int mx), .val (.int (Int32.ofNat cs.length)), .val (.long v), .second, .val (.int (Int32.ofNat i)), .val (.int d)] [])) (fun t k => XS.icmpYes N2.here hx rfl (pc0 := 74) (pc' := 81) rfl (hb hby d7_74) rfl (XT.ii_le_t c2) (by decide) (by decide) k) ?_
          refine Ends.go (f' := (mkF m 82 #[.val (.ref a), .val (.int mx), .val (.int (Int32.ofNat cs.length)), .val (.long v), .second, .val (.int (Int32.ofNat i)), .val (.int d)] [(.long v)])) (fun t k => XT.lloadN N2.here hx rfl (hb hby d7_81) rfl k) ?_
          refine gLdcJ N2 hx hZ hown (hw _ (List.mem_of_getElem? (i := 98) rfl)) (hb hby d7_82) ?_
          show Ends p e below _ T1 (mkF m 85 #[.val (.ref a), .val (.int mx), .val (.int (Int32.ofNat cs.length)), .val (.long v), .second, .val (.int (Int32.ofNat i)), .val (.int d)] [(.long (10 : Int64)), (.long v)])
          refine Ends.go (f' := (mkF m 86 #[.val (.ref a), .val (.int mx), .val (.int (Int32.ofNat cs.length)), .val (.long v), .second, .val (.int (Int32.ofNat i)), .val (.int d)] [(.long (v * (10 : Int64)))])) (fun t k => XT.lmul N2.here hx rfl (hb hby d7_85) rfl k) ?_
          refine Ends.go (f' := (mkF m 88 #[.val (.ref a), .val (.int mx), .val (.int (Int32.ofNat cs.length)), .val (.long v), .second, .val (.int (Int32.ofNat i)), .val (.int d)] [(.int d), (.long (v * (10 : Int64)))])) (fun t k => XS.iload N2.here hx rfl (hb hby d7_86) rfl k) ?_
          refine Ends.go (f' := (mkF m 90 #[.val (.ref a), .val (.int mx), .val (.int (Int32.ofNat cs.length)), .val (.long v), .second, .val (.int (Int32.ofNat i)), .val (.int d)] [(.int (48 : Int32)), (.int d), (.long (v * (10 : Int64)))])) (fun t k => XS.bipush N2.here hx rfl (hb hby d7_88) k) ?_
          refine Ends.go (f' := (mkF m 91 #[.val (.ref a), .val (.int mx), .val (.int (Int32.ofNat cs.length)), .val (.long v), .second, .val (.int (Int32.ofNat i)), .val (.int d)] [(.int (d - (48 : Int32))), (.long (v * (10 : Int64)))])) (fun t k => XS.isub N2.here hx rfl (hb hby d7_90) rfl k) ?_
          refine Ends.go (f' := (mkF m 92 #[.val (.ref a), .val (.int mx), .val (.int (Int32.ofNat cs.length)), .val (.long v), .second, .val (.int (Int32.ofNat i)), .val (.int d)] [(.long (((d - (48 : Int32))).toInt64)), (.long (v * (10 : Int64)))])) (fun t k => XT.i2l N2.here hx rfl (hb hby d7_91) rfl k) ?_
          refine Ends.go (f' := (mkF m 93 #[.val (.ref a), .val (.int mx), .val (.int (Int32.ofNat cs.length)), .val (.long v), .second, .val (.int (Int32.ofNat i)), .val (.int d)] [(.long ((v * (10 : Int64)) + (((d - (48 : Int32))).toInt64)))])) (fun t k => XT.ladd N2.here hx rfl (hb hby d7_92) rfl k) ?_
          refine Ends.go (f' := (mkF m 94 #[.val (.ref a), .val (.int mx), .val (.int (Int32.ofNat cs.length)), .val (.long ((v * (10 : Int64)) + (((d - (48 : Int32))).toInt64))), .second, .val (.int (Int32.ofNat i)), .val (.int d)] [])) (fun t k => XT.lstoreN N2.here hx rfl (hb hby d7_93) rfl (l' := #[.val (.ref a), .val (.int mx), .val (.int (Int32.ofNat cs.length)), .val (.long ((v * (10 : Int64)) + (((d - (48 : Int32))).toInt64))), .second, .val (.int (Int32.ofNat i)), .val (.int d)]) rfl k) ?_
          refine Ends.go (f' := (mkF m 97 #[.val (.ref a), .val (.int mx), .val (.int (Int32.ofNat cs.length)), .val (.long ((v * (10 : Int64)) + (((d - (48 : Int32))).toInt64))), .second, .val (.int ((Int32.ofNat i) + (1 : Int32))), .val (.int d)] [])) (fun t k => XS.iinc N2.here hx rfl (hb hby d7_94) rfl (l' := #[.val (.ref a), .val (.int mx), .val (.int (Int32.ofNat cs.length)), .val (.long ((v * (10 : Int64)) + (((d - (48 : Int32))).toInt64))), .second, .val (.int ((Int32.ofNat i) + (1 : Int32))), .val (.int d)]) rfl k) ?_
          rw [ofNat_succ]
          refine Ends.go (f' := (mkF m 47 #[.val (.ref a), .val (.int mx), .val (.int (Int32.ofNat cs.length)), .val (.long ((v * (10 : Int64)) + (((d - (48 : Int32))).toInt64))), .second, .val (.int (Int32.ofNat (i + 1))), .val (.int d)] [])) (fun t k => XS.goto N2.here hx rfl (pc0 := 97) (pc' := 47) rfl (hb hby d7_97) (by decide) (by decide) k) ?_
          exact ih (i + 1) (v * (10 : Int64) + (d - (48 : Int32)).toInt64) T1 _ (One.val rfl) hr1 (by omega) (by have := S.2.2.2.2; omega) N2 (by rw [hv]; simp only [parseGo, if_neg c1, if_neg c2])
  have join : ∀ T1 : State, Now p l e ({ frames := 4, cells := 0, slots := 0, locals := 70 } : Room) s m #[(.ref a), (.int mx)] below meth c Z T1 h0 0 0 → parseSpec cs mx = parseGo cs 0 → Ends p e below (PhiN Z s (fun v h => v = some (.long (parseSpec cs mx)) ∧ h = h0) ({ frames := 4, cells := 0, slots := 0, locals := 70 } : Room).cells ({ frames := 4, cells := 0, slots := 0, locals := 70 } : Room).slots) T1 (mkF m 42 #[.val (.ref a), .val (.int mx), .val (.int (Int32.ofNat cs.length)), .unset, .unset, .unset, .unset] []) := by
    intro T1 N1 hv
    refine Ends.go (f' := (mkF m 43 #[.val (.ref a), .val (.int mx), .val (.int (Int32.ofNat cs.length)), .unset, .unset, .unset, .unset] [(.long (0 : Int64))])) (fun t k => XT.lconst N1.here hx rfl (hb hby d7_42) k) ?_
    refine Ends.go (f' := (mkF m 44 #[.val (.ref a), .val (.int mx), .val (.int (Int32.ofNat cs.length)), .val (.long (0 : Int64)), .second, .unset, .unset] [])) (fun t k => XT.lstoreN N1.here hx rfl (hb hby d7_43) rfl (l' := #[.val (.ref a), .val (.int mx), .val (.int (Int32.ofNat cs.length)), .val (.long (0 : Int64)), .second, .unset, .unset]) rfl k) ?_
    refine Ends.go (f' := (mkF m 45 #[.val (.ref a), .val (.int mx), .val (.int (Int32.ofNat cs.length)), .val (.long (0 : Int64)), .second, .unset, .unset] [(.int (0 : Int32))])) (fun t k => XS.iconst N1.here hx rfl (hb hby d7_44) k) ?_
    refine Ends.go (f' := (mkF m 47 #[.val (.ref a), .val (.int mx), .val (.int (Int32.ofNat cs.length)), .val (.long (0 : Int64)), .second, .val (.int (0 : Int32)), .unset] [])) (fun t k => XS.istore N1.here hx rfl (hb hby d7_45) rfl (l' := #[.val (.ref a), .val (.int mx), .val (.int (Int32.ofNat cs.length)), .val (.long (0 : Int64)), .second, .val (.int (0 : Int32)), .unset]) rfl k) ?_
    exact loop cs 0 0 T1 _ One.u rfl (Nat.zero_le _) (Nat.zero_le _) N1 hv
  refine Ends.go (f' := (mkF m 1 #[.val (.ref a), .val (.int mx), .unset, .unset, .unset, .unset, .unset] [(.ref a)])) (fun t k => XS.aloadN N0.here hx rfl (hb hby d7_0) rfl rfl k) ?_
  refine gFace (W := 0) (y := (⟨"java/lang/CharSequence", "length", "()I"⟩ : MethodName)) (z := (⟨"java/lang/String", "length", "()I"⟩ : MethodName)) (C := "java/lang/String") (b := a) (argsL := []) (rest := []) N0 hx hZ hown (hw _ (List.mem_of_getElem? (i := 36) rfl)) (hw _ (List.mem_of_getElem? (i := 37) rfl)) (mvT hZ (hw _ (List.mem_of_getElem? (i := 38) rfl))) (hw _ (List.mem_of_getElem? (i := 39) rfl)) (hw _ (List.mem_of_getElem? (i := 40) rfl)) (hw _ (List.mem_of_getElem? (i := 41) rfl)) (hw _ (List.mem_of_getElem? (i := 42) rfl)) (hw _ (List.mem_of_getElem? (i := 43) rfl)) (by decide) S.1 (strLen (W := 0) hZ hw G N0.ext S (by decide) (by decide)) (hb hby d7_1) rfl (by rw [hml]; rfl) (lenOf (by decide +kernel : parseMethodDescriptor "()I" = some ⟨[], (some .int)⟩) rfl) (nle rfl) (nle rfl) (nle rfl) (fun _ _ _ q => fr_nil q.2.1) ?_
  rintro _ T3 _ _ N4 ⟨rfl, -, e_h⟩; rw [e_h] at N4; clear e_h
  show Ends p e below _ T3 (mkF m 6 #[.val (.ref a), .val (.int mx), .unset, .unset, .unset, .unset, .unset] [(.int (Int32.ofNat cs.length))])
  refine Ends.go (f' := (mkF m 7 #[.val (.ref a), .val (.int mx), .val (.int (Int32.ofNat cs.length)), .unset, .unset, .unset, .unset] [])) (fun t k => XS.istoreN N4.here hx rfl (hb hby d7_6) rfl (l' := #[.val (.ref a), .val (.int mx), .val (.int (Int32.ofNat cs.length)), .unset, .unset, .unset, .unset]) rfl k) ?_
  refine Ends.go (f' := (mkF m 8 #[.val (.ref a), .val (.int mx), .val (.int (Int32.ofNat cs.length)), .unset, .unset, .unset, .unset] [(.int (Int32.ofNat cs.length))])) (fun t k => XS.iloadN N4.here hx rfl (hb hby d7_7) rfl k) ?_
  by_cases c1 : Int32.ofNat cs.length = 0
  · refine Ends.go (f' := (mkF m 38 #[.val (.ref a), .val (.int mx), .val (.int (Int32.ofNat cs.length)), .unset, .unset, .unset, .unset] [])) (fun t k => XS.ifYes N4.here hx rfl (pc0 := 8) (pc' := 38) rfl (hb hby d7_8) rfl (XT.i0_eq_t c1) (by decide) (by decide) k) ?_
    refine gLdcJ N4 hx hZ hown (hw _ (List.mem_of_getElem? (i := 51) rfl)) (hb hby d7_38) ?_
    show Ends p e below _ T3 (mkF m 41 #[.val (.ref a), .val (.int mx), .val (.int (Int32.ofNat cs.length)), .unset, .unset, .unset, .unset] [(.long (-1 : Int64))])
    exact retJ N4 hx hlk hret (hb hby d7_41) ⟨by simp only [parseSpec, if_pos c1], rfl⟩ (nle rfl) (nle rfl)
  · refine Ends.go (f' := (mkF m 11 #[.val (.ref a), .val (.int mx), .val (.int (Int32.ofNat cs.length)), .unset, .unset, .unset, .unset] [])) (fun t k => XS.ifNo N4.here hx rfl (hb hby d7_8) rfl (XT.i0_eq_f c1) k) ?_
    refine Ends.go (f' := (mkF m 12 #[.val (.ref a), .val (.int mx), .val (.int (Int32.ofNat cs.length)), .unset, .unset, .unset, .unset] [(.int (Int32.ofNat cs.length))])) (fun t k => XS.iloadN N4.here hx rfl (hb hby d7_11) rfl k) ?_
    refine Ends.go (f' := (mkF m 13 #[.val (.ref a), .val (.int mx), .val (.int (Int32.ofNat cs.length)), .unset, .unset, .unset, .unset] [(.int mx), (.int (Int32.ofNat cs.length))])) (fun t k => XS.iloadN N4.here hx rfl (hb hby d7_12) rfl k) ?_
    refine Ends.go (f' := (mkF m 15 #[.val (.ref a), .val (.int mx), .val (.int (Int32.ofNat cs.length)), .unset, .unset, .unset, .unset] [(.int (18 : Int32)), (.int mx), (.int (Int32.ofNat cs.length))])) (fun t k => XS.bipush N4.here hx rfl (hb hby d7_13) k) ?_
    refine gStatic (W := 1) (argsL := [(.int mx), (.int (18 : Int32))]) (rest := [(.int (Int32.ofNat cs.length))]) N4 hx hZ hown (hw _ (List.mem_of_getElem? (i := 66) rfl)) (hw _ (List.mem_of_getElem? (i := 67) rfl)) (hw _ (List.mem_of_getElem? (i := 68) rfl)) (hw _ (List.mem_of_getElem? (i := 69) rfl)) (by decide) ((rm14 l Z a0 hw mx (18 : Int32) h0 N4.ext).back (W := 1) hZ (hw _ (List.mem_of_getElem? (i := 69) rfl)) (hw _ (List.mem_of_getElem? (i := 68) rfl)) (nle rfl) (nle rfl)) (hb hby d7_15) rfl (by rw [hml]; rfl) (lenOf (by decide +kernel : parseMethodDescriptor "(II)I" = some ⟨[.int, .int], (some .int)⟩) rfl) (nle rfl) (nle rfl) (nle rfl) (fun _ _ _ q => q.2) ?_
    rintro _ T5 _ _ N6 ⟨⟨rfl, e_h⟩, -⟩; rw [e_h] at N6; clear e_h
    show Ends p e below _ T5 (mkF m 18 #[.val (.ref a), .val (.int mx), .val (.int (Int32.ofNat cs.length)), .unset, .unset, .unset, .unset] [(.int (f_min mx (18 : Int32))), (.int (Int32.ofNat cs.length))])
    by_cases c2 : f_min mx (18 : Int32) < Int32.ofNat cs.length
    · refine Ends.go (f' := (mkF m 38 #[.val (.ref a), .val (.int mx), .val (.int (Int32.ofNat cs.length)), .unset, .unset, .unset, .unset] [])) (fun t k => XS.icmpYes N6.here hx rfl (pc0 := 18) (pc' := 38) rfl (hb hby d7_18) rfl (XT.ii_gt_t c2) (by decide) (by decide) k) ?_
      refine gLdcJ N6 hx hZ hown (hw _ (List.mem_of_getElem? (i := 51) rfl)) (hb hby d7_38) ?_
      show Ends p e below _ T5 (mkF m 41 #[.val (.ref a), .val (.int mx), .val (.int (Int32.ofNat cs.length)), .unset, .unset, .unset, .unset] [(.long (-1 : Int64))])
      exact retJ N6 hx hlk hret (hb hby d7_41) ⟨by simp only [parseSpec, if_neg c1, if_pos c2], rfl⟩ (nle rfl) (nle rfl)
    · refine Ends.go (f' := (mkF m 21 #[.val (.ref a), .val (.int mx), .val (.int (Int32.ofNat cs.length)), .unset, .unset, .unset, .unset] [])) (fun t k => XS.icmpNo N6.here hx rfl (hb hby d7_18) rfl (XT.ii_gt_f c2) k) ?_
      refine Ends.go (f' := (mkF m 22 #[.val (.ref a), .val (.int mx), .val (.int (Int32.ofNat cs.length)), .unset, .unset, .unset, .unset] [(.int (Int32.ofNat cs.length))])) (fun t k => XS.iloadN N6.here hx rfl (hb hby d7_21) rfl k) ?_
      refine Ends.go (f' := (mkF m 23 #[.val (.ref a), .val (.int mx), .val (.int (Int32.ofNat cs.length)), .unset, .unset, .unset, .unset] [(.int (1 : Int32)), (.int (Int32.ofNat cs.length))])) (fun t k => XS.iconst N6.here hx rfl (hb hby d7_22) k) ?_
      by_cases c3 : (1 : Int32) < Int32.ofNat cs.length
      · refine Ends.go (f' := (mkF m 26 #[.val (.ref a), .val (.int mx), .val (.int (Int32.ofNat cs.length)), .unset, .unset, .unset, .unset] [])) (fun t k => XS.icmpNo N6.here hx rfl (hb hby d7_23) rfl (XT.ii_le_f c3) k) ?_
        refine Ends.go (f' := (mkF m 27 #[.val (.ref a), .val (.int mx), .val (.int (Int32.ofNat cs.length)), .unset, .unset, .unset, .unset] [(.ref a)])) (fun t k => XS.aloadN N6.here hx rfl (hb hby d7_26) rfl rfl k) ?_
        refine Ends.go (f' := (mkF m 28 #[.val (.ref a), .val (.int mx), .val (.int (Int32.ofNat cs.length)), .unset, .unset, .unset, .unset] [(.int (0 : Int32)), (.ref a)])) (fun t k => XS.iconst N6.here hx rfl (hb hby d7_27) k) ?_
        refine gFace (W := 0) (y := (⟨"java/lang/CharSequence", "charAt", "(I)C"⟩ : MethodName)) (z := (⟨"java/lang/String", "charAt", "(I)C"⟩ : MethodName)) (C := "java/lang/String") (b := a) (argsL := [(.int (0 : Int32))]) (rest := []) N6 hx hZ hown (hw _ (List.mem_of_getElem? (i := 70) rfl)) (hw _ (List.mem_of_getElem? (i := 71) rfl)) (mvT hZ (hw _ (List.mem_of_getElem? (i := 72) rfl))) (hw _ (List.mem_of_getElem? (i := 73) rfl)) (hw _ (List.mem_of_getElem? (i := 74) rfl)) (hw _ (List.mem_of_getElem? (i := 75) rfl)) (hw _ (List.mem_of_getElem? (i := 76) rfl)) (hw _ (List.mem_of_getElem? (i := 43) rfl)) (by decide) S.1 (strAt (W := 0) hZ hw G N6.ext S (i := 0) (by have q := (ofNat_lt (i := 1) (by decide) S.2.2.2.2).mp c3; omega) rfl (by decide) (by decide)) (hb hby d7_28) rfl (by rw [hml]; rfl) (lenOf (by decide +kernel : parseMethodDescriptor "(I)C" = some ⟨[.int], (some .char)⟩) rfl) (nle rfl) (nle rfl) (nle rfl) (fun _ _ _ q => fr_nil q.2.1) ?_
        rintro _ T10 _ _ N11 ⟨rfl, -, e_h⟩; rw [e_h] at N11; clear e_h
        show Ends p e below _ T10 (mkF m 33 #[.val (.ref a), .val (.int mx), .val (.int (Int32.ofNat cs.length)), .unset, .unset, .unset, .unset] [(.int (cs.getD 0 0))])
        refine Ends.go (f' := (mkF m 35 #[.val (.ref a), .val (.int mx), .val (.int (Int32.ofNat cs.length)), .unset, .unset, .unset, .unset] [(.int (48 : Int32)), (.int (cs.getD 0 0))])) (fun t k => XS.bipush N11.here hx rfl (hb hby d7_33) k) ?_
        by_cases c4 : cs.getD 0 0 = (48 : Int32)
        · refine Ends.go (f' := (mkF m 38 #[.val (.ref a), .val (.int mx), .val (.int (Int32.ofNat cs.length)), .unset, .unset, .unset, .unset] [])) (fun t k => XS.icmpNo N11.here hx rfl (hb hby d7_35) rfl (XT.ii_ne_f c4) k) ?_
          refine gLdcJ N11 hx hZ hown (hw _ (List.mem_of_getElem? (i := 51) rfl)) (hb hby d7_38) ?_
          show Ends p e below _ T10 (mkF m 41 #[.val (.ref a), .val (.int mx), .val (.int (Int32.ofNat cs.length)), .unset, .unset, .unset, .unset] [(.long (-1 : Int64))])
          exact retJ N11 hx hlk hret (hb hby d7_41) ⟨by simp only [parseSpec, if_neg c1, if_neg c2, if_pos c3, if_pos c4], rfl⟩ (nle rfl) (nle rfl)
        · refine Ends.go (f' := (mkF m 42 #[.val (.ref a), .val (.int mx), .val (.int (Int32.ofNat cs.length)), .unset, .unset, .unset, .unset] [])) (fun t k => XS.icmpYes N11.here hx rfl (pc0 := 35) (pc' := 42) rfl (hb hby d7_35) rfl (XT.ii_ne_t c4) (by decide) (by decide) k) ?_
          exact join T10 N11 (by simp only [parseSpec, if_neg c1, if_neg c2, if_pos c3, if_neg c4])
      · refine Ends.go (f' := (mkF m 42 #[.val (.ref a), .val (.int mx), .val (.int (Int32.ofNat cs.length)), .unset, .unset, .unset, .unset] [])) (fun t k => XS.icmpYes N6.here hx rfl (pc0 := 23) (pc' := 42) rfl (hb hby d7_23) rfl (XT.ii_le_t c3) (by decide) (by decide) k) ?_
        exact join T5 N6 (by simp only [parseSpec, if_neg c1, if_neg c2, if_neg c3])
theorem nar_nar (x : Int32) : nar .char (nar .char x) = nar .char x := by simp only [nar, UInt32.toUInt32_toInt32, UInt16.toUInt16_toUInt32]
theorem nar_small {v : Int32} (h0 : 0 ≤ v.toInt) (h9 : v.toInt ≤ 65535) : (nar .char v).toInt = v.toInt := by
  have q := c_i2c v
  have e2 : (nar .char v).toInt = v.toUInt32.toUInt16.toUInt32.toInt32.toInt := rfl
  omega
theorem draw_ok (x : Int32) : ¬ f_draw x < 0 ∧ ¬ (255 : Int32) < f_draw x := by
  have e0 : (0 : Int32).toInt = 0 := rfl
  have e255 : (255 : Int32).toInt = 255 := rfl
  unfold f_draw
  split
  · have q := c_and x (255 : Int32) (by decide)
    rw [nar_nar, Int32.lt_iff_toInt_lt, Int32.lt_iff_toInt_lt, nar_small (by omega) (by omega)]; omega
  · generalize hy : (XT.ushr x (9 : Int32)) &&& (32767 : Int32) = y
    have q := c_and (XT.ushr x (9 : Int32)) (32767 : Int32) (by decide)
    rw [hy] at q
    have r := (c_irem y 10 10 rfl).1 q.1
    have r1 := c_iadd (48 : Int32) (y % 10)
    have r2 := rng32 ((48 : Int32) + y % 10)
    have e48 : (48 : Int32).toInt = 48 := rfl
    rw [nar_nar, Int32.lt_iff_toInt_lt, Int32.lt_iff_toInt_lt, nar_small (by omega) (by omega)]; omega
theorem nar_draw (x : Int32) : nar .char (f_draw x) = f_draw x := by
  unfold f_draw
  split <;> simp only [nar_nar]
def strCs (len a b c d f : Int32) : List Int32 := if len = 0 then [] else if len = 1 then [a] else if len = 2 then [a, b] else if len = 3 then [a, b, c] else if len = 4 then [a, b, c, d] else if len = 5 then [a, b, c, f, d] else if len = 18 then [a, b, c, f, f, f, f, f, f, f, f, f, f, f, f, f, f, d] else [a, b, c, f, f, f, f, f, f, f, f, f, f, f, f, f, f, f, d]
theorem d3_0 : decode method_5_code 0 = .ok (.iload_n 0, 1) := by decide +kernel
theorem d3_1 : decode method_5_code 1 = .ok (.ifCond .ne 14, 3) := by decide +kernel
theorem d3_4 : decode method_5_code 4 = .ok (.new 7, 3) := by decide +kernel
theorem d3_7 : decode method_5_code 7 = .ok (.dup, 1) := by decide +kernel
theorem d3_8 : decode method_5_code 8 = .ok (.iconst 0, 1) := by decide +kernel
theorem d3_9 : decode method_5_code 9 = .ok (.newarray .char, 2) := by decide +kernel
theorem d3_11 : decode method_5_code 11 = .ok (.invokespecial 9, 3) := by decide +kernel
theorem d3_14 : decode method_5_code 14 = .ok (.areturn, 1) := by decide +kernel
theorem d3_15 : decode method_5_code 15 = .ok (.iload_n 0, 1) := by decide +kernel
theorem d3_16 : decode method_5_code 16 = .ok (.iconst 1, 1) := by decide +kernel
theorem d3_17 : decode method_5_code 17 = .ok (.if_icmp .ne 18, 3) := by decide +kernel
theorem d3_20 : decode method_5_code 20 = .ok (.new 7, 3) := by decide +kernel
theorem d3_23 : decode method_5_code 23 = .ok (.dup, 1) := by decide +kernel
theorem d3_24 : decode method_5_code 24 = .ok (.iconst 1, 1) := by decide +kernel
theorem d3_25 : decode method_5_code 25 = .ok (.newarray .char, 2) := by decide +kernel
theorem d3_27 : decode method_5_code 27 = .ok (.dup, 1) := by decide +kernel
theorem d3_28 : decode method_5_code 28 = .ok (.iconst 0, 1) := by decide +kernel
theorem d3_29 : decode method_5_code 29 = .ok (.iload_n 1, 1) := by decide +kernel
theorem d3_30 : decode method_5_code 30 = .ok (.castore, 1) := by decide +kernel
theorem d3_31 : decode method_5_code 31 = .ok (.invokespecial 9, 3) := by decide +kernel
theorem d3_34 : decode method_5_code 34 = .ok (.areturn, 1) := by decide +kernel
theorem d3_35 : decode method_5_code 35 = .ok (.iload_n 0, 1) := by decide +kernel
theorem d3_36 : decode method_5_code 36 = .ok (.iconst 2, 1) := by decide +kernel
theorem d3_37 : decode method_5_code 37 = .ok (.if_icmp .ne 22, 3) := by decide +kernel
theorem d3_40 : decode method_5_code 40 = .ok (.new 7, 3) := by decide +kernel
theorem d3_43 : decode method_5_code 43 = .ok (.dup, 1) := by decide +kernel
theorem d3_44 : decode method_5_code 44 = .ok (.iconst 2, 1) := by decide +kernel
theorem d3_45 : decode method_5_code 45 = .ok (.newarray .char, 2) := by decide +kernel
theorem d3_47 : decode method_5_code 47 = .ok (.dup, 1) := by decide +kernel
theorem d3_48 : decode method_5_code 48 = .ok (.iconst 0, 1) := by decide +kernel
theorem d3_49 : decode method_5_code 49 = .ok (.iload_n 1, 1) := by decide +kernel
theorem d3_50 : decode method_5_code 50 = .ok (.castore, 1) := by decide +kernel
theorem d3_51 : decode method_5_code 51 = .ok (.dup, 1) := by decide +kernel
theorem d3_52 : decode method_5_code 52 = .ok (.iconst 1, 1) := by decide +kernel
theorem d3_53 : decode method_5_code 53 = .ok (.iload_n 2, 1) := by decide +kernel
theorem d3_54 : decode method_5_code 54 = .ok (.castore, 1) := by decide +kernel
theorem d3_55 : decode method_5_code 55 = .ok (.invokespecial 9, 3) := by decide +kernel
theorem d3_58 : decode method_5_code 58 = .ok (.areturn, 1) := by decide +kernel
theorem d3_59 : decode method_5_code 59 = .ok (.iload_n 0, 1) := by decide +kernel
theorem d3_60 : decode method_5_code 60 = .ok (.iconst 3, 1) := by decide +kernel
theorem d3_61 : decode method_5_code 61 = .ok (.if_icmp .ne 26, 3) := by decide +kernel
theorem d3_64 : decode method_5_code 64 = .ok (.new 7, 3) := by decide +kernel
theorem d3_67 : decode method_5_code 67 = .ok (.dup, 1) := by decide +kernel
theorem d3_68 : decode method_5_code 68 = .ok (.iconst 3, 1) := by decide +kernel
theorem d3_69 : decode method_5_code 69 = .ok (.newarray .char, 2) := by decide +kernel
theorem d3_71 : decode method_5_code 71 = .ok (.dup, 1) := by decide +kernel
theorem d3_72 : decode method_5_code 72 = .ok (.iconst 0, 1) := by decide +kernel
theorem d3_73 : decode method_5_code 73 = .ok (.iload_n 1, 1) := by decide +kernel
theorem d3_74 : decode method_5_code 74 = .ok (.castore, 1) := by decide +kernel
theorem d3_75 : decode method_5_code 75 = .ok (.dup, 1) := by decide +kernel
theorem d3_76 : decode method_5_code 76 = .ok (.iconst 1, 1) := by decide +kernel
theorem d3_77 : decode method_5_code 77 = .ok (.iload_n 2, 1) := by decide +kernel
theorem d3_78 : decode method_5_code 78 = .ok (.castore, 1) := by decide +kernel
theorem d3_79 : decode method_5_code 79 = .ok (.dup, 1) := by decide +kernel
theorem d3_80 : decode method_5_code 80 = .ok (.iconst 2, 1) := by decide +kernel
theorem d3_81 : decode method_5_code 81 = .ok (.iload_n 3, 1) := by decide +kernel
theorem d3_82 : decode method_5_code 82 = .ok (.castore, 1) := by decide +kernel
theorem d3_83 : decode method_5_code 83 = .ok (.invokespecial 9, 3) := by decide +kernel
theorem d3_86 : decode method_5_code 86 = .ok (.areturn, 1) := by decide +kernel
theorem d3_87 : decode method_5_code 87 = .ok (.iload_n 0, 1) := by decide +kernel
theorem d3_88 : decode method_5_code 88 = .ok (.iconst 4, 1) := by decide +kernel
theorem d3_89 : decode method_5_code 89 = .ok (.if_icmp .ne 31, 3) := by decide +kernel
theorem d3_92 : decode method_5_code 92 = .ok (.new 7, 3) := by decide +kernel
theorem d3_95 : decode method_5_code 95 = .ok (.dup, 1) := by decide +kernel
theorem d3_96 : decode method_5_code 96 = .ok (.iconst 4, 1) := by decide +kernel
theorem d3_97 : decode method_5_code 97 = .ok (.newarray .char, 2) := by decide +kernel
theorem d3_99 : decode method_5_code 99 = .ok (.dup, 1) := by decide +kernel
theorem d3_100 : decode method_5_code 100 = .ok (.iconst 0, 1) := by decide +kernel
theorem d3_101 : decode method_5_code 101 = .ok (.iload_n 1, 1) := by decide +kernel
theorem d3_102 : decode method_5_code 102 = .ok (.castore, 1) := by decide +kernel
theorem d3_103 : decode method_5_code 103 = .ok (.dup, 1) := by decide +kernel
theorem d3_104 : decode method_5_code 104 = .ok (.iconst 1, 1) := by decide +kernel
theorem d3_105 : decode method_5_code 105 = .ok (.iload_n 2, 1) := by decide +kernel
theorem d3_106 : decode method_5_code 106 = .ok (.castore, 1) := by decide +kernel
theorem d3_107 : decode method_5_code 107 = .ok (.dup, 1) := by decide +kernel
theorem d3_108 : decode method_5_code 108 = .ok (.iconst 2, 1) := by decide +kernel
theorem d3_109 : decode method_5_code 109 = .ok (.iload_n 3, 1) := by decide +kernel
theorem d3_110 : decode method_5_code 110 = .ok (.castore, 1) := by decide +kernel
theorem d3_111 : decode method_5_code 111 = .ok (.dup, 1) := by decide +kernel
theorem d3_112 : decode method_5_code 112 = .ok (.iconst 3, 1) := by decide +kernel
theorem d3_113 : decode method_5_code 113 = .ok (.iload 4, 2) := by decide +kernel
theorem d3_115 : decode method_5_code 115 = .ok (.castore, 1) := by decide +kernel
theorem d3_116 : decode method_5_code 116 = .ok (.invokespecial 9, 3) := by decide +kernel
theorem d3_119 : decode method_5_code 119 = .ok (.areturn, 1) := by decide +kernel
theorem d3_120 : decode method_5_code 120 = .ok (.iload_n 0, 1) := by decide +kernel
theorem d3_121 : decode method_5_code 121 = .ok (.iconst 5, 1) := by decide +kernel
theorem d3_122 : decode method_5_code 122 = .ok (.if_icmp .ne 36, 3) := by decide +kernel
theorem d3_125 : decode method_5_code 125 = .ok (.new 7, 3) := by decide +kernel
theorem d3_128 : decode method_5_code 128 = .ok (.dup, 1) := by decide +kernel
theorem d3_129 : decode method_5_code 129 = .ok (.iconst 5, 1) := by decide +kernel
theorem d3_130 : decode method_5_code 130 = .ok (.newarray .char, 2) := by decide +kernel
theorem d3_132 : decode method_5_code 132 = .ok (.dup, 1) := by decide +kernel
theorem d3_133 : decode method_5_code 133 = .ok (.iconst 0, 1) := by decide +kernel
theorem d3_134 : decode method_5_code 134 = .ok (.iload_n 1, 1) := by decide +kernel
theorem d3_135 : decode method_5_code 135 = .ok (.castore, 1) := by decide +kernel
theorem d3_136 : decode method_5_code 136 = .ok (.dup, 1) := by decide +kernel
theorem d3_137 : decode method_5_code 137 = .ok (.iconst 1, 1) := by decide +kernel
theorem d3_138 : decode method_5_code 138 = .ok (.iload_n 2, 1) := by decide +kernel
theorem d3_139 : decode method_5_code 139 = .ok (.castore, 1) := by decide +kernel
theorem d3_140 : decode method_5_code 140 = .ok (.dup, 1) := by decide +kernel
theorem d3_141 : decode method_5_code 141 = .ok (.iconst 2, 1) := by decide +kernel
theorem d3_142 : decode method_5_code 142 = .ok (.iload_n 3, 1) := by decide +kernel
theorem d3_143 : decode method_5_code 143 = .ok (.castore, 1) := by decide +kernel
theorem d3_144 : decode method_5_code 144 = .ok (.dup, 1) := by decide +kernel
theorem d3_145 : decode method_5_code 145 = .ok (.iconst 3, 1) := by decide +kernel
theorem d3_146 : decode method_5_code 146 = .ok (.iload 5, 2) := by decide +kernel
theorem d3_148 : decode method_5_code 148 = .ok (.castore, 1) := by decide +kernel
theorem d3_149 : decode method_5_code 149 = .ok (.dup, 1) := by decide +kernel
theorem d3_150 : decode method_5_code 150 = .ok (.iconst 4, 1) := by decide +kernel
theorem d3_151 : decode method_5_code 151 = .ok (.iload 4, 2) := by decide +kernel
theorem d3_153 : decode method_5_code 153 = .ok (.castore, 1) := by decide +kernel
theorem d3_154 : decode method_5_code 154 = .ok (.invokespecial 9, 3) := by decide +kernel
theorem d3_157 : decode method_5_code 157 = .ok (.areturn, 1) := by decide +kernel
theorem d3_158 : decode method_5_code 158 = .ok (.iload_n 0, 1) := by decide +kernel
theorem d3_159 : decode method_5_code 159 = .ok (.bipush 18, 2) := by decide +kernel
theorem d3_161 : decode method_5_code 161 = .ok (.if_icmp .ne 114, 3) := by decide +kernel
theorem d3_164 : decode method_5_code 164 = .ok (.new 7, 3) := by decide +kernel
theorem d3_167 : decode method_5_code 167 = .ok (.dup, 1) := by decide +kernel
theorem d3_168 : decode method_5_code 168 = .ok (.bipush 18, 2) := by decide +kernel
theorem d3_170 : decode method_5_code 170 = .ok (.newarray .char, 2) := by decide +kernel
theorem d3_172 : decode method_5_code 172 = .ok (.dup, 1) := by decide +kernel
theorem d3_173 : decode method_5_code 173 = .ok (.iconst 0, 1) := by decide +kernel
theorem d3_174 : decode method_5_code 174 = .ok (.iload_n 1, 1) := by decide +kernel
theorem d3_175 : decode method_5_code 175 = .ok (.castore, 1) := by decide +kernel
theorem d3_176 : decode method_5_code 176 = .ok (.dup, 1) := by decide +kernel
theorem d3_177 : decode method_5_code 177 = .ok (.iconst 1, 1) := by decide +kernel
theorem d3_178 : decode method_5_code 178 = .ok (.iload_n 2, 1) := by decide +kernel
theorem d3_179 : decode method_5_code 179 = .ok (.castore, 1) := by decide +kernel
theorem d3_180 : decode method_5_code 180 = .ok (.dup, 1) := by decide +kernel
theorem d3_181 : decode method_5_code 181 = .ok (.iconst 2, 1) := by decide +kernel
theorem d3_182 : decode method_5_code 182 = .ok (.iload_n 3, 1) := by decide +kernel
theorem d3_183 : decode method_5_code 183 = .ok (.castore, 1) := by decide +kernel
theorem d3_184 : decode method_5_code 184 = .ok (.dup, 1) := by decide +kernel
theorem d3_185 : decode method_5_code 185 = .ok (.iconst 3, 1) := by decide +kernel
theorem d3_186 : decode method_5_code 186 = .ok (.iload 5, 2) := by decide +kernel
theorem d3_188 : decode method_5_code 188 = .ok (.castore, 1) := by decide +kernel
theorem d3_189 : decode method_5_code 189 = .ok (.dup, 1) := by decide +kernel
theorem d3_190 : decode method_5_code 190 = .ok (.iconst 4, 1) := by decide +kernel
theorem d3_191 : decode method_5_code 191 = .ok (.iload 5, 2) := by decide +kernel
theorem d3_193 : decode method_5_code 193 = .ok (.castore, 1) := by decide +kernel
theorem d3_194 : decode method_5_code 194 = .ok (.dup, 1) := by decide +kernel
theorem d3_195 : decode method_5_code 195 = .ok (.iconst 5, 1) := by decide +kernel
theorem d3_196 : decode method_5_code 196 = .ok (.iload 5, 2) := by decide +kernel
theorem d3_198 : decode method_5_code 198 = .ok (.castore, 1) := by decide +kernel
theorem d3_199 : decode method_5_code 199 = .ok (.dup, 1) := by decide +kernel
theorem d3_200 : decode method_5_code 200 = .ok (.bipush 6, 2) := by decide +kernel
theorem d3_202 : decode method_5_code 202 = .ok (.iload 5, 2) := by decide +kernel
theorem d3_204 : decode method_5_code 204 = .ok (.castore, 1) := by decide +kernel
theorem d3_205 : decode method_5_code 205 = .ok (.dup, 1) := by decide +kernel
theorem d3_206 : decode method_5_code 206 = .ok (.bipush 7, 2) := by decide +kernel
theorem d3_208 : decode method_5_code 208 = .ok (.iload 5, 2) := by decide +kernel
theorem d3_210 : decode method_5_code 210 = .ok (.castore, 1) := by decide +kernel
theorem d3_211 : decode method_5_code 211 = .ok (.dup, 1) := by decide +kernel
theorem d3_212 : decode method_5_code 212 = .ok (.bipush 8, 2) := by decide +kernel
theorem d3_214 : decode method_5_code 214 = .ok (.iload 5, 2) := by decide +kernel
theorem d3_216 : decode method_5_code 216 = .ok (.castore, 1) := by decide +kernel
theorem d3_217 : decode method_5_code 217 = .ok (.dup, 1) := by decide +kernel
theorem d3_218 : decode method_5_code 218 = .ok (.bipush 9, 2) := by decide +kernel
theorem d3_220 : decode method_5_code 220 = .ok (.iload 5, 2) := by decide +kernel
theorem d3_222 : decode method_5_code 222 = .ok (.castore, 1) := by decide +kernel
theorem d3_223 : decode method_5_code 223 = .ok (.dup, 1) := by decide +kernel
theorem d3_224 : decode method_5_code 224 = .ok (.bipush 10, 2) := by decide +kernel
theorem d3_226 : decode method_5_code 226 = .ok (.iload 5, 2) := by decide +kernel
theorem d3_228 : decode method_5_code 228 = .ok (.castore, 1) := by decide +kernel
theorem d3_229 : decode method_5_code 229 = .ok (.dup, 1) := by decide +kernel
theorem d3_230 : decode method_5_code 230 = .ok (.bipush 11, 2) := by decide +kernel
theorem d3_232 : decode method_5_code 232 = .ok (.iload 5, 2) := by decide +kernel
theorem d3_234 : decode method_5_code 234 = .ok (.castore, 1) := by decide +kernel
theorem d3_235 : decode method_5_code 235 = .ok (.dup, 1) := by decide +kernel
theorem d3_236 : decode method_5_code 236 = .ok (.bipush 12, 2) := by decide +kernel
theorem d3_238 : decode method_5_code 238 = .ok (.iload 5, 2) := by decide +kernel
theorem d3_240 : decode method_5_code 240 = .ok (.castore, 1) := by decide +kernel
theorem d3_241 : decode method_5_code 241 = .ok (.dup, 1) := by decide +kernel
theorem d3_242 : decode method_5_code 242 = .ok (.bipush 13, 2) := by decide +kernel
theorem d3_244 : decode method_5_code 244 = .ok (.iload 5, 2) := by decide +kernel
theorem d3_246 : decode method_5_code 246 = .ok (.castore, 1) := by decide +kernel
theorem d3_247 : decode method_5_code 247 = .ok (.dup, 1) := by decide +kernel
theorem d3_248 : decode method_5_code 248 = .ok (.bipush 14, 2) := by decide +kernel
theorem d3_250 : decode method_5_code 250 = .ok (.iload 5, 2) := by decide +kernel
theorem d3_252 : decode method_5_code 252 = .ok (.castore, 1) := by decide +kernel
theorem d3_253 : decode method_5_code 253 = .ok (.dup, 1) := by decide +kernel
theorem d3_254 : decode method_5_code 254 = .ok (.bipush 15, 2) := by decide +kernel
theorem d3_256 : decode method_5_code 256 = .ok (.iload 5, 2) := by decide +kernel
theorem d3_258 : decode method_5_code 258 = .ok (.castore, 1) := by decide +kernel
theorem d3_259 : decode method_5_code 259 = .ok (.dup, 1) := by decide +kernel
theorem d3_260 : decode method_5_code 260 = .ok (.bipush 16, 2) := by decide +kernel
theorem d3_262 : decode method_5_code 262 = .ok (.iload 5, 2) := by decide +kernel
theorem d3_264 : decode method_5_code 264 = .ok (.castore, 1) := by decide +kernel
theorem d3_265 : decode method_5_code 265 = .ok (.dup, 1) := by decide +kernel
theorem d3_266 : decode method_5_code 266 = .ok (.bipush 17, 2) := by decide +kernel
theorem d3_268 : decode method_5_code 268 = .ok (.iload 4, 2) := by decide +kernel
theorem d3_270 : decode method_5_code 270 = .ok (.castore, 1) := by decide +kernel
theorem d3_271 : decode method_5_code 271 = .ok (.invokespecial 9, 3) := by decide +kernel
theorem d3_274 : decode method_5_code 274 = .ok (.areturn, 1) := by decide +kernel
theorem d3_275 : decode method_5_code 275 = .ok (.new 7, 3) := by decide +kernel
theorem d3_278 : decode method_5_code 278 = .ok (.dup, 1) := by decide +kernel
theorem d3_279 : decode method_5_code 279 = .ok (.bipush 19, 2) := by decide +kernel
theorem d3_281 : decode method_5_code 281 = .ok (.newarray .char, 2) := by decide +kernel
theorem d3_283 : decode method_5_code 283 = .ok (.dup, 1) := by decide +kernel
theorem d3_284 : decode method_5_code 284 = .ok (.iconst 0, 1) := by decide +kernel
theorem d3_285 : decode method_5_code 285 = .ok (.iload_n 1, 1) := by decide +kernel
theorem d3_286 : decode method_5_code 286 = .ok (.castore, 1) := by decide +kernel
theorem d3_287 : decode method_5_code 287 = .ok (.dup, 1) := by decide +kernel
theorem d3_288 : decode method_5_code 288 = .ok (.iconst 1, 1) := by decide +kernel
theorem d3_289 : decode method_5_code 289 = .ok (.iload_n 2, 1) := by decide +kernel
theorem d3_290 : decode method_5_code 290 = .ok (.castore, 1) := by decide +kernel
theorem d3_291 : decode method_5_code 291 = .ok (.dup, 1) := by decide +kernel
theorem d3_292 : decode method_5_code 292 = .ok (.iconst 2, 1) := by decide +kernel
theorem d3_293 : decode method_5_code 293 = .ok (.iload_n 3, 1) := by decide +kernel
theorem d3_294 : decode method_5_code 294 = .ok (.castore, 1) := by decide +kernel
theorem d3_295 : decode method_5_code 295 = .ok (.dup, 1) := by decide +kernel
theorem d3_296 : decode method_5_code 296 = .ok (.iconst 3, 1) := by decide +kernel
theorem d3_297 : decode method_5_code 297 = .ok (.iload 5, 2) := by decide +kernel
theorem d3_299 : decode method_5_code 299 = .ok (.castore, 1) := by decide +kernel
theorem d3_300 : decode method_5_code 300 = .ok (.dup, 1) := by decide +kernel
theorem d3_301 : decode method_5_code 301 = .ok (.iconst 4, 1) := by decide +kernel
theorem d3_302 : decode method_5_code 302 = .ok (.iload 5, 2) := by decide +kernel
theorem d3_304 : decode method_5_code 304 = .ok (.castore, 1) := by decide +kernel
theorem d3_305 : decode method_5_code 305 = .ok (.dup, 1) := by decide +kernel
theorem d3_306 : decode method_5_code 306 = .ok (.iconst 5, 1) := by decide +kernel
theorem d3_307 : decode method_5_code 307 = .ok (.iload 5, 2) := by decide +kernel
theorem d3_309 : decode method_5_code 309 = .ok (.castore, 1) := by decide +kernel
theorem d3_310 : decode method_5_code 310 = .ok (.dup, 1) := by decide +kernel
theorem d3_311 : decode method_5_code 311 = .ok (.bipush 6, 2) := by decide +kernel
theorem d3_313 : decode method_5_code 313 = .ok (.iload 5, 2) := by decide +kernel
theorem d3_315 : decode method_5_code 315 = .ok (.castore, 1) := by decide +kernel
theorem d3_316 : decode method_5_code 316 = .ok (.dup, 1) := by decide +kernel
theorem d3_317 : decode method_5_code 317 = .ok (.bipush 7, 2) := by decide +kernel
theorem d3_319 : decode method_5_code 319 = .ok (.iload 5, 2) := by decide +kernel
theorem d3_321 : decode method_5_code 321 = .ok (.castore, 1) := by decide +kernel
theorem d3_322 : decode method_5_code 322 = .ok (.dup, 1) := by decide +kernel
theorem d3_323 : decode method_5_code 323 = .ok (.bipush 8, 2) := by decide +kernel
theorem d3_325 : decode method_5_code 325 = .ok (.iload 5, 2) := by decide +kernel
theorem d3_327 : decode method_5_code 327 = .ok (.castore, 1) := by decide +kernel
theorem d3_328 : decode method_5_code 328 = .ok (.dup, 1) := by decide +kernel
theorem d3_329 : decode method_5_code 329 = .ok (.bipush 9, 2) := by decide +kernel
theorem d3_331 : decode method_5_code 331 = .ok (.iload 5, 2) := by decide +kernel
theorem d3_333 : decode method_5_code 333 = .ok (.castore, 1) := by decide +kernel
theorem d3_334 : decode method_5_code 334 = .ok (.dup, 1) := by decide +kernel
theorem d3_335 : decode method_5_code 335 = .ok (.bipush 10, 2) := by decide +kernel
theorem d3_337 : decode method_5_code 337 = .ok (.iload 5, 2) := by decide +kernel
theorem d3_339 : decode method_5_code 339 = .ok (.castore, 1) := by decide +kernel
theorem d3_340 : decode method_5_code 340 = .ok (.dup, 1) := by decide +kernel
theorem d3_341 : decode method_5_code 341 = .ok (.bipush 11, 2) := by decide +kernel
theorem d3_343 : decode method_5_code 343 = .ok (.iload 5, 2) := by decide +kernel
theorem d3_345 : decode method_5_code 345 = .ok (.castore, 1) := by decide +kernel
theorem d3_346 : decode method_5_code 346 = .ok (.dup, 1) := by decide +kernel
theorem d3_347 : decode method_5_code 347 = .ok (.bipush 12, 2) := by decide +kernel
theorem d3_349 : decode method_5_code 349 = .ok (.iload 5, 2) := by decide +kernel
theorem d3_351 : decode method_5_code 351 = .ok (.castore, 1) := by decide +kernel
theorem d3_352 : decode method_5_code 352 = .ok (.dup, 1) := by decide +kernel
theorem d3_353 : decode method_5_code 353 = .ok (.bipush 13, 2) := by decide +kernel
theorem d3_355 : decode method_5_code 355 = .ok (.iload 5, 2) := by decide +kernel
theorem d3_357 : decode method_5_code 357 = .ok (.castore, 1) := by decide +kernel
theorem d3_358 : decode method_5_code 358 = .ok (.dup, 1) := by decide +kernel
theorem d3_359 : decode method_5_code 359 = .ok (.bipush 14, 2) := by decide +kernel
theorem d3_361 : decode method_5_code 361 = .ok (.iload 5, 2) := by decide +kernel
theorem d3_363 : decode method_5_code 363 = .ok (.castore, 1) := by decide +kernel
theorem d3_364 : decode method_5_code 364 = .ok (.dup, 1) := by decide +kernel
theorem d3_365 : decode method_5_code 365 = .ok (.bipush 15, 2) := by decide +kernel
theorem d3_367 : decode method_5_code 367 = .ok (.iload 5, 2) := by decide +kernel
theorem d3_369 : decode method_5_code 369 = .ok (.castore, 1) := by decide +kernel
theorem d3_370 : decode method_5_code 370 = .ok (.dup, 1) := by decide +kernel
theorem d3_371 : decode method_5_code 371 = .ok (.bipush 16, 2) := by decide +kernel
theorem d3_373 : decode method_5_code 373 = .ok (.iload 5, 2) := by decide +kernel
theorem d3_375 : decode method_5_code 375 = .ok (.castore, 1) := by decide +kernel
theorem d3_376 : decode method_5_code 376 = .ok (.dup, 1) := by decide +kernel
theorem d3_377 : decode method_5_code 377 = .ok (.bipush 17, 2) := by decide +kernel
theorem d3_379 : decode method_5_code 379 = .ok (.iload 5, 2) := by decide +kernel
theorem d3_381 : decode method_5_code 381 = .ok (.castore, 1) := by decide +kernel
theorem d3_382 : decode method_5_code 382 = .ok (.dup, 1) := by decide +kernel
theorem d3_383 : decode method_5_code 383 = .ok (.bipush 18, 2) := by decide +kernel
theorem d3_385 : decode method_5_code 385 = .ok (.iload 4, 2) := by decide +kernel
theorem d3_387 : decode method_5_code 387 = .ok (.castore, 1) := by decide +kernel
theorem d3_388 : decode method_5_code 388 = .ok (.invokespecial 9, 3) := by decide +kernel
theorem d3_391 : decode method_5_code 391 = .ok (.areturn, 1) := by decide +kernel
set_option maxRecDepth 65536 in
set_option maxHeartbeats 40000000 in
theorem rmStr (l : Launch) (Z : State) (a0 : Array Value) (hw : ∀ d ∈ tables_1, d.before a0 Z = true) (p0 p1 p2 p3 p4 p5 : Int32) (h0 : Heap) (Z0 : Ext Z.heap h0) (G : Jdk Z) (n1 : nar .char p1 = p1) (k1 : ¬ p1 < 0 ∧ ¬ (255 : Int32) < p1) (n2 : nar .char p2 = p2) (k2 : ¬ p2 < 0 ∧ ¬ (255 : Int32) < p2) (n3 : nar .char p3 = p3) (k3 : ¬ p3 < 0 ∧ ¬ (255 : Int32) < p3) (n4 : nar .char p4 = p4) (k4 : ¬ p4 < 0 ∧ ¬ (255 : Int32) < p4) (n5 : nar .char p5 = p5) (k5 : ¬ p5 < 0 ∧ ¬ (255 : Int32) < p5) :
    MetW l Z consts_1 (⟨"com/example/askel/askel/DecimalParsePinLaw", "str", "(ICCCCC)Ljava/lang/String;"⟩ : MethodName) method_5_code 6 (some (.object "java/lang/String")) [] ({ frames := 4, cells := 6, slots := 42, locals := 66 } : Room) #[(.int p0), (.int p1), (.int p2), (.int p3), (.int p4), (.int p5)] h0 (fun v h => ∃ a, v = some (.ref a) ∧ Ext h0 h ∧ Str Z h a (strCs p0 p1 p2 p3 p4 p5)) := by
  refine metW (by first | exact plainFor_of_name (by first | (simp [plainName, overriddenIn]; done) | decide +kernel) | decide +kernel) Z0 (Ls := #[.val (.int p0), .val (.int p1), .val (.int p2), .val (.int p3), .val (.int p4), .val (.int p5)]) (fun m => by first | (simp [entryFrame, mkF, argsToLocals, Value.category]; done) | rfl) ?_
  intro p e s m below meth c T0 vm0 hx hby hml hret hlk hown hnm hZ N0 wd0
  refine Ends.go (f' := (mkF m 1 #[.val (.int p0), .val (.int p1), .val (.int p2), .val (.int p3), .val (.int p4), .val (.int p5)] [(.int p0)])) (fun t k => XS.iloadN N0.here hx rfl (hb hby d3_0) rfl k) ?_
  by_cases l0 : p0 = 0
  · refine Ends.go (f' := (mkF m 4 #[.val (.int p0), .val (.int p1), .val (.int p2), .val (.int p3), .val (.int p4), .val (.int p5)] [])) (fun t k => XS.ifNo N0.here hx rfl (hb hby d3_1) rfl (XT.i0_ne_f l0) k) ?_
    refine gNew (a0 := a0) N0 hx hZ hown (hw _ (List.mem_of_getElem? (i := 10) rfl)) (hw _ (List.mem_of_getElem? (i := 11) rfl)) (hw _ (List.mem_of_getElem? (i := 12) rfl)) (hb hby d3_4) (nle rfl) (nle rfl) ?_
    intro T1 h2 a3 ea4 N5 E6 A7 D8
    have g9 : h0.size ≤ a3 := by rw [ea4]; exact (ext_refl h0).1
    have g10 : Z.heap.size ≤ a3 := by rw [ea4]; exact N0.le
    have X11 : Ext h0 h2 := ext_trans (ext_refl h0) E6
    show Ends p e below _ T1 (mkF m 7 #[.val (.int p0), .val (.int p1), .val (.int p2), .val (.int p3), .val (.int p4), .val (.int p5)] [(.ref a3)])
    refine Ends.go (f' := (mkF m 8 #[.val (.int p0), .val (.int p1), .val (.int p2), .val (.int p3), .val (.int p4), .val (.int p5)] [(.ref a3), (.ref a3)])) (fun t k => XS.dup N5.here hx rfl (hb hby d3_7) rfl rfl k) ?_
    refine Ends.go (f' := (mkF m 9 #[.val (.int p0), .val (.int p1), .val (.int p2), .val (.int p3), .val (.int p4), .val (.int p5)] [(.int (0 : Int32)), (.ref a3), (.ref a3)])) (fun t k => XS.iconst N5.here hx rfl (hb hby d3_8) k) ?_
    refine gArr 0 N5 hx hZ (hw _ (List.mem_of_getElem? (i := 13) rfl)) (hb hby d3_9) (by decide) (nle rfl) (nle rfl) (nle rfl) (nle rfl) ?_
    intro T12 h13 b14 kA15 eb16 N17 E18 V19
    have g20 : h0.size ≤ b14 := by rw [eb16]; exact X11.1
    have g21 : h2.size ≤ b14 := by rw [eb16]; exact (ext_refl h2).1
    have g22 : Z.heap.size ≤ b14 := by rw [eb16]; exact N5.le
    have X23 : Ext h0 h13 := ext_trans X11 E18
    have X24 : Ext h2 h13 := ext_trans (ext_refl h2) E18
    have V25 : Arv Z h13 b14 kA15 .char (0 : Int32) [] (.int (0 : Int32)) := V19.pad (pad_rep [] (.int (0 : Int32)) 0)
    show Ends p e below _ T12 (mkF m 11 #[.val (.int p0), .val (.int p1), .val (.int p2), .val (.int p3), .val (.int p4), .val (.int p5)] [(.ref b14), (.ref a3), (.ref a3)])
    refine gSpecialW (W := 1) (y := (⟨"java/lang/String", "<init>", "([C)V"⟩ : MethodName)) (a := a3) (argsL := [(.ref b14)]) (rest := [(.ref a3)]) rfl N17 hx hZ hown (wd0.ext X23) (hw _ (List.mem_of_getElem? (i := 14) rfl)) (hw _ (List.mem_of_getElem? (i := 15) rfl)) (hw _ (List.mem_of_getElem? (i := 16) rfl)) (by decide) ((rmE1 l Z a0 hw a3 b14 kA15 _ _ h13 N17.ext (A7.ext X24) ((D8 (Or.inr (hw _ (List.mem_of_getElem? (i := 26) rfl))) (ty := .array .byte) (by decide)).ext X24) ((D8 (Or.inr (hw _ (List.mem_of_getElem? (i := 27) rfl))) (ty := .byte) (by decide)).ext X24) g10 V25).back (W := 1) hZ (hw _ (List.mem_of_getElem? (i := 16) rfl)) (hw _ (List.mem_of_getElem? (i := 12) rfl)) (nle rfl) (nle rfl) (elw hw) (wd0.ext X23)) (hb hby d3_11) rfl (by rw [hml]; rfl) (lenOf (by decide +kernel : parseMethodDescriptor "([C)V" = some ⟨[(.array .char)], none⟩) rfl) (nle rfl) (nle rfl) (nle rfl) (fun _ _ _ q => q.2) ?_
    rintro _ vm26 T27 h28 L31 N29 ⟨⟨rfl, K32, S33⟩, -⟩ hZ hown wd30
    have X34 : Ext h0 h28 := ext_keep X23 K32 g9
    show Ends p e below _ T27 (mkF m 14 #[.val (.int p0), .val (.int p1), .val (.int p2), .val (.int p3), .val (.int p4), .val (.int p5)] [(.ref a3)])
    have q9 : strCs p0 p1 p2 p3 p4 p5 = [] := by simp only [strCs, if_pos l0]
    exact retAW N29 hZ (elw hw) wd30 hx hlk hret rfl rfl (hb hby d3_14) ⟨_, rfl, X34, by rw [q9]; exact S33⟩ (nle rfl) (nle rfl)
  · refine Ends.go (f' := (mkF m 15 #[.val (.int p0), .val (.int p1), .val (.int p2), .val (.int p3), .val (.int p4), .val (.int p5)] [])) (fun t k => XS.ifYes N0.here hx rfl (pc0 := 1) (pc' := 15) rfl (hb hby d3_1) rfl (XT.i0_ne_t l0) (by decide) (by decide) k) ?_
    refine Ends.go (f' := (mkF m 16 #[.val (.int p0), .val (.int p1), .val (.int p2), .val (.int p3), .val (.int p4), .val (.int p5)] [(.int p0)])) (fun t k => XS.iloadN N0.here hx rfl (hb hby d3_15) rfl k) ?_
    refine Ends.go (f' := (mkF m 17 #[.val (.int p0), .val (.int p1), .val (.int p2), .val (.int p3), .val (.int p4), .val (.int p5)] [(.int (1 : Int32)), (.int p0)])) (fun t k => XS.iconst N0.here hx rfl (hb hby d3_16) k) ?_
    by_cases l1 : p0 = (1 : Int32)
    · refine Ends.go (f' := (mkF m 20 #[.val (.int p0), .val (.int p1), .val (.int p2), .val (.int p3), .val (.int p4), .val (.int p5)] [])) (fun t k => XS.icmpNo N0.here hx rfl (hb hby d3_17) rfl (XT.ii_ne_f l1) k) ?_
      refine gNew (a0 := a0) N0 hx hZ hown (hw _ (List.mem_of_getElem? (i := 10) rfl)) (hw _ (List.mem_of_getElem? (i := 11) rfl)) (hw _ (List.mem_of_getElem? (i := 12) rfl)) (hb hby d3_20) (nle rfl) (nle rfl) ?_
      intro T35 h36 a37 ea38 N39 E40 A41 D42
      have g43 : h0.size ≤ a37 := by rw [ea38]; exact (ext_refl h0).1
      have g44 : Z.heap.size ≤ a37 := by rw [ea38]; exact N0.le
      have X45 : Ext h0 h36 := ext_trans (ext_refl h0) E40
      show Ends p e below _ T35 (mkF m 23 #[.val (.int p0), .val (.int p1), .val (.int p2), .val (.int p3), .val (.int p4), .val (.int p5)] [(.ref a37)])
      refine Ends.go (f' := (mkF m 24 #[.val (.int p0), .val (.int p1), .val (.int p2), .val (.int p3), .val (.int p4), .val (.int p5)] [(.ref a37), (.ref a37)])) (fun t k => XS.dup N39.here hx rfl (hb hby d3_23) rfl rfl k) ?_
      refine Ends.go (f' := (mkF m 25 #[.val (.int p0), .val (.int p1), .val (.int p2), .val (.int p3), .val (.int p4), .val (.int p5)] [(.int (1 : Int32)), (.ref a37), (.ref a37)])) (fun t k => XS.iconst N39.here hx rfl (hb hby d3_24) k) ?_
      refine gArr 1 N39 hx hZ (hw _ (List.mem_of_getElem? (i := 13) rfl)) (hb hby d3_25) (by decide) (nle rfl) (nle rfl) (nle rfl) (nle rfl) ?_
      intro T46 h47 b48 kA49 eb50 N51 E52 V53
      have g54 : h0.size ≤ b48 := by rw [eb50]; exact X45.1
      have g55 : h36.size ≤ b48 := by rw [eb50]; exact (ext_refl h36).1
      have g56 : Z.heap.size ≤ b48 := by rw [eb50]; exact N39.le
      have X57 : Ext h0 h47 := ext_trans X45 E52
      have X58 : Ext h36 h47 := ext_trans (ext_refl h36) E52
      have V59 : Arv Z h47 b48 kA49 .char (1 : Int32) [(.int (0 : Int32))] (.int (0 : Int32)) := V53.pad (pad_rep [] (.int (0 : Int32)) 1)
      show Ends p e below _ T46 (mkF m 27 #[.val (.int p0), .val (.int p1), .val (.int p2), .val (.int p3), .val (.int p4), .val (.int p5)] [(.ref b48), (.ref a37), (.ref a37)])
      refine Ends.go (f' := (mkF m 28 #[.val (.int p0), .val (.int p1), .val (.int p2), .val (.int p3), .val (.int p4), .val (.int p5)] [(.ref b48), (.ref b48), (.ref a37), (.ref a37)])) (fun t k => XS.dup N51.here hx rfl (hb hby d3_27) rfl rfl k) ?_
      refine Ends.go (f' := (mkF m 29 #[.val (.int p0), .val (.int p1), .val (.int p2), .val (.int p3), .val (.int p4), .val (.int p5)] [(.int (0 : Int32)), (.ref b48), (.ref b48), (.ref a37), (.ref a37)])) (fun t k => XS.iconst N51.here hx rfl (hb hby d3_28) k) ?_
      refine Ends.go (f' := (mkF m 30 #[.val (.int p0), .val (.int p1), .val (.int p2), .val (.int p3), .val (.int p4), .val (.int p5)] [(.int p1), (.int (0 : Int32)), (.ref b48), (.ref b48), (.ref a37), (.ref a37)])) (fun t k => XS.iloadN N51.here hx rfl (hb hby d3_29) rfl k) ?_
      refine gStC 0 N51 hx hZ V59 g56 (by decide) rfl (nle rfl) (hb hby d3_30) ?_
      intro T60 h61 N62 W63 V64
      rw [n1] at V64
      have V65 : Arv Z h61 b48 kA49 .char (1 : Int32) [(.int p1)] (.int (0 : Int32)) := V64
      have X66 : Ext h0 h61 := ext_wr X57 W63 g54
      have X67 : Ext h36 h61 := ext_wr X58 W63 g55
      show Ends p e below _ T60 (mkF m 31 #[.val (.int p0), .val (.int p1), .val (.int p2), .val (.int p3), .val (.int p4), .val (.int p5)] [(.ref b48), (.ref a37), (.ref a37)])
      refine gSpecial (W := 1) (y := (⟨"java/lang/String", "<init>", "([C)V"⟩ : MethodName)) (a := a37) (argsL := [(.ref b48)]) (rest := [(.ref a37)]) rfl N62 hx hZ hown (hw _ (List.mem_of_getElem? (i := 14) rfl)) (hw _ (List.mem_of_getElem? (i := 15) rfl)) (hw _ (List.mem_of_getElem? (i := 16) rfl)) (by decide) (strNew (W := 1) (cs := [p1]) hZ hw G N62.ext g44 (A41.ext X67) ((D42 (Or.inr (hw _ (List.mem_of_getElem? (i := 26) rfl))) (ty := .array .byte) (by decide)).ext X67) ((D42 (Or.inr (hw _ (List.mem_of_getElem? (i := 27) rfl))) (ty := .byte) (by decide)).ext X67) V65 (nle rfl) (nle rfl) (hp_cons k1 hp_nil) (nle rfl) (nle rfl)) (hb hby d3_31) rfl (by rw [hml]; rfl) (lenOf (by decide +kernel : parseMethodDescriptor "([C)V" = some ⟨[(.array .char)], none⟩) rfl) (nle rfl) (nle rfl) (nle rfl) (fun _ _ _ q => q.2.2.2) ?_
      rintro _ T68 h69 L70 N71 ⟨rfl, K72, S73, -⟩
      have X74 : Ext h0 h69 := ext_keep X66 K72 g43
      show Ends p e below _ T68 (mkF m 34 #[.val (.int p0), .val (.int p1), .val (.int p2), .val (.int p3), .val (.int p4), .val (.int p5)] [(.ref a37)])
      have q9 : strCs p0 p1 p2 p3 p4 p5 = [p1] := by simp only [strCs, if_neg l0, if_pos l1]
      exact retAW N71 hZ (elw hw) (wd0.ext X74) hx hlk hret rfl rfl (hb hby d3_34) ⟨_, rfl, X74, by rw [q9]; exact S73⟩ (nle rfl) (nle rfl)
    · refine Ends.go (f' := (mkF m 35 #[.val (.int p0), .val (.int p1), .val (.int p2), .val (.int p3), .val (.int p4), .val (.int p5)] [])) (fun t k => XS.icmpYes N0.here hx rfl (pc0 := 17) (pc' := 35) rfl (hb hby d3_17) rfl (XT.ii_ne_t l1) (by decide) (by decide) k) ?_
      refine Ends.go (f' := (mkF m 36 #[.val (.int p0), .val (.int p1), .val (.int p2), .val (.int p3), .val (.int p4), .val (.int p5)] [(.int p0)])) (fun t k => XS.iloadN N0.here hx rfl (hb hby d3_35) rfl k) ?_
      refine Ends.go (f' := (mkF m 37 #[.val (.int p0), .val (.int p1), .val (.int p2), .val (.int p3), .val (.int p4), .val (.int p5)] [(.int (2 : Int32)), (.int p0)])) (fun t k => XS.iconst N0.here hx rfl (hb hby d3_36) k) ?_
      by_cases l2 : p0 = (2 : Int32)
      · refine Ends.go (f' := (mkF m 40 #[.val (.int p0), .val (.int p1), .val (.int p2), .val (.int p3), .val (.int p4), .val (.int p5)] [])) (fun t k => XS.icmpNo N0.here hx rfl (hb hby d3_37) rfl (XT.ii_ne_f l2) k) ?_
        refine gNew (a0 := a0) N0 hx hZ hown (hw _ (List.mem_of_getElem? (i := 10) rfl)) (hw _ (List.mem_of_getElem? (i := 11) rfl)) (hw _ (List.mem_of_getElem? (i := 12) rfl)) (hb hby d3_40) (nle rfl) (nle rfl) ?_
        intro T75 h76 a77 ea78 N79 E80 A81 D82
        have g83 : h0.size ≤ a77 := by rw [ea78]; exact (ext_refl h0).1
        have g84 : Z.heap.size ≤ a77 := by rw [ea78]; exact N0.le
        have X85 : Ext h0 h76 := ext_trans (ext_refl h0) E80
        show Ends p e below _ T75 (mkF m 43 #[.val (.int p0), .val (.int p1), .val (.int p2), .val (.int p3), .val (.int p4), .val (.int p5)] [(.ref a77)])
        refine Ends.go (f' := (mkF m 44 #[.val (.int p0), .val (.int p1), .val (.int p2), .val (.int p3), .val (.int p4), .val (.int p5)] [(.ref a77), (.ref a77)])) (fun t k => XS.dup N79.here hx rfl (hb hby d3_43) rfl rfl k) ?_
        refine Ends.go (f' := (mkF m 45 #[.val (.int p0), .val (.int p1), .val (.int p2), .val (.int p3), .val (.int p4), .val (.int p5)] [(.int (2 : Int32)), (.ref a77), (.ref a77)])) (fun t k => XS.iconst N79.here hx rfl (hb hby d3_44) k) ?_
        refine gArr 2 N79 hx hZ (hw _ (List.mem_of_getElem? (i := 13) rfl)) (hb hby d3_45) (by decide) (nle rfl) (nle rfl) (nle rfl) (nle rfl) ?_
        intro T86 h87 b88 kA89 eb90 N91 E92 V93
        have g94 : h0.size ≤ b88 := by rw [eb90]; exact X85.1
        have g95 : h76.size ≤ b88 := by rw [eb90]; exact (ext_refl h76).1
        have g96 : Z.heap.size ≤ b88 := by rw [eb90]; exact N79.le
        have X97 : Ext h0 h87 := ext_trans X85 E92
        have X98 : Ext h76 h87 := ext_trans (ext_refl h76) E92
        have V99 : Arv Z h87 b88 kA89 .char (2 : Int32) [(.int (0 : Int32)), (.int (0 : Int32))] (.int (0 : Int32)) := V93.pad (pad_rep [] (.int (0 : Int32)) 2)
        show Ends p e below _ T86 (mkF m 47 #[.val (.int p0), .val (.int p1), .val (.int p2), .val (.int p3), .val (.int p4), .val (.int p5)] [(.ref b88), (.ref a77), (.ref a77)])
        refine Ends.go (f' := (mkF m 48 #[.val (.int p0), .val (.int p1), .val (.int p2), .val (.int p3), .val (.int p4), .val (.int p5)] [(.ref b88), (.ref b88), (.ref a77), (.ref a77)])) (fun t k => XS.dup N91.here hx rfl (hb hby d3_47) rfl rfl k) ?_
        refine Ends.go (f' := (mkF m 49 #[.val (.int p0), .val (.int p1), .val (.int p2), .val (.int p3), .val (.int p4), .val (.int p5)] [(.int (0 : Int32)), (.ref b88), (.ref b88), (.ref a77), (.ref a77)])) (fun t k => XS.iconst N91.here hx rfl (hb hby d3_48) k) ?_
        refine Ends.go (f' := (mkF m 50 #[.val (.int p0), .val (.int p1), .val (.int p2), .val (.int p3), .val (.int p4), .val (.int p5)] [(.int p1), (.int (0 : Int32)), (.ref b88), (.ref b88), (.ref a77), (.ref a77)])) (fun t k => XS.iloadN N91.here hx rfl (hb hby d3_49) rfl k) ?_
        refine gStC 0 N91 hx hZ V99 g96 (by decide) rfl (nle rfl) (hb hby d3_50) ?_
        intro T100 h101 N102 W103 V104
        rw [n1] at V104
        have V105 : Arv Z h101 b88 kA89 .char (2 : Int32) [(.int p1), (.int (0 : Int32))] (.int (0 : Int32)) := V104
        have X106 : Ext h0 h101 := ext_wr X97 W103 g94
        have X107 : Ext h76 h101 := ext_wr X98 W103 g95
        show Ends p e below _ T100 (mkF m 51 #[.val (.int p0), .val (.int p1), .val (.int p2), .val (.int p3), .val (.int p4), .val (.int p5)] [(.ref b88), (.ref a77), (.ref a77)])
        refine Ends.go (f' := (mkF m 52 #[.val (.int p0), .val (.int p1), .val (.int p2), .val (.int p3), .val (.int p4), .val (.int p5)] [(.ref b88), (.ref b88), (.ref a77), (.ref a77)])) (fun t k => XS.dup N102.here hx rfl (hb hby d3_51) rfl rfl k) ?_
        refine Ends.go (f' := (mkF m 53 #[.val (.int p0), .val (.int p1), .val (.int p2), .val (.int p3), .val (.int p4), .val (.int p5)] [(.int (1 : Int32)), (.ref b88), (.ref b88), (.ref a77), (.ref a77)])) (fun t k => XS.iconst N102.here hx rfl (hb hby d3_52) k) ?_
        refine Ends.go (f' := (mkF m 54 #[.val (.int p0), .val (.int p1), .val (.int p2), .val (.int p3), .val (.int p4), .val (.int p5)] [(.int p2), (.int (1 : Int32)), (.ref b88), (.ref b88), (.ref a77), (.ref a77)])) (fun t k => XS.iloadN N102.here hx rfl (hb hby d3_53) rfl k) ?_
        refine gStC 1 N102 hx hZ V105 g96 (by decide) rfl (nle rfl) (hb hby d3_54) ?_
        intro T108 h109 N110 W111 V112
        rw [n2] at V112
        have V113 : Arv Z h109 b88 kA89 .char (2 : Int32) [(.int p1), (.int p2)] (.int (0 : Int32)) := V112
        have X114 : Ext h0 h109 := ext_wr X106 W111 g94
        have X115 : Ext h76 h109 := ext_wr X107 W111 g95
        show Ends p e below _ T108 (mkF m 55 #[.val (.int p0), .val (.int p1), .val (.int p2), .val (.int p3), .val (.int p4), .val (.int p5)] [(.ref b88), (.ref a77), (.ref a77)])
        refine gSpecial (W := 1) (y := (⟨"java/lang/String", "<init>", "([C)V"⟩ : MethodName)) (a := a77) (argsL := [(.ref b88)]) (rest := [(.ref a77)]) rfl N110 hx hZ hown (hw _ (List.mem_of_getElem? (i := 14) rfl)) (hw _ (List.mem_of_getElem? (i := 15) rfl)) (hw _ (List.mem_of_getElem? (i := 16) rfl)) (by decide) (strNew (W := 1) (cs := [p1, p2]) hZ hw G N110.ext g84 (A81.ext X115) ((D82 (Or.inr (hw _ (List.mem_of_getElem? (i := 26) rfl))) (ty := .array .byte) (by decide)).ext X115) ((D82 (Or.inr (hw _ (List.mem_of_getElem? (i := 27) rfl))) (ty := .byte) (by decide)).ext X115) V113 (nle rfl) (nle rfl) (hp_cons k1 (hp_cons k2 hp_nil)) (nle rfl) (nle rfl)) (hb hby d3_55) rfl (by rw [hml]; rfl) (lenOf (by decide +kernel : parseMethodDescriptor "([C)V" = some ⟨[(.array .char)], none⟩) rfl) (nle rfl) (nle rfl) (nle rfl) (fun _ _ _ q => q.2.2.2) ?_
        rintro _ T116 h117 L118 N119 ⟨rfl, K120, S121, -⟩
        have X122 : Ext h0 h117 := ext_keep X114 K120 g83
        show Ends p e below _ T116 (mkF m 58 #[.val (.int p0), .val (.int p1), .val (.int p2), .val (.int p3), .val (.int p4), .val (.int p5)] [(.ref a77)])
        have q9 : strCs p0 p1 p2 p3 p4 p5 = [p1, p2] := by simp only [strCs, if_neg l0, if_neg l1, if_pos l2]
        exact retAW N119 hZ (elw hw) (wd0.ext X122) hx hlk hret rfl rfl (hb hby d3_58) ⟨_, rfl, X122, by rw [q9]; exact S121⟩ (nle rfl) (nle rfl)
      · refine Ends.go (f' := (mkF m 59 #[.val (.int p0), .val (.int p1), .val (.int p2), .val (.int p3), .val (.int p4), .val (.int p5)] [])) (fun t k => XS.icmpYes N0.here hx rfl (pc0 := 37) (pc' := 59) rfl (hb hby d3_37) rfl (XT.ii_ne_t l2) (by decide) (by decide) k) ?_
        refine Ends.go (f' := (mkF m 60 #[.val (.int p0), .val (.int p1), .val (.int p2), .val (.int p3), .val (.int p4), .val (.int p5)] [(.int p0)])) (fun t k => XS.iloadN N0.here hx rfl (hb hby d3_59) rfl k) ?_
        refine Ends.go (f' := (mkF m 61 #[.val (.int p0), .val (.int p1), .val (.int p2), .val (.int p3), .val (.int p4), .val (.int p5)] [(.int (3 : Int32)), (.int p0)])) (fun t k => XS.iconst N0.here hx rfl (hb hby d3_60) k) ?_
        by_cases l3 : p0 = (3 : Int32)
        · refine Ends.go (f' := (mkF m 64 #[.val (.int p0), .val (.int p1), .val (.int p2), .val (.int p3), .val (.int p4), .val (.int p5)] [])) (fun t k => XS.icmpNo N0.here hx rfl (hb hby d3_61) rfl (XT.ii_ne_f l3) k) ?_
          refine gNew (a0 := a0) N0 hx hZ hown (hw _ (List.mem_of_getElem? (i := 10) rfl)) (hw _ (List.mem_of_getElem? (i := 11) rfl)) (hw _ (List.mem_of_getElem? (i := 12) rfl)) (hb hby d3_64) (nle rfl) (nle rfl) ?_
          intro T123 h124 a125 ea126 N127 E128 A129 D130
          have g131 : h0.size ≤ a125 := by rw [ea126]; exact (ext_refl h0).1
          have g132 : Z.heap.size ≤ a125 := by rw [ea126]; exact N0.le
          have X133 : Ext h0 h124 := ext_trans (ext_refl h0) E128
          show Ends p e below _ T123 (mkF m 67 #[.val (.int p0), .val (.int p1), .val (.int p2), .val (.int p3), .val (.int p4), .val (.int p5)] [(.ref a125)])
          refine Ends.go (f' := (mkF m 68 #[.val (.int p0), .val (.int p1), .val (.int p2), .val (.int p3), .val (.int p4), .val (.int p5)] [(.ref a125), (.ref a125)])) (fun t k => XS.dup N127.here hx rfl (hb hby d3_67) rfl rfl k) ?_
          refine Ends.go (f' := (mkF m 69 #[.val (.int p0), .val (.int p1), .val (.int p2), .val (.int p3), .val (.int p4), .val (.int p5)] [(.int (3 : Int32)), (.ref a125), (.ref a125)])) (fun t k => XS.iconst N127.here hx rfl (hb hby d3_68) k) ?_
          refine gArr 3 N127 hx hZ (hw _ (List.mem_of_getElem? (i := 13) rfl)) (hb hby d3_69) (by decide) (nle rfl) (nle rfl) (nle rfl) (nle rfl) ?_
          intro T134 h135 b136 kA137 eb138 N139 E140 V141
          have g142 : h0.size ≤ b136 := by rw [eb138]; exact X133.1
          have g143 : h124.size ≤ b136 := by rw [eb138]; exact (ext_refl h124).1
          have g144 : Z.heap.size ≤ b136 := by rw [eb138]; exact N127.le
          have X145 : Ext h0 h135 := ext_trans X133 E140
          have X146 : Ext h124 h135 := ext_trans (ext_refl h124) E140
          have V147 : Arv Z h135 b136 kA137 .char (3 : Int32) [(.int (0 : Int32)), (.int (0 : Int32)), (.int (0 : Int32))] (.int (0 : Int32)) := V141.pad (pad_rep [] (.int (0 : Int32)) 3)
          show Ends p e below _ T134 (mkF m 71 #[.val (.int p0), .val (.int p1), .val (.int p2), .val (.int p3), .val (.int p4), .val (.int p5)] [(.ref b136), (.ref a125), (.ref a125)])
          refine Ends.go (f' := (mkF m 72 #[.val (.int p0), .val (.int p1), .val (.int p2), .val (.int p3), .val (.int p4), .val (.int p5)] [(.ref b136), (.ref b136), (.ref a125), (.ref a125)])) (fun t k => XS.dup N139.here hx rfl (hb hby d3_71) rfl rfl k) ?_
          refine Ends.go (f' := (mkF m 73 #[.val (.int p0), .val (.int p1), .val (.int p2), .val (.int p3), .val (.int p4), .val (.int p5)] [(.int (0 : Int32)), (.ref b136), (.ref b136), (.ref a125), (.ref a125)])) (fun t k => XS.iconst N139.here hx rfl (hb hby d3_72) k) ?_
          refine Ends.go (f' := (mkF m 74 #[.val (.int p0), .val (.int p1), .val (.int p2), .val (.int p3), .val (.int p4), .val (.int p5)] [(.int p1), (.int (0 : Int32)), (.ref b136), (.ref b136), (.ref a125), (.ref a125)])) (fun t k => XS.iloadN N139.here hx rfl (hb hby d3_73) rfl k) ?_
          refine gStC 0 N139 hx hZ V147 g144 (by decide) rfl (nle rfl) (hb hby d3_74) ?_
          intro T148 h149 N150 W151 V152
          rw [n1] at V152
          have V153 : Arv Z h149 b136 kA137 .char (3 : Int32) [(.int p1), (.int (0 : Int32)), (.int (0 : Int32))] (.int (0 : Int32)) := V152
          have X154 : Ext h0 h149 := ext_wr X145 W151 g142
          have X155 : Ext h124 h149 := ext_wr X146 W151 g143
          show Ends p e below _ T148 (mkF m 75 #[.val (.int p0), .val (.int p1), .val (.int p2), .val (.int p3), .val (.int p4), .val (.int p5)] [(.ref b136), (.ref a125), (.ref a125)])
          refine Ends.go (f' := (mkF m 76 #[.val (.int p0), .val (.int p1), .val (.int p2), .val (.int p3), .val (.int p4), .val (.int p5)] [(.ref b136), (.ref b136), (.ref a125), (.ref a125)])) (fun t k => XS.dup N150.here hx rfl (hb hby d3_75) rfl rfl k) ?_
          refine Ends.go (f' := (mkF m 77 #[.val (.int p0), .val (.int p1), .val (.int p2), .val (.int p3), .val (.int p4), .val (.int p5)] [(.int (1 : Int32)), (.ref b136), (.ref b136), (.ref a125), (.ref a125)])) (fun t k => XS.iconst N150.here hx rfl (hb hby d3_76) k) ?_
          refine Ends.go (f' := (mkF m 78 #[.val (.int p0), .val (.int p1), .val (.int p2), .val (.int p3), .val (.int p4), .val (.int p5)] [(.int p2), (.int (1 : Int32)), (.ref b136), (.ref b136), (.ref a125), (.ref a125)])) (fun t k => XS.iloadN N150.here hx rfl (hb hby d3_77) rfl k) ?_
          refine gStC 1 N150 hx hZ V153 g144 (by decide) rfl (nle rfl) (hb hby d3_78) ?_
          intro T156 h157 N158 W159 V160
          rw [n2] at V160
          have V161 : Arv Z h157 b136 kA137 .char (3 : Int32) [(.int p1), (.int p2), (.int (0 : Int32))] (.int (0 : Int32)) := V160
          have X162 : Ext h0 h157 := ext_wr X154 W159 g142
          have X163 : Ext h124 h157 := ext_wr X155 W159 g143
          show Ends p e below _ T156 (mkF m 79 #[.val (.int p0), .val (.int p1), .val (.int p2), .val (.int p3), .val (.int p4), .val (.int p5)] [(.ref b136), (.ref a125), (.ref a125)])
          refine Ends.go (f' := (mkF m 80 #[.val (.int p0), .val (.int p1), .val (.int p2), .val (.int p3), .val (.int p4), .val (.int p5)] [(.ref b136), (.ref b136), (.ref a125), (.ref a125)])) (fun t k => XS.dup N158.here hx rfl (hb hby d3_79) rfl rfl k) ?_
          refine Ends.go (f' := (mkF m 81 #[.val (.int p0), .val (.int p1), .val (.int p2), .val (.int p3), .val (.int p4), .val (.int p5)] [(.int (2 : Int32)), (.ref b136), (.ref b136), (.ref a125), (.ref a125)])) (fun t k => XS.iconst N158.here hx rfl (hb hby d3_80) k) ?_
          refine Ends.go (f' := (mkF m 82 #[.val (.int p0), .val (.int p1), .val (.int p2), .val (.int p3), .val (.int p4), .val (.int p5)] [(.int p3), (.int (2 : Int32)), (.ref b136), (.ref b136), (.ref a125), (.ref a125)])) (fun t k => XS.iloadN N158.here hx rfl (hb hby d3_81) rfl k) ?_
          refine gStC 2 N158 hx hZ V161 g144 (by decide) rfl (nle rfl) (hb hby d3_82) ?_
          intro T164 h165 N166 W167 V168
          rw [n3] at V168
          have V169 : Arv Z h165 b136 kA137 .char (3 : Int32) [(.int p1), (.int p2), (.int p3)] (.int (0 : Int32)) := V168
          have X170 : Ext h0 h165 := ext_wr X162 W167 g142
          have X171 : Ext h124 h165 := ext_wr X163 W167 g143
          show Ends p e below _ T164 (mkF m 83 #[.val (.int p0), .val (.int p1), .val (.int p2), .val (.int p3), .val (.int p4), .val (.int p5)] [(.ref b136), (.ref a125), (.ref a125)])
          refine gSpecial (W := 1) (y := (⟨"java/lang/String", "<init>", "([C)V"⟩ : MethodName)) (a := a125) (argsL := [(.ref b136)]) (rest := [(.ref a125)]) rfl N166 hx hZ hown (hw _ (List.mem_of_getElem? (i := 14) rfl)) (hw _ (List.mem_of_getElem? (i := 15) rfl)) (hw _ (List.mem_of_getElem? (i := 16) rfl)) (by decide) (strNew (W := 1) (cs := [p1, p2, p3]) hZ hw G N166.ext g132 (A129.ext X171) ((D130 (Or.inr (hw _ (List.mem_of_getElem? (i := 26) rfl))) (ty := .array .byte) (by decide)).ext X171) ((D130 (Or.inr (hw _ (List.mem_of_getElem? (i := 27) rfl))) (ty := .byte) (by decide)).ext X171) V169 (nle rfl) (nle rfl) (hp_cons k1 (hp_cons k2 (hp_cons k3 hp_nil))) (nle rfl) (nle rfl)) (hb hby d3_83) rfl (by rw [hml]; rfl) (lenOf (by decide +kernel : parseMethodDescriptor "([C)V" = some ⟨[(.array .char)], none⟩) rfl) (nle rfl) (nle rfl) (nle rfl) (fun _ _ _ q => q.2.2.2) ?_
          rintro _ T172 h173 L174 N175 ⟨rfl, K176, S177, -⟩
          have X178 : Ext h0 h173 := ext_keep X170 K176 g131
          show Ends p e below _ T172 (mkF m 86 #[.val (.int p0), .val (.int p1), .val (.int p2), .val (.int p3), .val (.int p4), .val (.int p5)] [(.ref a125)])
          have q9 : strCs p0 p1 p2 p3 p4 p5 = [p1, p2, p3] := by simp only [strCs, if_neg l0, if_neg l1, if_neg l2, if_pos l3]
          exact retAW N175 hZ (elw hw) (wd0.ext X178) hx hlk hret rfl rfl (hb hby d3_86) ⟨_, rfl, X178, by rw [q9]; exact S177⟩ (nle rfl) (nle rfl)
        · refine Ends.go (f' := (mkF m 87 #[.val (.int p0), .val (.int p1), .val (.int p2), .val (.int p3), .val (.int p4), .val (.int p5)] [])) (fun t k => XS.icmpYes N0.here hx rfl (pc0 := 61) (pc' := 87) rfl (hb hby d3_61) rfl (XT.ii_ne_t l3) (by decide) (by decide) k) ?_
          refine Ends.go (f' := (mkF m 88 #[.val (.int p0), .val (.int p1), .val (.int p2), .val (.int p3), .val (.int p4), .val (.int p5)] [(.int p0)])) (fun t k => XS.iloadN N0.here hx rfl (hb hby d3_87) rfl k) ?_
          refine Ends.go (f' := (mkF m 89 #[.val (.int p0), .val (.int p1), .val (.int p2), .val (.int p3), .val (.int p4), .val (.int p5)] [(.int (4 : Int32)), (.int p0)])) (fun t k => XS.iconst N0.here hx rfl (hb hby d3_88) k) ?_
          by_cases l4 : p0 = (4 : Int32)
          · refine Ends.go (f' := (mkF m 92 #[.val (.int p0), .val (.int p1), .val (.int p2), .val (.int p3), .val (.int p4), .val (.int p5)] [])) (fun t k => XS.icmpNo N0.here hx rfl (hb hby d3_89) rfl (XT.ii_ne_f l4) k) ?_
            refine gNew (a0 := a0) N0 hx hZ hown (hw _ (List.mem_of_getElem? (i := 10) rfl)) (hw _ (List.mem_of_getElem? (i := 11) rfl)) (hw _ (List.mem_of_getElem? (i := 12) rfl)) (hb hby d3_92) (nle rfl) (nle rfl) ?_
            intro T179 h180 a181 ea182 N183 E184 A185 D186
            have g187 : h0.size ≤ a181 := by rw [ea182]; exact (ext_refl h0).1
            have g188 : Z.heap.size ≤ a181 := by rw [ea182]; exact N0.le
            have X189 : Ext h0 h180 := ext_trans (ext_refl h0) E184
            show Ends p e below _ T179 (mkF m 95 #[.val (.int p0), .val (.int p1), .val (.int p2), .val (.int p3), .val (.int p4), .val (.int p5)] [(.ref a181)])
            refine Ends.go (f' := (mkF m 96 #[.val (.int p0), .val (.int p1), .val (.int p2), .val (.int p3), .val (.int p4), .val (.int p5)] [(.ref a181), (.ref a181)])) (fun t k => XS.dup N183.here hx rfl (hb hby d3_95) rfl rfl k) ?_
            refine Ends.go (f' := (mkF m 97 #[.val (.int p0), .val (.int p1), .val (.int p2), .val (.int p3), .val (.int p4), .val (.int p5)] [(.int (4 : Int32)), (.ref a181), (.ref a181)])) (fun t k => XS.iconst N183.here hx rfl (hb hby d3_96) k) ?_
            refine gArr 4 N183 hx hZ (hw _ (List.mem_of_getElem? (i := 13) rfl)) (hb hby d3_97) (by decide) (nle rfl) (nle rfl) (nle rfl) (nle rfl) ?_
            intro T190 h191 b192 kA193 eb194 N195 E196 V197
            have g198 : h0.size ≤ b192 := by rw [eb194]; exact X189.1
            have g199 : h180.size ≤ b192 := by rw [eb194]; exact (ext_refl h180).1
            have g200 : Z.heap.size ≤ b192 := by rw [eb194]; exact N183.le
            have X201 : Ext h0 h191 := ext_trans X189 E196
            have X202 : Ext h180 h191 := ext_trans (ext_refl h180) E196
            have V203 : Arv Z h191 b192 kA193 .char (4 : Int32) [(.int (0 : Int32)), (.int (0 : Int32)), (.int (0 : Int32)), (.int (0 : Int32))] (.int (0 : Int32)) := V197.pad (pad_rep [] (.int (0 : Int32)) 4)
            show Ends p e below _ T190 (mkF m 99 #[.val (.int p0), .val (.int p1), .val (.int p2), .val (.int p3), .val (.int p4), .val (.int p5)] [(.ref b192), (.ref a181), (.ref a181)])
            refine Ends.go (f' := (mkF m 100 #[.val (.int p0), .val (.int p1), .val (.int p2), .val (.int p3), .val (.int p4), .val (.int p5)] [(.ref b192), (.ref b192), (.ref a181), (.ref a181)])) (fun t k => XS.dup N195.here hx rfl (hb hby d3_99) rfl rfl k) ?_
            refine Ends.go (f' := (mkF m 101 #[.val (.int p0), .val (.int p1), .val (.int p2), .val (.int p3), .val (.int p4), .val (.int p5)] [(.int (0 : Int32)), (.ref b192), (.ref b192), (.ref a181), (.ref a181)])) (fun t k => XS.iconst N195.here hx rfl (hb hby d3_100) k) ?_
            refine Ends.go (f' := (mkF m 102 #[.val (.int p0), .val (.int p1), .val (.int p2), .val (.int p3), .val (.int p4), .val (.int p5)] [(.int p1), (.int (0 : Int32)), (.ref b192), (.ref b192), (.ref a181), (.ref a181)])) (fun t k => XS.iloadN N195.here hx rfl (hb hby d3_101) rfl k) ?_
            refine gStC 0 N195 hx hZ V203 g200 (by decide) rfl (nle rfl) (hb hby d3_102) ?_
            intro T204 h205 N206 W207 V208
            rw [n1] at V208
            have V209 : Arv Z h205 b192 kA193 .char (4 : Int32) [(.int p1), (.int (0 : Int32)), (.int (0 : Int32)), (.int (0 : Int32))] (.int (0 : Int32)) := V208
            have X210 : Ext h0 h205 := ext_wr X201 W207 g198
            have X211 : Ext h180 h205 := ext_wr X202 W207 g199
            show Ends p e below _ T204 (mkF m 103 #[.val (.int p0), .val (.int p1), .val (.int p2), .val (.int p3), .val (.int p4), .val (.int p5)] [(.ref b192), (.ref a181), (.ref a181)])
            refine Ends.go (f' := (mkF m 104 #[.val (.int p0), .val (.int p1), .val (.int p2), .val (.int p3), .val (.int p4), .val (.int p5)] [(.ref b192), (.ref b192), (.ref a181), (.ref a181)])) (fun t k => XS.dup N206.here hx rfl (hb hby d3_103) rfl rfl k) ?_
            refine Ends.go (f' := (mkF m 105 #[.val (.int p0), .val (.int p1), .val (.int p2), .val (.int p3), .val (.int p4), .val (.int p5)] [(.int (1 : Int32)), (.ref b192), (.ref b192), (.ref a181), (.ref a181)])) (fun t k => XS.iconst N206.here hx rfl (hb hby d3_104) k) ?_
            refine Ends.go (f' := (mkF m 106 #[.val (.int p0), .val (.int p1), .val (.int p2), .val (.int p3), .val (.int p4), .val (.int p5)] [(.int p2), (.int (1 : Int32)), (.ref b192), (.ref b192), (.ref a181), (.ref a181)])) (fun t k => XS.iloadN N206.here hx rfl (hb hby d3_105) rfl k) ?_
            refine gStC 1 N206 hx hZ V209 g200 (by decide) rfl (nle rfl) (hb hby d3_106) ?_
            intro T212 h213 N214 W215 V216
            rw [n2] at V216
            have V217 : Arv Z h213 b192 kA193 .char (4 : Int32) [(.int p1), (.int p2), (.int (0 : Int32)), (.int (0 : Int32))] (.int (0 : Int32)) := V216
            have X218 : Ext h0 h213 := ext_wr X210 W215 g198
            have X219 : Ext h180 h213 := ext_wr X211 W215 g199
            show Ends p e below _ T212 (mkF m 107 #[.val (.int p0), .val (.int p1), .val (.int p2), .val (.int p3), .val (.int p4), .val (.int p5)] [(.ref b192), (.ref a181), (.ref a181)])
            refine Ends.go (f' := (mkF m 108 #[.val (.int p0), .val (.int p1), .val (.int p2), .val (.int p3), .val (.int p4), .val (.int p5)] [(.ref b192), (.ref b192), (.ref a181), (.ref a181)])) (fun t k => XS.dup N214.here hx rfl (hb hby d3_107) rfl rfl k) ?_
            refine Ends.go (f' := (mkF m 109 #[.val (.int p0), .val (.int p1), .val (.int p2), .val (.int p3), .val (.int p4), .val (.int p5)] [(.int (2 : Int32)), (.ref b192), (.ref b192), (.ref a181), (.ref a181)])) (fun t k => XS.iconst N214.here hx rfl (hb hby d3_108) k) ?_
            refine Ends.go (f' := (mkF m 110 #[.val (.int p0), .val (.int p1), .val (.int p2), .val (.int p3), .val (.int p4), .val (.int p5)] [(.int p3), (.int (2 : Int32)), (.ref b192), (.ref b192), (.ref a181), (.ref a181)])) (fun t k => XS.iloadN N214.here hx rfl (hb hby d3_109) rfl k) ?_
            refine gStC 2 N214 hx hZ V217 g200 (by decide) rfl (nle rfl) (hb hby d3_110) ?_
            intro T220 h221 N222 W223 V224
            rw [n3] at V224
            have V225 : Arv Z h221 b192 kA193 .char (4 : Int32) [(.int p1), (.int p2), (.int p3), (.int (0 : Int32))] (.int (0 : Int32)) := V224
            have X226 : Ext h0 h221 := ext_wr X218 W223 g198
            have X227 : Ext h180 h221 := ext_wr X219 W223 g199
            show Ends p e below _ T220 (mkF m 111 #[.val (.int p0), .val (.int p1), .val (.int p2), .val (.int p3), .val (.int p4), .val (.int p5)] [(.ref b192), (.ref a181), (.ref a181)])
            refine Ends.go (f' := (mkF m 112 #[.val (.int p0), .val (.int p1), .val (.int p2), .val (.int p3), .val (.int p4), .val (.int p5)] [(.ref b192), (.ref b192), (.ref a181), (.ref a181)])) (fun t k => XS.dup N222.here hx rfl (hb hby d3_111) rfl rfl k) ?_
            refine Ends.go (f' := (mkF m 113 #[.val (.int p0), .val (.int p1), .val (.int p2), .val (.int p3), .val (.int p4), .val (.int p5)] [(.int (3 : Int32)), (.ref b192), (.ref b192), (.ref a181), (.ref a181)])) (fun t k => XS.iconst N222.here hx rfl (hb hby d3_112) k) ?_
            refine Ends.go (f' := (mkF m 115 #[.val (.int p0), .val (.int p1), .val (.int p2), .val (.int p3), .val (.int p4), .val (.int p5)] [(.int p4), (.int (3 : Int32)), (.ref b192), (.ref b192), (.ref a181), (.ref a181)])) (fun t k => XS.iload N222.here hx rfl (hb hby d3_113) rfl k) ?_
            refine gStC 3 N222 hx hZ V225 g200 (by decide) rfl (nle rfl) (hb hby d3_115) ?_
            intro T228 h229 N230 W231 V232
            rw [n4] at V232
            have V233 : Arv Z h229 b192 kA193 .char (4 : Int32) [(.int p1), (.int p2), (.int p3), (.int p4)] (.int (0 : Int32)) := V232
            have X234 : Ext h0 h229 := ext_wr X226 W231 g198
            have X235 : Ext h180 h229 := ext_wr X227 W231 g199
            show Ends p e below _ T228 (mkF m 116 #[.val (.int p0), .val (.int p1), .val (.int p2), .val (.int p3), .val (.int p4), .val (.int p5)] [(.ref b192), (.ref a181), (.ref a181)])
            refine gSpecial (W := 1) (y := (⟨"java/lang/String", "<init>", "([C)V"⟩ : MethodName)) (a := a181) (argsL := [(.ref b192)]) (rest := [(.ref a181)]) rfl N230 hx hZ hown (hw _ (List.mem_of_getElem? (i := 14) rfl)) (hw _ (List.mem_of_getElem? (i := 15) rfl)) (hw _ (List.mem_of_getElem? (i := 16) rfl)) (by decide) (strNew (W := 1) (cs := [p1, p2, p3, p4]) hZ hw G N230.ext g188 (A185.ext X235) ((D186 (Or.inr (hw _ (List.mem_of_getElem? (i := 26) rfl))) (ty := .array .byte) (by decide)).ext X235) ((D186 (Or.inr (hw _ (List.mem_of_getElem? (i := 27) rfl))) (ty := .byte) (by decide)).ext X235) V233 (nle rfl) (nle rfl) (hp_cons k1 (hp_cons k2 (hp_cons k3 (hp_cons k4 hp_nil)))) (nle rfl) (nle rfl)) (hb hby d3_116) rfl (by rw [hml]; rfl) (lenOf (by decide +kernel : parseMethodDescriptor "([C)V" = some ⟨[(.array .char)], none⟩) rfl) (nle rfl) (nle rfl) (nle rfl) (fun _ _ _ q => q.2.2.2) ?_
            rintro _ T236 h237 L238 N239 ⟨rfl, K240, S241, -⟩
            have X242 : Ext h0 h237 := ext_keep X234 K240 g187
            show Ends p e below _ T236 (mkF m 119 #[.val (.int p0), .val (.int p1), .val (.int p2), .val (.int p3), .val (.int p4), .val (.int p5)] [(.ref a181)])
            have q9 : strCs p0 p1 p2 p3 p4 p5 = [p1, p2, p3, p4] := by simp only [strCs, if_neg l0, if_neg l1, if_neg l2, if_neg l3, if_pos l4]
            exact retAW N239 hZ (elw hw) (wd0.ext X242) hx hlk hret rfl rfl (hb hby d3_119) ⟨_, rfl, X242, by rw [q9]; exact S241⟩ (nle rfl) (nle rfl)
          · refine Ends.go (f' := (mkF m 120 #[.val (.int p0), .val (.int p1), .val (.int p2), .val (.int p3), .val (.int p4), .val (.int p5)] [])) (fun t k => XS.icmpYes N0.here hx rfl (pc0 := 89) (pc' := 120) rfl (hb hby d3_89) rfl (XT.ii_ne_t l4) (by decide) (by decide) k) ?_
            refine Ends.go (f' := (mkF m 121 #[.val (.int p0), .val (.int p1), .val (.int p2), .val (.int p3), .val (.int p4), .val (.int p5)] [(.int p0)])) (fun t k => XS.iloadN N0.here hx rfl (hb hby d3_120) rfl k) ?_
            refine Ends.go (f' := (mkF m 122 #[.val (.int p0), .val (.int p1), .val (.int p2), .val (.int p3), .val (.int p4), .val (.int p5)] [(.int (5 : Int32)), (.int p0)])) (fun t k => XS.iconst N0.here hx rfl (hb hby d3_121) k) ?_
            by_cases l5 : p0 = (5 : Int32)
            · refine Ends.go (f' := (mkF m 125 #[.val (.int p0), .val (.int p1), .val (.int p2), .val (.int p3), .val (.int p4), .val (.int p5)] [])) (fun t k => XS.icmpNo N0.here hx rfl (hb hby d3_122) rfl (XT.ii_ne_f l5) k) ?_
              refine gNew (a0 := a0) N0 hx hZ hown (hw _ (List.mem_of_getElem? (i := 10) rfl)) (hw _ (List.mem_of_getElem? (i := 11) rfl)) (hw _ (List.mem_of_getElem? (i := 12) rfl)) (hb hby d3_125) (nle rfl) (nle rfl) ?_
              intro T243 h244 a245 ea246 N247 E248 A249 D250
              have g251 : h0.size ≤ a245 := by rw [ea246]; exact (ext_refl h0).1
              have g252 : Z.heap.size ≤ a245 := by rw [ea246]; exact N0.le
              have X253 : Ext h0 h244 := ext_trans (ext_refl h0) E248
              show Ends p e below _ T243 (mkF m 128 #[.val (.int p0), .val (.int p1), .val (.int p2), .val (.int p3), .val (.int p4), .val (.int p5)] [(.ref a245)])
              refine Ends.go (f' := (mkF m 129 #[.val (.int p0), .val (.int p1), .val (.int p2), .val (.int p3), .val (.int p4), .val (.int p5)] [(.ref a245), (.ref a245)])) (fun t k => XS.dup N247.here hx rfl (hb hby d3_128) rfl rfl k) ?_
              refine Ends.go (f' := (mkF m 130 #[.val (.int p0), .val (.int p1), .val (.int p2), .val (.int p3), .val (.int p4), .val (.int p5)] [(.int (5 : Int32)), (.ref a245), (.ref a245)])) (fun t k => XS.iconst N247.here hx rfl (hb hby d3_129) k) ?_
              refine gArr 5 N247 hx hZ (hw _ (List.mem_of_getElem? (i := 13) rfl)) (hb hby d3_130) (by decide) (nle rfl) (nle rfl) (nle rfl) (nle rfl) ?_
              intro T254 h255 b256 kA257 eb258 N259 E260 V261
              have g262 : h0.size ≤ b256 := by rw [eb258]; exact X253.1
              have g263 : h244.size ≤ b256 := by rw [eb258]; exact (ext_refl h244).1
              have g264 : Z.heap.size ≤ b256 := by rw [eb258]; exact N247.le
              have X265 : Ext h0 h255 := ext_trans X253 E260
              have X266 : Ext h244 h255 := ext_trans (ext_refl h244) E260
              have V267 : Arv Z h255 b256 kA257 .char (5 : Int32) [(.int (0 : Int32)), (.int (0 : Int32)), (.int (0 : Int32)), (.int (0 : Int32)), (.int (0 : Int32))] (.int (0 : Int32)) := V261.pad (pad_rep [] (.int (0 : Int32)) 5)
              show Ends p e below _ T254 (mkF m 132 #[.val (.int p0), .val (.int p1), .val (.int p2), .val (.int p3), .val (.int p4), .val (.int p5)] [(.ref b256), (.ref a245), (.ref a245)])
              refine Ends.go (f' := (mkF m 133 #[.val (.int p0), .val (.int p1), .val (.int p2), .val (.int p3), .val (.int p4), .val (.int p5)] [(.ref b256), (.ref b256), (.ref a245), (.ref a245)])) (fun t k => XS.dup N259.here hx rfl (hb hby d3_132) rfl rfl k) ?_
              refine Ends.go (f' := (mkF m 134 #[.val (.int p0), .val (.int p1), .val (.int p2), .val (.int p3), .val (.int p4), .val (.int p5)] [(.int (0 : Int32)), (.ref b256), (.ref b256), (.ref a245), (.ref a245)])) (fun t k => XS.iconst N259.here hx rfl (hb hby d3_133) k) ?_
              refine Ends.go (f' := (mkF m 135 #[.val (.int p0), .val (.int p1), .val (.int p2), .val (.int p3), .val (.int p4), .val (.int p5)] [(.int p1), (.int (0 : Int32)), (.ref b256), (.ref b256), (.ref a245), (.ref a245)])) (fun t k => XS.iloadN N259.here hx rfl (hb hby d3_134) rfl k) ?_
              refine gStC 0 N259 hx hZ V267 g264 (by decide) rfl (nle rfl) (hb hby d3_135) ?_
              intro T268 h269 N270 W271 V272
              rw [n1] at V272
              have V273 : Arv Z h269 b256 kA257 .char (5 : Int32) [(.int p1), (.int (0 : Int32)), (.int (0 : Int32)), (.int (0 : Int32)), (.int (0 : Int32))] (.int (0 : Int32)) := V272
              have X274 : Ext h0 h269 := ext_wr X265 W271 g262
              have X275 : Ext h244 h269 := ext_wr X266 W271 g263
              show Ends p e below _ T268 (mkF m 136 #[.val (.int p0), .val (.int p1), .val (.int p2), .val (.int p3), .val (.int p4), .val (.int p5)] [(.ref b256), (.ref a245), (.ref a245)])
              refine Ends.go (f' := (mkF m 137 #[.val (.int p0), .val (.int p1), .val (.int p2), .val (.int p3), .val (.int p4), .val (.int p5)] [(.ref b256), (.ref b256), (.ref a245), (.ref a245)])) (fun t k => XS.dup N270.here hx rfl (hb hby d3_136) rfl rfl k) ?_
              refine Ends.go (f' := (mkF m 138 #[.val (.int p0), .val (.int p1), .val (.int p2), .val (.int p3), .val (.int p4), .val (.int p5)] [(.int (1 : Int32)), (.ref b256), (.ref b256), (.ref a245), (.ref a245)])) (fun t k => XS.iconst N270.here hx rfl (hb hby d3_137) k) ?_
              refine Ends.go (f' := (mkF m 139 #[.val (.int p0), .val (.int p1), .val (.int p2), .val (.int p3), .val (.int p4), .val (.int p5)] [(.int p2), (.int (1 : Int32)), (.ref b256), (.ref b256), (.ref a245), (.ref a245)])) (fun t k => XS.iloadN N270.here hx rfl (hb hby d3_138) rfl k) ?_
              refine gStC 1 N270 hx hZ V273 g264 (by decide) rfl (nle rfl) (hb hby d3_139) ?_
              intro T276 h277 N278 W279 V280
              rw [n2] at V280
              have V281 : Arv Z h277 b256 kA257 .char (5 : Int32) [(.int p1), (.int p2), (.int (0 : Int32)), (.int (0 : Int32)), (.int (0 : Int32))] (.int (0 : Int32)) := V280
              have X282 : Ext h0 h277 := ext_wr X274 W279 g262
              have X283 : Ext h244 h277 := ext_wr X275 W279 g263
              show Ends p e below _ T276 (mkF m 140 #[.val (.int p0), .val (.int p1), .val (.int p2), .val (.int p3), .val (.int p4), .val (.int p5)] [(.ref b256), (.ref a245), (.ref a245)])
              refine Ends.go (f' := (mkF m 141 #[.val (.int p0), .val (.int p1), .val (.int p2), .val (.int p3), .val (.int p4), .val (.int p5)] [(.ref b256), (.ref b256), (.ref a245), (.ref a245)])) (fun t k => XS.dup N278.here hx rfl (hb hby d3_140) rfl rfl k) ?_
              refine Ends.go (f' := (mkF m 142 #[.val (.int p0), .val (.int p1), .val (.int p2), .val (.int p3), .val (.int p4), .val (.int p5)] [(.int (2 : Int32)), (.ref b256), (.ref b256), (.ref a245), (.ref a245)])) (fun t k => XS.iconst N278.here hx rfl (hb hby d3_141) k) ?_
              refine Ends.go (f' := (mkF m 143 #[.val (.int p0), .val (.int p1), .val (.int p2), .val (.int p3), .val (.int p4), .val (.int p5)] [(.int p3), (.int (2 : Int32)), (.ref b256), (.ref b256), (.ref a245), (.ref a245)])) (fun t k => XS.iloadN N278.here hx rfl (hb hby d3_142) rfl k) ?_
              refine gStC 2 N278 hx hZ V281 g264 (by decide) rfl (nle rfl) (hb hby d3_143) ?_
              intro T284 h285 N286 W287 V288
              rw [n3] at V288
              have V289 : Arv Z h285 b256 kA257 .char (5 : Int32) [(.int p1), (.int p2), (.int p3), (.int (0 : Int32)), (.int (0 : Int32))] (.int (0 : Int32)) := V288
              have X290 : Ext h0 h285 := ext_wr X282 W287 g262
              have X291 : Ext h244 h285 := ext_wr X283 W287 g263
              show Ends p e below _ T284 (mkF m 144 #[.val (.int p0), .val (.int p1), .val (.int p2), .val (.int p3), .val (.int p4), .val (.int p5)] [(.ref b256), (.ref a245), (.ref a245)])
              refine Ends.go (f' := (mkF m 145 #[.val (.int p0), .val (.int p1), .val (.int p2), .val (.int p3), .val (.int p4), .val (.int p5)] [(.ref b256), (.ref b256), (.ref a245), (.ref a245)])) (fun t k => XS.dup N286.here hx rfl (hb hby d3_144) rfl rfl k) ?_
              refine Ends.go (f' := (mkF m 146 #[.val (.int p0), .val (.int p1), .val (.int p2), .val (.int p3), .val (.int p4), .val (.int p5)] [(.int (3 : Int32)), (.ref b256), (.ref b256), (.ref a245), (.ref a245)])) (fun t k => XS.iconst N286.here hx rfl (hb hby d3_145) k) ?_
              refine Ends.go (f' := (mkF m 148 #[.val (.int p0), .val (.int p1), .val (.int p2), .val (.int p3), .val (.int p4), .val (.int p5)] [(.int p5), (.int (3 : Int32)), (.ref b256), (.ref b256), (.ref a245), (.ref a245)])) (fun t k => XS.iload N286.here hx rfl (hb hby d3_146) rfl k) ?_
              refine gStC 3 N286 hx hZ V289 g264 (by decide) rfl (nle rfl) (hb hby d3_148) ?_
              intro T292 h293 N294 W295 V296
              rw [n5] at V296
              have V297 : Arv Z h293 b256 kA257 .char (5 : Int32) [(.int p1), (.int p2), (.int p3), (.int p5), (.int (0 : Int32))] (.int (0 : Int32)) := V296
              have X298 : Ext h0 h293 := ext_wr X290 W295 g262
              have X299 : Ext h244 h293 := ext_wr X291 W295 g263
              show Ends p e below _ T292 (mkF m 149 #[.val (.int p0), .val (.int p1), .val (.int p2), .val (.int p3), .val (.int p4), .val (.int p5)] [(.ref b256), (.ref a245), (.ref a245)])
              refine Ends.go (f' := (mkF m 150 #[.val (.int p0), .val (.int p1), .val (.int p2), .val (.int p3), .val (.int p4), .val (.int p5)] [(.ref b256), (.ref b256), (.ref a245), (.ref a245)])) (fun t k => XS.dup N294.here hx rfl (hb hby d3_149) rfl rfl k) ?_
              refine Ends.go (f' := (mkF m 151 #[.val (.int p0), .val (.int p1), .val (.int p2), .val (.int p3), .val (.int p4), .val (.int p5)] [(.int (4 : Int32)), (.ref b256), (.ref b256), (.ref a245), (.ref a245)])) (fun t k => XS.iconst N294.here hx rfl (hb hby d3_150) k) ?_
              refine Ends.go (f' := (mkF m 153 #[.val (.int p0), .val (.int p1), .val (.int p2), .val (.int p3), .val (.int p4), .val (.int p5)] [(.int p4), (.int (4 : Int32)), (.ref b256), (.ref b256), (.ref a245), (.ref a245)])) (fun t k => XS.iload N294.here hx rfl (hb hby d3_151) rfl k) ?_
              refine gStC 4 N294 hx hZ V297 g264 (by decide) rfl (nle rfl) (hb hby d3_153) ?_
              intro T300 h301 N302 W303 V304
              rw [n4] at V304
              have V305 : Arv Z h301 b256 kA257 .char (5 : Int32) [(.int p1), (.int p2), (.int p3), (.int p5), (.int p4)] (.int (0 : Int32)) := V304
              have X306 : Ext h0 h301 := ext_wr X298 W303 g262
              have X307 : Ext h244 h301 := ext_wr X299 W303 g263
              show Ends p e below _ T300 (mkF m 154 #[.val (.int p0), .val (.int p1), .val (.int p2), .val (.int p3), .val (.int p4), .val (.int p5)] [(.ref b256), (.ref a245), (.ref a245)])
              refine gSpecial (W := 1) (y := (⟨"java/lang/String", "<init>", "([C)V"⟩ : MethodName)) (a := a245) (argsL := [(.ref b256)]) (rest := [(.ref a245)]) rfl N302 hx hZ hown (hw _ (List.mem_of_getElem? (i := 14) rfl)) (hw _ (List.mem_of_getElem? (i := 15) rfl)) (hw _ (List.mem_of_getElem? (i := 16) rfl)) (by decide) (strNew (W := 1) (cs := [p1, p2, p3, p5, p4]) hZ hw G N302.ext g252 (A249.ext X307) ((D250 (Or.inr (hw _ (List.mem_of_getElem? (i := 26) rfl))) (ty := .array .byte) (by decide)).ext X307) ((D250 (Or.inr (hw _ (List.mem_of_getElem? (i := 27) rfl))) (ty := .byte) (by decide)).ext X307) V305 (nle rfl) (nle rfl) (hp_cons k1 (hp_cons k2 (hp_cons k3 (hp_cons k5 (hp_cons k4 hp_nil))))) (nle rfl) (nle rfl)) (hb hby d3_154) rfl (by rw [hml]; rfl) (lenOf (by decide +kernel : parseMethodDescriptor "([C)V" = some ⟨[(.array .char)], none⟩) rfl) (nle rfl) (nle rfl) (nle rfl) (fun _ _ _ q => q.2.2.2) ?_
              rintro _ T308 h309 L310 N311 ⟨rfl, K312, S313, -⟩
              have X314 : Ext h0 h309 := ext_keep X306 K312 g251
              show Ends p e below _ T308 (mkF m 157 #[.val (.int p0), .val (.int p1), .val (.int p2), .val (.int p3), .val (.int p4), .val (.int p5)] [(.ref a245)])
              have q9 : strCs p0 p1 p2 p3 p4 p5 = [p1, p2, p3, p5, p4] := by simp only [strCs, if_neg l0, if_neg l1, if_neg l2, if_neg l3, if_neg l4, if_pos l5]
              exact retAW N311 hZ (elw hw) (wd0.ext X314) hx hlk hret rfl rfl (hb hby d3_157) ⟨_, rfl, X314, by rw [q9]; exact S313⟩ (nle rfl) (nle rfl)
            · refine Ends.go (f' := (mkF m 158 #[.val (.int p0), .val (.int p1), .val (.int p2), .val (.int p3), .val (.int p4), .val (.int p5)] [])) (fun t k => XS.icmpYes N0.here hx rfl (pc0 := 122) (pc' := 158) rfl (hb hby d3_122) rfl (XT.ii_ne_t l5) (by decide) (by decide) k) ?_
              refine Ends.go (f' := (mkF m 159 #[.val (.int p0), .val (.int p1), .val (.int p2), .val (.int p3), .val (.int p4), .val (.int p5)] [(.int p0)])) (fun t k => XS.iloadN N0.here hx rfl (hb hby d3_158) rfl k) ?_
              refine Ends.go (f' := (mkF m 161 #[.val (.int p0), .val (.int p1), .val (.int p2), .val (.int p3), .val (.int p4), .val (.int p5)] [(.int (18 : Int32)), (.int p0)])) (fun t k => XS.bipush N0.here hx rfl (hb hby d3_159) k) ?_
              by_cases l6 : p0 = (18 : Int32)
              · refine Ends.go (f' := (mkF m 164 #[.val (.int p0), .val (.int p1), .val (.int p2), .val (.int p3), .val (.int p4), .val (.int p5)] [])) (fun t k => XS.icmpNo N0.here hx rfl (hb hby d3_161) rfl (XT.ii_ne_f l6) k) ?_
                refine gNew (a0 := a0) N0 hx hZ hown (hw _ (List.mem_of_getElem? (i := 10) rfl)) (hw _ (List.mem_of_getElem? (i := 11) rfl)) (hw _ (List.mem_of_getElem? (i := 12) rfl)) (hb hby d3_164) (nle rfl) (nle rfl) ?_
                intro T315 h316 a317 ea318 N319 E320 A321 D322
                have g323 : h0.size ≤ a317 := by rw [ea318]; exact (ext_refl h0).1
                have g324 : Z.heap.size ≤ a317 := by rw [ea318]; exact N0.le
                have X325 : Ext h0 h316 := ext_trans (ext_refl h0) E320
                show Ends p e below _ T315 (mkF m 167 #[.val (.int p0), .val (.int p1), .val (.int p2), .val (.int p3), .val (.int p4), .val (.int p5)] [(.ref a317)])
                refine Ends.go (f' := (mkF m 168 #[.val (.int p0), .val (.int p1), .val (.int p2), .val (.int p3), .val (.int p4), .val (.int p5)] [(.ref a317), (.ref a317)])) (fun t k => XS.dup N319.here hx rfl (hb hby d3_167) rfl rfl k) ?_
                refine Ends.go (f' := (mkF m 170 #[.val (.int p0), .val (.int p1), .val (.int p2), .val (.int p3), .val (.int p4), .val (.int p5)] [(.int (18 : Int32)), (.ref a317), (.ref a317)])) (fun t k => XS.bipush N319.here hx rfl (hb hby d3_168) k) ?_
                refine gArr 18 N319 hx hZ (hw _ (List.mem_of_getElem? (i := 13) rfl)) (hb hby d3_170) (by decide) (nle rfl) (nle rfl) (nle rfl) (nle rfl) ?_
                intro T326 h327 b328 kA329 eb330 N331 E332 V333
                have g334 : h0.size ≤ b328 := by rw [eb330]; exact X325.1
                have g335 : h316.size ≤ b328 := by rw [eb330]; exact (ext_refl h316).1
                have g336 : Z.heap.size ≤ b328 := by rw [eb330]; exact N319.le
                have X337 : Ext h0 h327 := ext_trans X325 E332
                have X338 : Ext h316 h327 := ext_trans (ext_refl h316) E332
                have V339 : Arv Z h327 b328 kA329 .char (18 : Int32) [(.int (0 : Int32)), (.int (0 : Int32)), (.int (0 : Int32)), (.int (0 : Int32)), (.int (0 : Int32)), (.int (0 : Int32)), (.int (0 : Int32)), (.int (0 : Int32)), (.int (0 : Int32)), (.int (0 : Int32)), (.int (0 : Int32)), (.int (0 : Int32)), (.int (0 : Int32)), (.int (0 : Int32)), (.int (0 : Int32)), (.int (0 : Int32)), (.int (0 : Int32)), (.int (0 : Int32))] (.int (0 : Int32)) := V333.pad (pad_rep [] (.int (0 : Int32)) 18)
                show Ends p e below _ T326 (mkF m 172 #[.val (.int p0), .val (.int p1), .val (.int p2), .val (.int p3), .val (.int p4), .val (.int p5)] [(.ref b328), (.ref a317), (.ref a317)])
                refine Ends.go (f' := (mkF m 173 #[.val (.int p0), .val (.int p1), .val (.int p2), .val (.int p3), .val (.int p4), .val (.int p5)] [(.ref b328), (.ref b328), (.ref a317), (.ref a317)])) (fun t k => XS.dup N331.here hx rfl (hb hby d3_172) rfl rfl k) ?_
                refine Ends.go (f' := (mkF m 174 #[.val (.int p0), .val (.int p1), .val (.int p2), .val (.int p3), .val (.int p4), .val (.int p5)] [(.int (0 : Int32)), (.ref b328), (.ref b328), (.ref a317), (.ref a317)])) (fun t k => XS.iconst N331.here hx rfl (hb hby d3_173) k) ?_
                refine Ends.go (f' := (mkF m 175 #[.val (.int p0), .val (.int p1), .val (.int p2), .val (.int p3), .val (.int p4), .val (.int p5)] [(.int p1), (.int (0 : Int32)), (.ref b328), (.ref b328), (.ref a317), (.ref a317)])) (fun t k => XS.iloadN N331.here hx rfl (hb hby d3_174) rfl k) ?_
                refine gStC 0 N331 hx hZ V339 g336 (by decide) rfl (nle rfl) (hb hby d3_175) ?_
                intro T340 h341 N342 W343 V344
                rw [n1] at V344
                have V345 : Arv Z h341 b328 kA329 .char (18 : Int32) [(.int p1), (.int (0 : Int32)), (.int (0 : Int32)), (.int (0 : Int32)), (.int (0 : Int32)), (.int (0 : Int32)), (.int (0 : Int32)), (.int (0 : Int32)), (.int (0 : Int32)), (.int (0 : Int32)), (.int (0 : Int32)), (.int (0 : Int32)), (.int (0 : Int32)), (.int (0 : Int32)), (.int (0 : Int32)), (.int (0 : Int32)), (.int (0 : Int32)), (.int (0 : Int32))] (.int (0 : Int32)) := V344
                have X346 : Ext h0 h341 := ext_wr X337 W343 g334
                have X347 : Ext h316 h341 := ext_wr X338 W343 g335
                show Ends p e below _ T340 (mkF m 176 #[.val (.int p0), .val (.int p1), .val (.int p2), .val (.int p3), .val (.int p4), .val (.int p5)] [(.ref b328), (.ref a317), (.ref a317)])
                refine Ends.go (f' := (mkF m 177 #[.val (.int p0), .val (.int p1), .val (.int p2), .val (.int p3), .val (.int p4), .val (.int p5)] [(.ref b328), (.ref b328), (.ref a317), (.ref a317)])) (fun t k => XS.dup N342.here hx rfl (hb hby d3_176) rfl rfl k) ?_
                refine Ends.go (f' := (mkF m 178 #[.val (.int p0), .val (.int p1), .val (.int p2), .val (.int p3), .val (.int p4), .val (.int p5)] [(.int (1 : Int32)), (.ref b328), (.ref b328), (.ref a317), (.ref a317)])) (fun t k => XS.iconst N342.here hx rfl (hb hby d3_177) k) ?_
                refine Ends.go (f' := (mkF m 179 #[.val (.int p0), .val (.int p1), .val (.int p2), .val (.int p3), .val (.int p4), .val (.int p5)] [(.int p2), (.int (1 : Int32)), (.ref b328), (.ref b328), (.ref a317), (.ref a317)])) (fun t k => XS.iloadN N342.here hx rfl (hb hby d3_178) rfl k) ?_
                refine gStC 1 N342 hx hZ V345 g336 (by decide) rfl (nle rfl) (hb hby d3_179) ?_
                intro T348 h349 N350 W351 V352
                rw [n2] at V352
                have V353 : Arv Z h349 b328 kA329 .char (18 : Int32) [(.int p1), (.int p2), (.int (0 : Int32)), (.int (0 : Int32)), (.int (0 : Int32)), (.int (0 : Int32)), (.int (0 : Int32)), (.int (0 : Int32)), (.int (0 : Int32)), (.int (0 : Int32)), (.int (0 : Int32)), (.int (0 : Int32)), (.int (0 : Int32)), (.int (0 : Int32)), (.int (0 : Int32)), (.int (0 : Int32)), (.int (0 : Int32)), (.int (0 : Int32))] (.int (0 : Int32)) := V352
                have X354 : Ext h0 h349 := ext_wr X346 W351 g334
                have X355 : Ext h316 h349 := ext_wr X347 W351 g335
                show Ends p e below _ T348 (mkF m 180 #[.val (.int p0), .val (.int p1), .val (.int p2), .val (.int p3), .val (.int p4), .val (.int p5)] [(.ref b328), (.ref a317), (.ref a317)])
                refine Ends.go (f' := (mkF m 181 #[.val (.int p0), .val (.int p1), .val (.int p2), .val (.int p3), .val (.int p4), .val (.int p5)] [(.ref b328), (.ref b328), (.ref a317), (.ref a317)])) (fun t k => XS.dup N350.here hx rfl (hb hby d3_180) rfl rfl k) ?_
                refine Ends.go (f' := (mkF m 182 #[.val (.int p0), .val (.int p1), .val (.int p2), .val (.int p3), .val (.int p4), .val (.int p5)] [(.int (2 : Int32)), (.ref b328), (.ref b328), (.ref a317), (.ref a317)])) (fun t k => XS.iconst N350.here hx rfl (hb hby d3_181) k) ?_
                refine Ends.go (f' := (mkF m 183 #[.val (.int p0), .val (.int p1), .val (.int p2), .val (.int p3), .val (.int p4), .val (.int p5)] [(.int p3), (.int (2 : Int32)), (.ref b328), (.ref b328), (.ref a317), (.ref a317)])) (fun t k => XS.iloadN N350.here hx rfl (hb hby d3_182) rfl k) ?_
                refine gStC 2 N350 hx hZ V353 g336 (by decide) rfl (nle rfl) (hb hby d3_183) ?_
                intro T356 h357 N358 W359 V360
                rw [n3] at V360
                have V361 : Arv Z h357 b328 kA329 .char (18 : Int32) [(.int p1), (.int p2), (.int p3), (.int (0 : Int32)), (.int (0 : Int32)), (.int (0 : Int32)), (.int (0 : Int32)), (.int (0 : Int32)), (.int (0 : Int32)), (.int (0 : Int32)), (.int (0 : Int32)), (.int (0 : Int32)), (.int (0 : Int32)), (.int (0 : Int32)), (.int (0 : Int32)), (.int (0 : Int32)), (.int (0 : Int32)), (.int (0 : Int32))] (.int (0 : Int32)) := V360
                have X362 : Ext h0 h357 := ext_wr X354 W359 g334
                have X363 : Ext h316 h357 := ext_wr X355 W359 g335
                show Ends p e below _ T356 (mkF m 184 #[.val (.int p0), .val (.int p1), .val (.int p2), .val (.int p3), .val (.int p4), .val (.int p5)] [(.ref b328), (.ref a317), (.ref a317)])
                refine Ends.go (f' := (mkF m 185 #[.val (.int p0), .val (.int p1), .val (.int p2), .val (.int p3), .val (.int p4), .val (.int p5)] [(.ref b328), (.ref b328), (.ref a317), (.ref a317)])) (fun t k => XS.dup N358.here hx rfl (hb hby d3_184) rfl rfl k) ?_
                refine Ends.go (f' := (mkF m 186 #[.val (.int p0), .val (.int p1), .val (.int p2), .val (.int p3), .val (.int p4), .val (.int p5)] [(.int (3 : Int32)), (.ref b328), (.ref b328), (.ref a317), (.ref a317)])) (fun t k => XS.iconst N358.here hx rfl (hb hby d3_185) k) ?_
                refine Ends.go (f' := (mkF m 188 #[.val (.int p0), .val (.int p1), .val (.int p2), .val (.int p3), .val (.int p4), .val (.int p5)] [(.int p5), (.int (3 : Int32)), (.ref b328), (.ref b328), (.ref a317), (.ref a317)])) (fun t k => XS.iload N358.here hx rfl (hb hby d3_186) rfl k) ?_
                refine gStC 3 N358 hx hZ V361 g336 (by decide) rfl (nle rfl) (hb hby d3_188) ?_
                intro T364 h365 N366 W367 V368
                rw [n5] at V368
                have V369 : Arv Z h365 b328 kA329 .char (18 : Int32) [(.int p1), (.int p2), (.int p3), (.int p5), (.int (0 : Int32)), (.int (0 : Int32)), (.int (0 : Int32)), (.int (0 : Int32)), (.int (0 : Int32)), (.int (0 : Int32)), (.int (0 : Int32)), (.int (0 : Int32)), (.int (0 : Int32)), (.int (0 : Int32)), (.int (0 : Int32)), (.int (0 : Int32)), (.int (0 : Int32)), (.int (0 : Int32))] (.int (0 : Int32)) := V368
                have X370 : Ext h0 h365 := ext_wr X362 W367 g334
                have X371 : Ext h316 h365 := ext_wr X363 W367 g335
                show Ends p e below _ T364 (mkF m 189 #[.val (.int p0), .val (.int p1), .val (.int p2), .val (.int p3), .val (.int p4), .val (.int p5)] [(.ref b328), (.ref a317), (.ref a317)])
                refine Ends.go (f' := (mkF m 190 #[.val (.int p0), .val (.int p1), .val (.int p2), .val (.int p3), .val (.int p4), .val (.int p5)] [(.ref b328), (.ref b328), (.ref a317), (.ref a317)])) (fun t k => XS.dup N366.here hx rfl (hb hby d3_189) rfl rfl k) ?_
                refine Ends.go (f' := (mkF m 191 #[.val (.int p0), .val (.int p1), .val (.int p2), .val (.int p3), .val (.int p4), .val (.int p5)] [(.int (4 : Int32)), (.ref b328), (.ref b328), (.ref a317), (.ref a317)])) (fun t k => XS.iconst N366.here hx rfl (hb hby d3_190) k) ?_
                refine Ends.go (f' := (mkF m 193 #[.val (.int p0), .val (.int p1), .val (.int p2), .val (.int p3), .val (.int p4), .val (.int p5)] [(.int p5), (.int (4 : Int32)), (.ref b328), (.ref b328), (.ref a317), (.ref a317)])) (fun t k => XS.iload N366.here hx rfl (hb hby d3_191) rfl k) ?_
                refine gStC 4 N366 hx hZ V369 g336 (by decide) rfl (nle rfl) (hb hby d3_193) ?_
                intro T372 h373 N374 W375 V376
                rw [n5] at V376
                have V377 : Arv Z h373 b328 kA329 .char (18 : Int32) [(.int p1), (.int p2), (.int p3), (.int p5), (.int p5), (.int (0 : Int32)), (.int (0 : Int32)), (.int (0 : Int32)), (.int (0 : Int32)), (.int (0 : Int32)), (.int (0 : Int32)), (.int (0 : Int32)), (.int (0 : Int32)), (.int (0 : Int32)), (.int (0 : Int32)), (.int (0 : Int32)), (.int (0 : Int32)), (.int (0 : Int32))] (.int (0 : Int32)) := V376
                have X378 : Ext h0 h373 := ext_wr X370 W375 g334
                have X379 : Ext h316 h373 := ext_wr X371 W375 g335
                show Ends p e below _ T372 (mkF m 194 #[.val (.int p0), .val (.int p1), .val (.int p2), .val (.int p3), .val (.int p4), .val (.int p5)] [(.ref b328), (.ref a317), (.ref a317)])
                refine Ends.go (f' := (mkF m 195 #[.val (.int p0), .val (.int p1), .val (.int p2), .val (.int p3), .val (.int p4), .val (.int p5)] [(.ref b328), (.ref b328), (.ref a317), (.ref a317)])) (fun t k => XS.dup N374.here hx rfl (hb hby d3_194) rfl rfl k) ?_
                refine Ends.go (f' := (mkF m 196 #[.val (.int p0), .val (.int p1), .val (.int p2), .val (.int p3), .val (.int p4), .val (.int p5)] [(.int (5 : Int32)), (.ref b328), (.ref b328), (.ref a317), (.ref a317)])) (fun t k => XS.iconst N374.here hx rfl (hb hby d3_195) k) ?_
                refine Ends.go (f' := (mkF m 198 #[.val (.int p0), .val (.int p1), .val (.int p2), .val (.int p3), .val (.int p4), .val (.int p5)] [(.int p5), (.int (5 : Int32)), (.ref b328), (.ref b328), (.ref a317), (.ref a317)])) (fun t k => XS.iload N374.here hx rfl (hb hby d3_196) rfl k) ?_
                refine gStC 5 N374 hx hZ V377 g336 (by decide) rfl (nle rfl) (hb hby d3_198) ?_
                intro T380 h381 N382 W383 V384
                rw [n5] at V384
                have V385 : Arv Z h381 b328 kA329 .char (18 : Int32) [(.int p1), (.int p2), (.int p3), (.int p5), (.int p5), (.int p5), (.int (0 : Int32)), (.int (0 : Int32)), (.int (0 : Int32)), (.int (0 : Int32)), (.int (0 : Int32)), (.int (0 : Int32)), (.int (0 : Int32)), (.int (0 : Int32)), (.int (0 : Int32)), (.int (0 : Int32)), (.int (0 : Int32)), (.int (0 : Int32))] (.int (0 : Int32)) := V384
                have X386 : Ext h0 h381 := ext_wr X378 W383 g334
                have X387 : Ext h316 h381 := ext_wr X379 W383 g335
                show Ends p e below _ T380 (mkF m 199 #[.val (.int p0), .val (.int p1), .val (.int p2), .val (.int p3), .val (.int p4), .val (.int p5)] [(.ref b328), (.ref a317), (.ref a317)])
                refine Ends.go (f' := (mkF m 200 #[.val (.int p0), .val (.int p1), .val (.int p2), .val (.int p3), .val (.int p4), .val (.int p5)] [(.ref b328), (.ref b328), (.ref a317), (.ref a317)])) (fun t k => XS.dup N382.here hx rfl (hb hby d3_199) rfl rfl k) ?_
                refine Ends.go (f' := (mkF m 202 #[.val (.int p0), .val (.int p1), .val (.int p2), .val (.int p3), .val (.int p4), .val (.int p5)] [(.int (6 : Int32)), (.ref b328), (.ref b328), (.ref a317), (.ref a317)])) (fun t k => XS.bipush N382.here hx rfl (hb hby d3_200) k) ?_
                refine Ends.go (f' := (mkF m 204 #[.val (.int p0), .val (.int p1), .val (.int p2), .val (.int p3), .val (.int p4), .val (.int p5)] [(.int p5), (.int (6 : Int32)), (.ref b328), (.ref b328), (.ref a317), (.ref a317)])) (fun t k => XS.iload N382.here hx rfl (hb hby d3_202) rfl k) ?_
                refine gStC 6 N382 hx hZ V385 g336 (by decide) rfl (nle rfl) (hb hby d3_204) ?_
                intro T388 h389 N390 W391 V392
                rw [n5] at V392
                have V393 : Arv Z h389 b328 kA329 .char (18 : Int32) [(.int p1), (.int p2), (.int p3), (.int p5), (.int p5), (.int p5), (.int p5), (.int (0 : Int32)), (.int (0 : Int32)), (.int (0 : Int32)), (.int (0 : Int32)), (.int (0 : Int32)), (.int (0 : Int32)), (.int (0 : Int32)), (.int (0 : Int32)), (.int (0 : Int32)), (.int (0 : Int32)), (.int (0 : Int32))] (.int (0 : Int32)) := V392
                have X394 : Ext h0 h389 := ext_wr X386 W391 g334
                have X395 : Ext h316 h389 := ext_wr X387 W391 g335
                show Ends p e below _ T388 (mkF m 205 #[.val (.int p0), .val (.int p1), .val (.int p2), .val (.int p3), .val (.int p4), .val (.int p5)] [(.ref b328), (.ref a317), (.ref a317)])
                refine Ends.go (f' := (mkF m 206 #[.val (.int p0), .val (.int p1), .val (.int p2), .val (.int p3), .val (.int p4), .val (.int p5)] [(.ref b328), (.ref b328), (.ref a317), (.ref a317)])) (fun t k => XS.dup N390.here hx rfl (hb hby d3_205) rfl rfl k) ?_
                refine Ends.go (f' := (mkF m 208 #[.val (.int p0), .val (.int p1), .val (.int p2), .val (.int p3), .val (.int p4), .val (.int p5)] [(.int (7 : Int32)), (.ref b328), (.ref b328), (.ref a317), (.ref a317)])) (fun t k => XS.bipush N390.here hx rfl (hb hby d3_206) k) ?_
                refine Ends.go (f' := (mkF m 210 #[.val (.int p0), .val (.int p1), .val (.int p2), .val (.int p3), .val (.int p4), .val (.int p5)] [(.int p5), (.int (7 : Int32)), (.ref b328), (.ref b328), (.ref a317), (.ref a317)])) (fun t k => XS.iload N390.here hx rfl (hb hby d3_208) rfl k) ?_
                refine gStC 7 N390 hx hZ V393 g336 (by decide) rfl (nle rfl) (hb hby d3_210) ?_
                intro T396 h397 N398 W399 V400
                rw [n5] at V400
                have V401 : Arv Z h397 b328 kA329 .char (18 : Int32) [(.int p1), (.int p2), (.int p3), (.int p5), (.int p5), (.int p5), (.int p5), (.int p5), (.int (0 : Int32)), (.int (0 : Int32)), (.int (0 : Int32)), (.int (0 : Int32)), (.int (0 : Int32)), (.int (0 : Int32)), (.int (0 : Int32)), (.int (0 : Int32)), (.int (0 : Int32)), (.int (0 : Int32))] (.int (0 : Int32)) := V400
                have X402 : Ext h0 h397 := ext_wr X394 W399 g334
                have X403 : Ext h316 h397 := ext_wr X395 W399 g335
                show Ends p e below _ T396 (mkF m 211 #[.val (.int p0), .val (.int p1), .val (.int p2), .val (.int p3), .val (.int p4), .val (.int p5)] [(.ref b328), (.ref a317), (.ref a317)])
                refine Ends.go (f' := (mkF m 212 #[.val (.int p0), .val (.int p1), .val (.int p2), .val (.int p3), .val (.int p4), .val (.int p5)] [(.ref b328), (.ref b328), (.ref a317), (.ref a317)])) (fun t k => XS.dup N398.here hx rfl (hb hby d3_211) rfl rfl k) ?_
                refine Ends.go (f' := (mkF m 214 #[.val (.int p0), .val (.int p1), .val (.int p2), .val (.int p3), .val (.int p4), .val (.int p5)] [(.int (8 : Int32)), (.ref b328), (.ref b328), (.ref a317), (.ref a317)])) (fun t k => XS.bipush N398.here hx rfl (hb hby d3_212) k) ?_
                refine Ends.go (f' := (mkF m 216 #[.val (.int p0), .val (.int p1), .val (.int p2), .val (.int p3), .val (.int p4), .val (.int p5)] [(.int p5), (.int (8 : Int32)), (.ref b328), (.ref b328), (.ref a317), (.ref a317)])) (fun t k => XS.iload N398.here hx rfl (hb hby d3_214) rfl k) ?_
                refine gStC 8 N398 hx hZ V401 g336 (by decide) rfl (nle rfl) (hb hby d3_216) ?_
                intro T404 h405 N406 W407 V408
                rw [n5] at V408
                have V409 : Arv Z h405 b328 kA329 .char (18 : Int32) [(.int p1), (.int p2), (.int p3), (.int p5), (.int p5), (.int p5), (.int p5), (.int p5), (.int p5), (.int (0 : Int32)), (.int (0 : Int32)), (.int (0 : Int32)), (.int (0 : Int32)), (.int (0 : Int32)), (.int (0 : Int32)), (.int (0 : Int32)), (.int (0 : Int32)), (.int (0 : Int32))] (.int (0 : Int32)) := V408
                have X410 : Ext h0 h405 := ext_wr X402 W407 g334
                have X411 : Ext h316 h405 := ext_wr X403 W407 g335
                show Ends p e below _ T404 (mkF m 217 #[.val (.int p0), .val (.int p1), .val (.int p2), .val (.int p3), .val (.int p4), .val (.int p5)] [(.ref b328), (.ref a317), (.ref a317)])
                refine Ends.go (f' := (mkF m 218 #[.val (.int p0), .val (.int p1), .val (.int p2), .val (.int p3), .val (.int p4), .val (.int p5)] [(.ref b328), (.ref b328), (.ref a317), (.ref a317)])) (fun t k => XS.dup N406.here hx rfl (hb hby d3_217) rfl rfl k) ?_
                refine Ends.go (f' := (mkF m 220 #[.val (.int p0), .val (.int p1), .val (.int p2), .val (.int p3), .val (.int p4), .val (.int p5)] [(.int (9 : Int32)), (.ref b328), (.ref b328), (.ref a317), (.ref a317)])) (fun t k => XS.bipush N406.here hx rfl (hb hby d3_218) k) ?_
                refine Ends.go (f' := (mkF m 222 #[.val (.int p0), .val (.int p1), .val (.int p2), .val (.int p3), .val (.int p4), .val (.int p5)] [(.int p5), (.int (9 : Int32)), (.ref b328), (.ref b328), (.ref a317), (.ref a317)])) (fun t k => XS.iload N406.here hx rfl (hb hby d3_220) rfl k) ?_
                refine gStC 9 N406 hx hZ V409 g336 (by decide) rfl (nle rfl) (hb hby d3_222) ?_
                intro T412 h413 N414 W415 V416
                rw [n5] at V416
                have V417 : Arv Z h413 b328 kA329 .char (18 : Int32) [(.int p1), (.int p2), (.int p3), (.int p5), (.int p5), (.int p5), (.int p5), (.int p5), (.int p5), (.int p5), (.int (0 : Int32)), (.int (0 : Int32)), (.int (0 : Int32)), (.int (0 : Int32)), (.int (0 : Int32)), (.int (0 : Int32)), (.int (0 : Int32)), (.int (0 : Int32))] (.int (0 : Int32)) := V416
                have X418 : Ext h0 h413 := ext_wr X410 W415 g334
                have X419 : Ext h316 h413 := ext_wr X411 W415 g335
                show Ends p e below _ T412 (mkF m 223 #[.val (.int p0), .val (.int p1), .val (.int p2), .val (.int p3), .val (.int p4), .val (.int p5)] [(.ref b328), (.ref a317), (.ref a317)])
                refine Ends.go (f' := (mkF m 224 #[.val (.int p0), .val (.int p1), .val (.int p2), .val (.int p3), .val (.int p4), .val (.int p5)] [(.ref b328), (.ref b328), (.ref a317), (.ref a317)])) (fun t k => XS.dup N414.here hx rfl (hb hby d3_223) rfl rfl k) ?_
                refine Ends.go (f' := (mkF m 226 #[.val (.int p0), .val (.int p1), .val (.int p2), .val (.int p3), .val (.int p4), .val (.int p5)] [(.int (10 : Int32)), (.ref b328), (.ref b328), (.ref a317), (.ref a317)])) (fun t k => XS.bipush N414.here hx rfl (hb hby d3_224) k) ?_
                refine Ends.go (f' := (mkF m 228 #[.val (.int p0), .val (.int p1), .val (.int p2), .val (.int p3), .val (.int p4), .val (.int p5)] [(.int p5), (.int (10 : Int32)), (.ref b328), (.ref b328), (.ref a317), (.ref a317)])) (fun t k => XS.iload N414.here hx rfl (hb hby d3_226) rfl k) ?_
                refine gStC 10 N414 hx hZ V417 g336 (by decide) rfl (nle rfl) (hb hby d3_228) ?_
                intro T420 h421 N422 W423 V424
                rw [n5] at V424
                have V425 : Arv Z h421 b328 kA329 .char (18 : Int32) [(.int p1), (.int p2), (.int p3), (.int p5), (.int p5), (.int p5), (.int p5), (.int p5), (.int p5), (.int p5), (.int p5), (.int (0 : Int32)), (.int (0 : Int32)), (.int (0 : Int32)), (.int (0 : Int32)), (.int (0 : Int32)), (.int (0 : Int32)), (.int (0 : Int32))] (.int (0 : Int32)) := V424
                have X426 : Ext h0 h421 := ext_wr X418 W423 g334
                have X427 : Ext h316 h421 := ext_wr X419 W423 g335
                show Ends p e below _ T420 (mkF m 229 #[.val (.int p0), .val (.int p1), .val (.int p2), .val (.int p3), .val (.int p4), .val (.int p5)] [(.ref b328), (.ref a317), (.ref a317)])
                refine Ends.go (f' := (mkF m 230 #[.val (.int p0), .val (.int p1), .val (.int p2), .val (.int p3), .val (.int p4), .val (.int p5)] [(.ref b328), (.ref b328), (.ref a317), (.ref a317)])) (fun t k => XS.dup N422.here hx rfl (hb hby d3_229) rfl rfl k) ?_
                refine Ends.go (f' := (mkF m 232 #[.val (.int p0), .val (.int p1), .val (.int p2), .val (.int p3), .val (.int p4), .val (.int p5)] [(.int (11 : Int32)), (.ref b328), (.ref b328), (.ref a317), (.ref a317)])) (fun t k => XS.bipush N422.here hx rfl (hb hby d3_230) k) ?_
                refine Ends.go (f' := (mkF m 234 #[.val (.int p0), .val (.int p1), .val (.int p2), .val (.int p3), .val (.int p4), .val (.int p5)] [(.int p5), (.int (11 : Int32)), (.ref b328), (.ref b328), (.ref a317), (.ref a317)])) (fun t k => XS.iload N422.here hx rfl (hb hby d3_232) rfl k) ?_
                refine gStC 11 N422 hx hZ V425 g336 (by decide) rfl (nle rfl) (hb hby d3_234) ?_
                intro T428 h429 N430 W431 V432
                rw [n5] at V432
                have V433 : Arv Z h429 b328 kA329 .char (18 : Int32) [(.int p1), (.int p2), (.int p3), (.int p5), (.int p5), (.int p5), (.int p5), (.int p5), (.int p5), (.int p5), (.int p5), (.int p5), (.int (0 : Int32)), (.int (0 : Int32)), (.int (0 : Int32)), (.int (0 : Int32)), (.int (0 : Int32)), (.int (0 : Int32))] (.int (0 : Int32)) := V432
                have X434 : Ext h0 h429 := ext_wr X426 W431 g334
                have X435 : Ext h316 h429 := ext_wr X427 W431 g335
                show Ends p e below _ T428 (mkF m 235 #[.val (.int p0), .val (.int p1), .val (.int p2), .val (.int p3), .val (.int p4), .val (.int p5)] [(.ref b328), (.ref a317), (.ref a317)])
                refine Ends.go (f' := (mkF m 236 #[.val (.int p0), .val (.int p1), .val (.int p2), .val (.int p3), .val (.int p4), .val (.int p5)] [(.ref b328), (.ref b328), (.ref a317), (.ref a317)])) (fun t k => XS.dup N430.here hx rfl (hb hby d3_235) rfl rfl k) ?_
                refine Ends.go (f' := (mkF m 238 #[.val (.int p0), .val (.int p1), .val (.int p2), .val (.int p3), .val (.int p4), .val (.int p5)] [(.int (12 : Int32)), (.ref b328), (.ref b328), (.ref a317), (.ref a317)])) (fun t k => XS.bipush N430.here hx rfl (hb hby d3_236) k) ?_
                refine Ends.go (f' := (mkF m 240 #[.val (.int p0), .val (.int p1), .val (.int p2), .val (.int p3), .val (.int p4), .val (.int p5)] [(.int p5), (.int (12 : Int32)), (.ref b328), (.ref b328), (.ref a317), (.ref a317)])) (fun t k => XS.iload N430.here hx rfl (hb hby d3_238) rfl k) ?_
                refine gStC 12 N430 hx hZ V433 g336 (by decide) rfl (nle rfl) (hb hby d3_240) ?_
                intro T436 h437 N438 W439 V440
                rw [n5] at V440
                have V441 : Arv Z h437 b328 kA329 .char (18 : Int32) [(.int p1), (.int p2), (.int p3), (.int p5), (.int p5), (.int p5), (.int p5), (.int p5), (.int p5), (.int p5), (.int p5), (.int p5), (.int p5), (.int (0 : Int32)), (.int (0 : Int32)), (.int (0 : Int32)), (.int (0 : Int32)), (.int (0 : Int32))] (.int (0 : Int32)) := V440
                have X442 : Ext h0 h437 := ext_wr X434 W439 g334
                have X443 : Ext h316 h437 := ext_wr X435 W439 g335
                show Ends p e below _ T436 (mkF m 241 #[.val (.int p0), .val (.int p1), .val (.int p2), .val (.int p3), .val (.int p4), .val (.int p5)] [(.ref b328), (.ref a317), (.ref a317)])
                refine Ends.go (f' := (mkF m 242 #[.val (.int p0), .val (.int p1), .val (.int p2), .val (.int p3), .val (.int p4), .val (.int p5)] [(.ref b328), (.ref b328), (.ref a317), (.ref a317)])) (fun t k => XS.dup N438.here hx rfl (hb hby d3_241) rfl rfl k) ?_
                refine Ends.go (f' := (mkF m 244 #[.val (.int p0), .val (.int p1), .val (.int p2), .val (.int p3), .val (.int p4), .val (.int p5)] [(.int (13 : Int32)), (.ref b328), (.ref b328), (.ref a317), (.ref a317)])) (fun t k => XS.bipush N438.here hx rfl (hb hby d3_242) k) ?_
                refine Ends.go (f' := (mkF m 246 #[.val (.int p0), .val (.int p1), .val (.int p2), .val (.int p3), .val (.int p4), .val (.int p5)] [(.int p5), (.int (13 : Int32)), (.ref b328), (.ref b328), (.ref a317), (.ref a317)])) (fun t k => XS.iload N438.here hx rfl (hb hby d3_244) rfl k) ?_
                refine gStC 13 N438 hx hZ V441 g336 (by decide) rfl (nle rfl) (hb hby d3_246) ?_
                intro T444 h445 N446 W447 V448
                rw [n5] at V448
                have V449 : Arv Z h445 b328 kA329 .char (18 : Int32) [(.int p1), (.int p2), (.int p3), (.int p5), (.int p5), (.int p5), (.int p5), (.int p5), (.int p5), (.int p5), (.int p5), (.int p5), (.int p5), (.int p5), (.int (0 : Int32)), (.int (0 : Int32)), (.int (0 : Int32)), (.int (0 : Int32))] (.int (0 : Int32)) := V448
                have X450 : Ext h0 h445 := ext_wr X442 W447 g334
                have X451 : Ext h316 h445 := ext_wr X443 W447 g335
                show Ends p e below _ T444 (mkF m 247 #[.val (.int p0), .val (.int p1), .val (.int p2), .val (.int p3), .val (.int p4), .val (.int p5)] [(.ref b328), (.ref a317), (.ref a317)])
                refine Ends.go (f' := (mkF m 248 #[.val (.int p0), .val (.int p1), .val (.int p2), .val (.int p3), .val (.int p4), .val (.int p5)] [(.ref b328), (.ref b328), (.ref a317), (.ref a317)])) (fun t k => XS.dup N446.here hx rfl (hb hby d3_247) rfl rfl k) ?_
                refine Ends.go (f' := (mkF m 250 #[.val (.int p0), .val (.int p1), .val (.int p2), .val (.int p3), .val (.int p4), .val (.int p5)] [(.int (14 : Int32)), (.ref b328), (.ref b328), (.ref a317), (.ref a317)])) (fun t k => XS.bipush N446.here hx rfl (hb hby d3_248) k) ?_
                refine Ends.go (f' := (mkF m 252 #[.val (.int p0), .val (.int p1), .val (.int p2), .val (.int p3), .val (.int p4), .val (.int p5)] [(.int p5), (.int (14 : Int32)), (.ref b328), (.ref b328), (.ref a317), (.ref a317)])) (fun t k => XS.iload N446.here hx rfl (hb hby d3_250) rfl k) ?_
                refine gStC 14 N446 hx hZ V449 g336 (by decide) rfl (nle rfl) (hb hby d3_252) ?_
                intro T452 h453 N454 W455 V456
                rw [n5] at V456
                have V457 : Arv Z h453 b328 kA329 .char (18 : Int32) [(.int p1), (.int p2), (.int p3), (.int p5), (.int p5), (.int p5), (.int p5), (.int p5), (.int p5), (.int p5), (.int p5), (.int p5), (.int p5), (.int p5), (.int p5), (.int (0 : Int32)), (.int (0 : Int32)), (.int (0 : Int32))] (.int (0 : Int32)) := V456
                have X458 : Ext h0 h453 := ext_wr X450 W455 g334
                have X459 : Ext h316 h453 := ext_wr X451 W455 g335
                show Ends p e below _ T452 (mkF m 253 #[.val (.int p0), .val (.int p1), .val (.int p2), .val (.int p3), .val (.int p4), .val (.int p5)] [(.ref b328), (.ref a317), (.ref a317)])
                refine Ends.go (f' := (mkF m 254 #[.val (.int p0), .val (.int p1), .val (.int p2), .val (.int p3), .val (.int p4), .val (.int p5)] [(.ref b328), (.ref b328), (.ref a317), (.ref a317)])) (fun t k => XS.dup N454.here hx rfl (hb hby d3_253) rfl rfl k) ?_
                refine Ends.go (f' := (mkF m 256 #[.val (.int p0), .val (.int p1), .val (.int p2), .val (.int p3), .val (.int p4), .val (.int p5)] [(.int (15 : Int32)), (.ref b328), (.ref b328), (.ref a317), (.ref a317)])) (fun t k => XS.bipush N454.here hx rfl (hb hby d3_254) k) ?_
                refine Ends.go (f' := (mkF m 258 #[.val (.int p0), .val (.int p1), .val (.int p2), .val (.int p3), .val (.int p4), .val (.int p5)] [(.int p5), (.int (15 : Int32)), (.ref b328), (.ref b328), (.ref a317), (.ref a317)])) (fun t k => XS.iload N454.here hx rfl (hb hby d3_256) rfl k) ?_
                refine gStC 15 N454 hx hZ V457 g336 (by decide) rfl (nle rfl) (hb hby d3_258) ?_
                intro T460 h461 N462 W463 V464
                rw [n5] at V464
                have V465 : Arv Z h461 b328 kA329 .char (18 : Int32) [(.int p1), (.int p2), (.int p3), (.int p5), (.int p5), (.int p5), (.int p5), (.int p5), (.int p5), (.int p5), (.int p5), (.int p5), (.int p5), (.int p5), (.int p5), (.int p5), (.int (0 : Int32)), (.int (0 : Int32))] (.int (0 : Int32)) := V464
                have X466 : Ext h0 h461 := ext_wr X458 W463 g334
                have X467 : Ext h316 h461 := ext_wr X459 W463 g335
                show Ends p e below _ T460 (mkF m 259 #[.val (.int p0), .val (.int p1), .val (.int p2), .val (.int p3), .val (.int p4), .val (.int p5)] [(.ref b328), (.ref a317), (.ref a317)])
                refine Ends.go (f' := (mkF m 260 #[.val (.int p0), .val (.int p1), .val (.int p2), .val (.int p3), .val (.int p4), .val (.int p5)] [(.ref b328), (.ref b328), (.ref a317), (.ref a317)])) (fun t k => XS.dup N462.here hx rfl (hb hby d3_259) rfl rfl k) ?_
                refine Ends.go (f' := (mkF m 262 #[.val (.int p0), .val (.int p1), .val (.int p2), .val (.int p3), .val (.int p4), .val (.int p5)] [(.int (16 : Int32)), (.ref b328), (.ref b328), (.ref a317), (.ref a317)])) (fun t k => XS.bipush N462.here hx rfl (hb hby d3_260) k) ?_
                refine Ends.go (f' := (mkF m 264 #[.val (.int p0), .val (.int p1), .val (.int p2), .val (.int p3), .val (.int p4), .val (.int p5)] [(.int p5), (.int (16 : Int32)), (.ref b328), (.ref b328), (.ref a317), (.ref a317)])) (fun t k => XS.iload N462.here hx rfl (hb hby d3_262) rfl k) ?_
                refine gStC 16 N462 hx hZ V465 g336 (by decide) rfl (nle rfl) (hb hby d3_264) ?_
                intro T468 h469 N470 W471 V472
                rw [n5] at V472
                have V473 : Arv Z h469 b328 kA329 .char (18 : Int32) [(.int p1), (.int p2), (.int p3), (.int p5), (.int p5), (.int p5), (.int p5), (.int p5), (.int p5), (.int p5), (.int p5), (.int p5), (.int p5), (.int p5), (.int p5), (.int p5), (.int p5), (.int (0 : Int32))] (.int (0 : Int32)) := V472
                have X474 : Ext h0 h469 := ext_wr X466 W471 g334
                have X475 : Ext h316 h469 := ext_wr X467 W471 g335
                show Ends p e below _ T468 (mkF m 265 #[.val (.int p0), .val (.int p1), .val (.int p2), .val (.int p3), .val (.int p4), .val (.int p5)] [(.ref b328), (.ref a317), (.ref a317)])
                refine Ends.go (f' := (mkF m 266 #[.val (.int p0), .val (.int p1), .val (.int p2), .val (.int p3), .val (.int p4), .val (.int p5)] [(.ref b328), (.ref b328), (.ref a317), (.ref a317)])) (fun t k => XS.dup N470.here hx rfl (hb hby d3_265) rfl rfl k) ?_
                refine Ends.go (f' := (mkF m 268 #[.val (.int p0), .val (.int p1), .val (.int p2), .val (.int p3), .val (.int p4), .val (.int p5)] [(.int (17 : Int32)), (.ref b328), (.ref b328), (.ref a317), (.ref a317)])) (fun t k => XS.bipush N470.here hx rfl (hb hby d3_266) k) ?_
                refine Ends.go (f' := (mkF m 270 #[.val (.int p0), .val (.int p1), .val (.int p2), .val (.int p3), .val (.int p4), .val (.int p5)] [(.int p4), (.int (17 : Int32)), (.ref b328), (.ref b328), (.ref a317), (.ref a317)])) (fun t k => XS.iload N470.here hx rfl (hb hby d3_268) rfl k) ?_
                refine gStC 17 N470 hx hZ V473 g336 (by decide) rfl (nle rfl) (hb hby d3_270) ?_
                intro T476 h477 N478 W479 V480
                rw [n4] at V480
                have V481 : Arv Z h477 b328 kA329 .char (18 : Int32) [(.int p1), (.int p2), (.int p3), (.int p5), (.int p5), (.int p5), (.int p5), (.int p5), (.int p5), (.int p5), (.int p5), (.int p5), (.int p5), (.int p5), (.int p5), (.int p5), (.int p5), (.int p4)] (.int (0 : Int32)) := V480
                have X482 : Ext h0 h477 := ext_wr X474 W479 g334
                have X483 : Ext h316 h477 := ext_wr X475 W479 g335
                show Ends p e below _ T476 (mkF m 271 #[.val (.int p0), .val (.int p1), .val (.int p2), .val (.int p3), .val (.int p4), .val (.int p5)] [(.ref b328), (.ref a317), (.ref a317)])
                refine gSpecial (W := 1) (y := (⟨"java/lang/String", "<init>", "([C)V"⟩ : MethodName)) (a := a317) (argsL := [(.ref b328)]) (rest := [(.ref a317)]) rfl N478 hx hZ hown (hw _ (List.mem_of_getElem? (i := 14) rfl)) (hw _ (List.mem_of_getElem? (i := 15) rfl)) (hw _ (List.mem_of_getElem? (i := 16) rfl)) (by decide) (strNew (W := 1) (cs := [p1, p2, p3, p5, p5, p5, p5, p5, p5, p5, p5, p5, p5, p5, p5, p5, p5, p4]) hZ hw G N478.ext g324 (A321.ext X483) ((D322 (Or.inr (hw _ (List.mem_of_getElem? (i := 26) rfl))) (ty := .array .byte) (by decide)).ext X483) ((D322 (Or.inr (hw _ (List.mem_of_getElem? (i := 27) rfl))) (ty := .byte) (by decide)).ext X483) V481 (nle rfl) (nle rfl) (hp_cons k1 (hp_cons k2 (hp_cons k3 (hp_cons k5 (hp_cons k5 (hp_cons k5 (hp_cons k5 (hp_cons k5 (hp_cons k5 (hp_cons k5 (hp_cons k5 (hp_cons k5 (hp_cons k5 (hp_cons k5 (hp_cons k5 (hp_cons k5 (hp_cons k5 (hp_cons k4 hp_nil)))))))))))))))))) (nle rfl) (nle rfl)) (hb hby d3_271) rfl (by rw [hml]; rfl) (lenOf (by decide +kernel : parseMethodDescriptor "([C)V" = some ⟨[(.array .char)], none⟩) rfl) (nle rfl) (nle rfl) (nle rfl) (fun _ _ _ q => q.2.2.2) ?_
                rintro _ T484 h485 L486 N487 ⟨rfl, K488, S489, -⟩
                have X490 : Ext h0 h485 := ext_keep X482 K488 g323
                show Ends p e below _ T484 (mkF m 274 #[.val (.int p0), .val (.int p1), .val (.int p2), .val (.int p3), .val (.int p4), .val (.int p5)] [(.ref a317)])
                have q9 : strCs p0 p1 p2 p3 p4 p5 = [p1, p2, p3, p5, p5, p5, p5, p5, p5, p5, p5, p5, p5, p5, p5, p5, p5, p4] := by simp only [strCs, if_neg l0, if_neg l1, if_neg l2, if_neg l3, if_neg l4, if_neg l5, if_pos l6]
                exact retAW N487 hZ (elw hw) (wd0.ext X490) hx hlk hret rfl rfl (hb hby d3_274) ⟨_, rfl, X490, by rw [q9]; exact S489⟩ (nle rfl) (nle rfl)
              · refine Ends.go (f' := (mkF m 275 #[.val (.int p0), .val (.int p1), .val (.int p2), .val (.int p3), .val (.int p4), .val (.int p5)] [])) (fun t k => XS.icmpYes N0.here hx rfl (pc0 := 161) (pc' := 275) rfl (hb hby d3_161) rfl (XT.ii_ne_t l6) (by decide) (by decide) k) ?_
                refine gNew (a0 := a0) N0 hx hZ hown (hw _ (List.mem_of_getElem? (i := 10) rfl)) (hw _ (List.mem_of_getElem? (i := 11) rfl)) (hw _ (List.mem_of_getElem? (i := 12) rfl)) (hb hby d3_275) (nle rfl) (nle rfl) ?_
                intro T491 h492 a493 ea494 N495 E496 A497 D498
                have g499 : h0.size ≤ a493 := by rw [ea494]; exact (ext_refl h0).1
                have g500 : Z.heap.size ≤ a493 := by rw [ea494]; exact N0.le
                have X501 : Ext h0 h492 := ext_trans (ext_refl h0) E496
                show Ends p e below _ T491 (mkF m 278 #[.val (.int p0), .val (.int p1), .val (.int p2), .val (.int p3), .val (.int p4), .val (.int p5)] [(.ref a493)])
                refine Ends.go (f' := (mkF m 279 #[.val (.int p0), .val (.int p1), .val (.int p2), .val (.int p3), .val (.int p4), .val (.int p5)] [(.ref a493), (.ref a493)])) (fun t k => XS.dup N495.here hx rfl (hb hby d3_278) rfl rfl k) ?_
                refine Ends.go (f' := (mkF m 281 #[.val (.int p0), .val (.int p1), .val (.int p2), .val (.int p3), .val (.int p4), .val (.int p5)] [(.int (19 : Int32)), (.ref a493), (.ref a493)])) (fun t k => XS.bipush N495.here hx rfl (hb hby d3_279) k) ?_
                refine gArr 19 N495 hx hZ (hw _ (List.mem_of_getElem? (i := 13) rfl)) (hb hby d3_281) (by decide) (nle rfl) (nle rfl) (nle rfl) (nle rfl) ?_
                intro T502 h503 b504 kA505 eb506 N507 E508 V509
                have g510 : h0.size ≤ b504 := by rw [eb506]; exact X501.1
                have g511 : h492.size ≤ b504 := by rw [eb506]; exact (ext_refl h492).1
                have g512 : Z.heap.size ≤ b504 := by rw [eb506]; exact N495.le
                have X513 : Ext h0 h503 := ext_trans X501 E508
                have X514 : Ext h492 h503 := ext_trans (ext_refl h492) E508
                have V515 : Arv Z h503 b504 kA505 .char (19 : Int32) [(.int (0 : Int32)), (.int (0 : Int32)), (.int (0 : Int32)), (.int (0 : Int32)), (.int (0 : Int32)), (.int (0 : Int32)), (.int (0 : Int32)), (.int (0 : Int32)), (.int (0 : Int32)), (.int (0 : Int32)), (.int (0 : Int32)), (.int (0 : Int32)), (.int (0 : Int32)), (.int (0 : Int32)), (.int (0 : Int32)), (.int (0 : Int32)), (.int (0 : Int32)), (.int (0 : Int32)), (.int (0 : Int32))] (.int (0 : Int32)) := V509.pad (pad_rep [] (.int (0 : Int32)) 19)
                show Ends p e below _ T502 (mkF m 283 #[.val (.int p0), .val (.int p1), .val (.int p2), .val (.int p3), .val (.int p4), .val (.int p5)] [(.ref b504), (.ref a493), (.ref a493)])
                refine Ends.go (f' := (mkF m 284 #[.val (.int p0), .val (.int p1), .val (.int p2), .val (.int p3), .val (.int p4), .val (.int p5)] [(.ref b504), (.ref b504), (.ref a493), (.ref a493)])) (fun t k => XS.dup N507.here hx rfl (hb hby d3_283) rfl rfl k) ?_
                refine Ends.go (f' := (mkF m 285 #[.val (.int p0), .val (.int p1), .val (.int p2), .val (.int p3), .val (.int p4), .val (.int p5)] [(.int (0 : Int32)), (.ref b504), (.ref b504), (.ref a493), (.ref a493)])) (fun t k => XS.iconst N507.here hx rfl (hb hby d3_284) k) ?_
                refine Ends.go (f' := (mkF m 286 #[.val (.int p0), .val (.int p1), .val (.int p2), .val (.int p3), .val (.int p4), .val (.int p5)] [(.int p1), (.int (0 : Int32)), (.ref b504), (.ref b504), (.ref a493), (.ref a493)])) (fun t k => XS.iloadN N507.here hx rfl (hb hby d3_285) rfl k) ?_
                refine gStC 0 N507 hx hZ V515 g512 (by decide) rfl (nle rfl) (hb hby d3_286) ?_
                intro T516 h517 N518 W519 V520
                rw [n1] at V520
                have V521 : Arv Z h517 b504 kA505 .char (19 : Int32) [(.int p1), (.int (0 : Int32)), (.int (0 : Int32)), (.int (0 : Int32)), (.int (0 : Int32)), (.int (0 : Int32)), (.int (0 : Int32)), (.int (0 : Int32)), (.int (0 : Int32)), (.int (0 : Int32)), (.int (0 : Int32)), (.int (0 : Int32)), (.int (0 : Int32)), (.int (0 : Int32)), (.int (0 : Int32)), (.int (0 : Int32)), (.int (0 : Int32)), (.int (0 : Int32)), (.int (0 : Int32))] (.int (0 : Int32)) := V520
                have X522 : Ext h0 h517 := ext_wr X513 W519 g510
                have X523 : Ext h492 h517 := ext_wr X514 W519 g511
                show Ends p e below _ T516 (mkF m 287 #[.val (.int p0), .val (.int p1), .val (.int p2), .val (.int p3), .val (.int p4), .val (.int p5)] [(.ref b504), (.ref a493), (.ref a493)])
                refine Ends.go (f' := (mkF m 288 #[.val (.int p0), .val (.int p1), .val (.int p2), .val (.int p3), .val (.int p4), .val (.int p5)] [(.ref b504), (.ref b504), (.ref a493), (.ref a493)])) (fun t k => XS.dup N518.here hx rfl (hb hby d3_287) rfl rfl k) ?_
                refine Ends.go (f' := (mkF m 289 #[.val (.int p0), .val (.int p1), .val (.int p2), .val (.int p3), .val (.int p4), .val (.int p5)] [(.int (1 : Int32)), (.ref b504), (.ref b504), (.ref a493), (.ref a493)])) (fun t k => XS.iconst N518.here hx rfl (hb hby d3_288) k) ?_
                refine Ends.go (f' := (mkF m 290 #[.val (.int p0), .val (.int p1), .val (.int p2), .val (.int p3), .val (.int p4), .val (.int p5)] [(.int p2), (.int (1 : Int32)), (.ref b504), (.ref b504), (.ref a493), (.ref a493)])) (fun t k => XS.iloadN N518.here hx rfl (hb hby d3_289) rfl k) ?_
                refine gStC 1 N518 hx hZ V521 g512 (by decide) rfl (nle rfl) (hb hby d3_290) ?_
                intro T524 h525 N526 W527 V528
                rw [n2] at V528
                have V529 : Arv Z h525 b504 kA505 .char (19 : Int32) [(.int p1), (.int p2), (.int (0 : Int32)), (.int (0 : Int32)), (.int (0 : Int32)), (.int (0 : Int32)), (.int (0 : Int32)), (.int (0 : Int32)), (.int (0 : Int32)), (.int (0 : Int32)), (.int (0 : Int32)), (.int (0 : Int32)), (.int (0 : Int32)), (.int (0 : Int32)), (.int (0 : Int32)), (.int (0 : Int32)), (.int (0 : Int32)), (.int (0 : Int32)), (.int (0 : Int32))] (.int (0 : Int32)) := V528
                have X530 : Ext h0 h525 := ext_wr X522 W527 g510
                have X531 : Ext h492 h525 := ext_wr X523 W527 g511
                show Ends p e below _ T524 (mkF m 291 #[.val (.int p0), .val (.int p1), .val (.int p2), .val (.int p3), .val (.int p4), .val (.int p5)] [(.ref b504), (.ref a493), (.ref a493)])
                refine Ends.go (f' := (mkF m 292 #[.val (.int p0), .val (.int p1), .val (.int p2), .val (.int p3), .val (.int p4), .val (.int p5)] [(.ref b504), (.ref b504), (.ref a493), (.ref a493)])) (fun t k => XS.dup N526.here hx rfl (hb hby d3_291) rfl rfl k) ?_
                refine Ends.go (f' := (mkF m 293 #[.val (.int p0), .val (.int p1), .val (.int p2), .val (.int p3), .val (.int p4), .val (.int p5)] [(.int (2 : Int32)), (.ref b504), (.ref b504), (.ref a493), (.ref a493)])) (fun t k => XS.iconst N526.here hx rfl (hb hby d3_292) k) ?_
                refine Ends.go (f' := (mkF m 294 #[.val (.int p0), .val (.int p1), .val (.int p2), .val (.int p3), .val (.int p4), .val (.int p5)] [(.int p3), (.int (2 : Int32)), (.ref b504), (.ref b504), (.ref a493), (.ref a493)])) (fun t k => XS.iloadN N526.here hx rfl (hb hby d3_293) rfl k) ?_
                refine gStC 2 N526 hx hZ V529 g512 (by decide) rfl (nle rfl) (hb hby d3_294) ?_
                intro T532 h533 N534 W535 V536
                rw [n3] at V536
                have V537 : Arv Z h533 b504 kA505 .char (19 : Int32) [(.int p1), (.int p2), (.int p3), (.int (0 : Int32)), (.int (0 : Int32)), (.int (0 : Int32)), (.int (0 : Int32)), (.int (0 : Int32)), (.int (0 : Int32)), (.int (0 : Int32)), (.int (0 : Int32)), (.int (0 : Int32)), (.int (0 : Int32)), (.int (0 : Int32)), (.int (0 : Int32)), (.int (0 : Int32)), (.int (0 : Int32)), (.int (0 : Int32)), (.int (0 : Int32))] (.int (0 : Int32)) := V536
                have X538 : Ext h0 h533 := ext_wr X530 W535 g510
                have X539 : Ext h492 h533 := ext_wr X531 W535 g511
                show Ends p e below _ T532 (mkF m 295 #[.val (.int p0), .val (.int p1), .val (.int p2), .val (.int p3), .val (.int p4), .val (.int p5)] [(.ref b504), (.ref a493), (.ref a493)])
                refine Ends.go (f' := (mkF m 296 #[.val (.int p0), .val (.int p1), .val (.int p2), .val (.int p3), .val (.int p4), .val (.int p5)] [(.ref b504), (.ref b504), (.ref a493), (.ref a493)])) (fun t k => XS.dup N534.here hx rfl (hb hby d3_295) rfl rfl k) ?_
                refine Ends.go (f' := (mkF m 297 #[.val (.int p0), .val (.int p1), .val (.int p2), .val (.int p3), .val (.int p4), .val (.int p5)] [(.int (3 : Int32)), (.ref b504), (.ref b504), (.ref a493), (.ref a493)])) (fun t k => XS.iconst N534.here hx rfl (hb hby d3_296) k) ?_
                refine Ends.go (f' := (mkF m 299 #[.val (.int p0), .val (.int p1), .val (.int p2), .val (.int p3), .val (.int p4), .val (.int p5)] [(.int p5), (.int (3 : Int32)), (.ref b504), (.ref b504), (.ref a493), (.ref a493)])) (fun t k => XS.iload N534.here hx rfl (hb hby d3_297) rfl k) ?_
                refine gStC 3 N534 hx hZ V537 g512 (by decide) rfl (nle rfl) (hb hby d3_299) ?_
                intro T540 h541 N542 W543 V544
                rw [n5] at V544
                have V545 : Arv Z h541 b504 kA505 .char (19 : Int32) [(.int p1), (.int p2), (.int p3), (.int p5), (.int (0 : Int32)), (.int (0 : Int32)), (.int (0 : Int32)), (.int (0 : Int32)), (.int (0 : Int32)), (.int (0 : Int32)), (.int (0 : Int32)), (.int (0 : Int32)), (.int (0 : Int32)), (.int (0 : Int32)), (.int (0 : Int32)), (.int (0 : Int32)), (.int (0 : Int32)), (.int (0 : Int32)), (.int (0 : Int32))] (.int (0 : Int32)) := V544
                have X546 : Ext h0 h541 := ext_wr X538 W543 g510
                have X547 : Ext h492 h541 := ext_wr X539 W543 g511
                show Ends p e below _ T540 (mkF m 300 #[.val (.int p0), .val (.int p1), .val (.int p2), .val (.int p3), .val (.int p4), .val (.int p5)] [(.ref b504), (.ref a493), (.ref a493)])
                refine Ends.go (f' := (mkF m 301 #[.val (.int p0), .val (.int p1), .val (.int p2), .val (.int p3), .val (.int p4), .val (.int p5)] [(.ref b504), (.ref b504), (.ref a493), (.ref a493)])) (fun t k => XS.dup N542.here hx rfl (hb hby d3_300) rfl rfl k) ?_
                refine Ends.go (f' := (mkF m 302 #[.val (.int p0), .val (.int p1), .val (.int p2), .val (.int p3), .val (.int p4), .val (.int p5)] [(.int (4 : Int32)), (.ref b504), (.ref b504), (.ref a493), (.ref a493)])) (fun t k => XS.iconst N542.here hx rfl (hb hby d3_301) k) ?_
                refine Ends.go (f' := (mkF m 304 #[.val (.int p0), .val (.int p1), .val (.int p2), .val (.int p3), .val (.int p4), .val (.int p5)] [(.int p5), (.int (4 : Int32)), (.ref b504), (.ref b504), (.ref a493), (.ref a493)])) (fun t k => XS.iload N542.here hx rfl (hb hby d3_302) rfl k) ?_
                refine gStC 4 N542 hx hZ V545 g512 (by decide) rfl (nle rfl) (hb hby d3_304) ?_
                intro T548 h549 N550 W551 V552
                rw [n5] at V552
                have V553 : Arv Z h549 b504 kA505 .char (19 : Int32) [(.int p1), (.int p2), (.int p3), (.int p5), (.int p5), (.int (0 : Int32)), (.int (0 : Int32)), (.int (0 : Int32)), (.int (0 : Int32)), (.int (0 : Int32)), (.int (0 : Int32)), (.int (0 : Int32)), (.int (0 : Int32)), (.int (0 : Int32)), (.int (0 : Int32)), (.int (0 : Int32)), (.int (0 : Int32)), (.int (0 : Int32)), (.int (0 : Int32))] (.int (0 : Int32)) := V552
                have X554 : Ext h0 h549 := ext_wr X546 W551 g510
                have X555 : Ext h492 h549 := ext_wr X547 W551 g511
                show Ends p e below _ T548 (mkF m 305 #[.val (.int p0), .val (.int p1), .val (.int p2), .val (.int p3), .val (.int p4), .val (.int p5)] [(.ref b504), (.ref a493), (.ref a493)])
                refine Ends.go (f' := (mkF m 306 #[.val (.int p0), .val (.int p1), .val (.int p2), .val (.int p3), .val (.int p4), .val (.int p5)] [(.ref b504), (.ref b504), (.ref a493), (.ref a493)])) (fun t k => XS.dup N550.here hx rfl (hb hby d3_305) rfl rfl k) ?_
                refine Ends.go (f' := (mkF m 307 #[.val (.int p0), .val (.int p1), .val (.int p2), .val (.int p3), .val (.int p4), .val (.int p5)] [(.int (5 : Int32)), (.ref b504), (.ref b504), (.ref a493), (.ref a493)])) (fun t k => XS.iconst N550.here hx rfl (hb hby d3_306) k) ?_
                refine Ends.go (f' := (mkF m 309 #[.val (.int p0), .val (.int p1), .val (.int p2), .val (.int p3), .val (.int p4), .val (.int p5)] [(.int p5), (.int (5 : Int32)), (.ref b504), (.ref b504), (.ref a493), (.ref a493)])) (fun t k => XS.iload N550.here hx rfl (hb hby d3_307) rfl k) ?_
                refine gStC 5 N550 hx hZ V553 g512 (by decide) rfl (nle rfl) (hb hby d3_309) ?_
                intro T556 h557 N558 W559 V560
                rw [n5] at V560
                have V561 : Arv Z h557 b504 kA505 .char (19 : Int32) [(.int p1), (.int p2), (.int p3), (.int p5), (.int p5), (.int p5), (.int (0 : Int32)), (.int (0 : Int32)), (.int (0 : Int32)), (.int (0 : Int32)), (.int (0 : Int32)), (.int (0 : Int32)), (.int (0 : Int32)), (.int (0 : Int32)), (.int (0 : Int32)), (.int (0 : Int32)), (.int (0 : Int32)), (.int (0 : Int32)), (.int (0 : Int32))] (.int (0 : Int32)) := V560
                have X562 : Ext h0 h557 := ext_wr X554 W559 g510
                have X563 : Ext h492 h557 := ext_wr X555 W559 g511
                show Ends p e below _ T556 (mkF m 310 #[.val (.int p0), .val (.int p1), .val (.int p2), .val (.int p3), .val (.int p4), .val (.int p5)] [(.ref b504), (.ref a493), (.ref a493)])
                refine Ends.go (f' := (mkF m 311 #[.val (.int p0), .val (.int p1), .val (.int p2), .val (.int p3), .val (.int p4), .val (.int p5)] [(.ref b504), (.ref b504), (.ref a493), (.ref a493)])) (fun t k => XS.dup N558.here hx rfl (hb hby d3_310) rfl rfl k) ?_
                refine Ends.go (f' := (mkF m 313 #[.val (.int p0), .val (.int p1), .val (.int p2), .val (.int p3), .val (.int p4), .val (.int p5)] [(.int (6 : Int32)), (.ref b504), (.ref b504), (.ref a493), (.ref a493)])) (fun t k => XS.bipush N558.here hx rfl (hb hby d3_311) k) ?_
                refine Ends.go (f' := (mkF m 315 #[.val (.int p0), .val (.int p1), .val (.int p2), .val (.int p3), .val (.int p4), .val (.int p5)] [(.int p5), (.int (6 : Int32)), (.ref b504), (.ref b504), (.ref a493), (.ref a493)])) (fun t k => XS.iload N558.here hx rfl (hb hby d3_313) rfl k) ?_
                refine gStC 6 N558 hx hZ V561 g512 (by decide) rfl (nle rfl) (hb hby d3_315) ?_
                intro T564 h565 N566 W567 V568
                rw [n5] at V568
                have V569 : Arv Z h565 b504 kA505 .char (19 : Int32) [(.int p1), (.int p2), (.int p3), (.int p5), (.int p5), (.int p5), (.int p5), (.int (0 : Int32)), (.int (0 : Int32)), (.int (0 : Int32)), (.int (0 : Int32)), (.int (0 : Int32)), (.int (0 : Int32)), (.int (0 : Int32)), (.int (0 : Int32)), (.int (0 : Int32)), (.int (0 : Int32)), (.int (0 : Int32)), (.int (0 : Int32))] (.int (0 : Int32)) := V568
                have X570 : Ext h0 h565 := ext_wr X562 W567 g510
                have X571 : Ext h492 h565 := ext_wr X563 W567 g511
                show Ends p e below _ T564 (mkF m 316 #[.val (.int p0), .val (.int p1), .val (.int p2), .val (.int p3), .val (.int p4), .val (.int p5)] [(.ref b504), (.ref a493), (.ref a493)])
                refine Ends.go (f' := (mkF m 317 #[.val (.int p0), .val (.int p1), .val (.int p2), .val (.int p3), .val (.int p4), .val (.int p5)] [(.ref b504), (.ref b504), (.ref a493), (.ref a493)])) (fun t k => XS.dup N566.here hx rfl (hb hby d3_316) rfl rfl k) ?_
                refine Ends.go (f' := (mkF m 319 #[.val (.int p0), .val (.int p1), .val (.int p2), .val (.int p3), .val (.int p4), .val (.int p5)] [(.int (7 : Int32)), (.ref b504), (.ref b504), (.ref a493), (.ref a493)])) (fun t k => XS.bipush N566.here hx rfl (hb hby d3_317) k) ?_
                refine Ends.go (f' := (mkF m 321 #[.val (.int p0), .val (.int p1), .val (.int p2), .val (.int p3), .val (.int p4), .val (.int p5)] [(.int p5), (.int (7 : Int32)), (.ref b504), (.ref b504), (.ref a493), (.ref a493)])) (fun t k => XS.iload N566.here hx rfl (hb hby d3_319) rfl k) ?_
                refine gStC 7 N566 hx hZ V569 g512 (by decide) rfl (nle rfl) (hb hby d3_321) ?_
                intro T572 h573 N574 W575 V576
                rw [n5] at V576
                have V577 : Arv Z h573 b504 kA505 .char (19 : Int32) [(.int p1), (.int p2), (.int p3), (.int p5), (.int p5), (.int p5), (.int p5), (.int p5), (.int (0 : Int32)), (.int (0 : Int32)), (.int (0 : Int32)), (.int (0 : Int32)), (.int (0 : Int32)), (.int (0 : Int32)), (.int (0 : Int32)), (.int (0 : Int32)), (.int (0 : Int32)), (.int (0 : Int32)), (.int (0 : Int32))] (.int (0 : Int32)) := V576
                have X578 : Ext h0 h573 := ext_wr X570 W575 g510
                have X579 : Ext h492 h573 := ext_wr X571 W575 g511
                show Ends p e below _ T572 (mkF m 322 #[.val (.int p0), .val (.int p1), .val (.int p2), .val (.int p3), .val (.int p4), .val (.int p5)] [(.ref b504), (.ref a493), (.ref a493)])
                refine Ends.go (f' := (mkF m 323 #[.val (.int p0), .val (.int p1), .val (.int p2), .val (.int p3), .val (.int p4), .val (.int p5)] [(.ref b504), (.ref b504), (.ref a493), (.ref a493)])) (fun t k => XS.dup N574.here hx rfl (hb hby d3_322) rfl rfl k) ?_
                refine Ends.go (f' := (mkF m 325 #[.val (.int p0), .val (.int p1), .val (.int p2), .val (.int p3), .val (.int p4), .val (.int p5)] [(.int (8 : Int32)), (.ref b504), (.ref b504), (.ref a493), (.ref a493)])) (fun t k => XS.bipush N574.here hx rfl (hb hby d3_323) k) ?_
                refine Ends.go (f' := (mkF m 327 #[.val (.int p0), .val (.int p1), .val (.int p2), .val (.int p3), .val (.int p4), .val (.int p5)] [(.int p5), (.int (8 : Int32)), (.ref b504), (.ref b504), (.ref a493), (.ref a493)])) (fun t k => XS.iload N574.here hx rfl (hb hby d3_325) rfl k) ?_
                refine gStC 8 N574 hx hZ V577 g512 (by decide) rfl (nle rfl) (hb hby d3_327) ?_
                intro T580 h581 N582 W583 V584
                rw [n5] at V584
                have V585 : Arv Z h581 b504 kA505 .char (19 : Int32) [(.int p1), (.int p2), (.int p3), (.int p5), (.int p5), (.int p5), (.int p5), (.int p5), (.int p5), (.int (0 : Int32)), (.int (0 : Int32)), (.int (0 : Int32)), (.int (0 : Int32)), (.int (0 : Int32)), (.int (0 : Int32)), (.int (0 : Int32)), (.int (0 : Int32)), (.int (0 : Int32)), (.int (0 : Int32))] (.int (0 : Int32)) := V584
                have X586 : Ext h0 h581 := ext_wr X578 W583 g510
                have X587 : Ext h492 h581 := ext_wr X579 W583 g511
                show Ends p e below _ T580 (mkF m 328 #[.val (.int p0), .val (.int p1), .val (.int p2), .val (.int p3), .val (.int p4), .val (.int p5)] [(.ref b504), (.ref a493), (.ref a493)])
                refine Ends.go (f' := (mkF m 329 #[.val (.int p0), .val (.int p1), .val (.int p2), .val (.int p3), .val (.int p4), .val (.int p5)] [(.ref b504), (.ref b504), (.ref a493), (.ref a493)])) (fun t k => XS.dup N582.here hx rfl (hb hby d3_328) rfl rfl k) ?_
                refine Ends.go (f' := (mkF m 331 #[.val (.int p0), .val (.int p1), .val (.int p2), .val (.int p3), .val (.int p4), .val (.int p5)] [(.int (9 : Int32)), (.ref b504), (.ref b504), (.ref a493), (.ref a493)])) (fun t k => XS.bipush N582.here hx rfl (hb hby d3_329) k) ?_
                refine Ends.go (f' := (mkF m 333 #[.val (.int p0), .val (.int p1), .val (.int p2), .val (.int p3), .val (.int p4), .val (.int p5)] [(.int p5), (.int (9 : Int32)), (.ref b504), (.ref b504), (.ref a493), (.ref a493)])) (fun t k => XS.iload N582.here hx rfl (hb hby d3_331) rfl k) ?_
                refine gStC 9 N582 hx hZ V585 g512 (by decide) rfl (nle rfl) (hb hby d3_333) ?_
                intro T588 h589 N590 W591 V592
                rw [n5] at V592
                have V593 : Arv Z h589 b504 kA505 .char (19 : Int32) [(.int p1), (.int p2), (.int p3), (.int p5), (.int p5), (.int p5), (.int p5), (.int p5), (.int p5), (.int p5), (.int (0 : Int32)), (.int (0 : Int32)), (.int (0 : Int32)), (.int (0 : Int32)), (.int (0 : Int32)), (.int (0 : Int32)), (.int (0 : Int32)), (.int (0 : Int32)), (.int (0 : Int32))] (.int (0 : Int32)) := V592
                have X594 : Ext h0 h589 := ext_wr X586 W591 g510
                have X595 : Ext h492 h589 := ext_wr X587 W591 g511
                show Ends p e below _ T588 (mkF m 334 #[.val (.int p0), .val (.int p1), .val (.int p2), .val (.int p3), .val (.int p4), .val (.int p5)] [(.ref b504), (.ref a493), (.ref a493)])
                refine Ends.go (f' := (mkF m 335 #[.val (.int p0), .val (.int p1), .val (.int p2), .val (.int p3), .val (.int p4), .val (.int p5)] [(.ref b504), (.ref b504), (.ref a493), (.ref a493)])) (fun t k => XS.dup N590.here hx rfl (hb hby d3_334) rfl rfl k) ?_
                refine Ends.go (f' := (mkF m 337 #[.val (.int p0), .val (.int p1), .val (.int p2), .val (.int p3), .val (.int p4), .val (.int p5)] [(.int (10 : Int32)), (.ref b504), (.ref b504), (.ref a493), (.ref a493)])) (fun t k => XS.bipush N590.here hx rfl (hb hby d3_335) k) ?_
                refine Ends.go (f' := (mkF m 339 #[.val (.int p0), .val (.int p1), .val (.int p2), .val (.int p3), .val (.int p4), .val (.int p5)] [(.int p5), (.int (10 : Int32)), (.ref b504), (.ref b504), (.ref a493), (.ref a493)])) (fun t k => XS.iload N590.here hx rfl (hb hby d3_337) rfl k) ?_
                refine gStC 10 N590 hx hZ V593 g512 (by decide) rfl (nle rfl) (hb hby d3_339) ?_
                intro T596 h597 N598 W599 V600
                rw [n5] at V600
                have V601 : Arv Z h597 b504 kA505 .char (19 : Int32) [(.int p1), (.int p2), (.int p3), (.int p5), (.int p5), (.int p5), (.int p5), (.int p5), (.int p5), (.int p5), (.int p5), (.int (0 : Int32)), (.int (0 : Int32)), (.int (0 : Int32)), (.int (0 : Int32)), (.int (0 : Int32)), (.int (0 : Int32)), (.int (0 : Int32)), (.int (0 : Int32))] (.int (0 : Int32)) := V600
                have X602 : Ext h0 h597 := ext_wr X594 W599 g510
                have X603 : Ext h492 h597 := ext_wr X595 W599 g511
                show Ends p e below _ T596 (mkF m 340 #[.val (.int p0), .val (.int p1), .val (.int p2), .val (.int p3), .val (.int p4), .val (.int p5)] [(.ref b504), (.ref a493), (.ref a493)])
                refine Ends.go (f' := (mkF m 341 #[.val (.int p0), .val (.int p1), .val (.int p2), .val (.int p3), .val (.int p4), .val (.int p5)] [(.ref b504), (.ref b504), (.ref a493), (.ref a493)])) (fun t k => XS.dup N598.here hx rfl (hb hby d3_340) rfl rfl k) ?_
                refine Ends.go (f' := (mkF m 343 #[.val (.int p0), .val (.int p1), .val (.int p2), .val (.int p3), .val (.int p4), .val (.int p5)] [(.int (11 : Int32)), (.ref b504), (.ref b504), (.ref a493), (.ref a493)])) (fun t k => XS.bipush N598.here hx rfl (hb hby d3_341) k) ?_
                refine Ends.go (f' := (mkF m 345 #[.val (.int p0), .val (.int p1), .val (.int p2), .val (.int p3), .val (.int p4), .val (.int p5)] [(.int p5), (.int (11 : Int32)), (.ref b504), (.ref b504), (.ref a493), (.ref a493)])) (fun t k => XS.iload N598.here hx rfl (hb hby d3_343) rfl k) ?_
                refine gStC 11 N598 hx hZ V601 g512 (by decide) rfl (nle rfl) (hb hby d3_345) ?_
                intro T604 h605 N606 W607 V608
                rw [n5] at V608
                have V609 : Arv Z h605 b504 kA505 .char (19 : Int32) [(.int p1), (.int p2), (.int p3), (.int p5), (.int p5), (.int p5), (.int p5), (.int p5), (.int p5), (.int p5), (.int p5), (.int p5), (.int (0 : Int32)), (.int (0 : Int32)), (.int (0 : Int32)), (.int (0 : Int32)), (.int (0 : Int32)), (.int (0 : Int32)), (.int (0 : Int32))] (.int (0 : Int32)) := V608
                have X610 : Ext h0 h605 := ext_wr X602 W607 g510
                have X611 : Ext h492 h605 := ext_wr X603 W607 g511
                show Ends p e below _ T604 (mkF m 346 #[.val (.int p0), .val (.int p1), .val (.int p2), .val (.int p3), .val (.int p4), .val (.int p5)] [(.ref b504), (.ref a493), (.ref a493)])
                refine Ends.go (f' := (mkF m 347 #[.val (.int p0), .val (.int p1), .val (.int p2), .val (.int p3), .val (.int p4), .val (.int p5)] [(.ref b504), (.ref b504), (.ref a493), (.ref a493)])) (fun t k => XS.dup N606.here hx rfl (hb hby d3_346) rfl rfl k) ?_
                refine Ends.go (f' := (mkF m 349 #[.val (.int p0), .val (.int p1), .val (.int p2), .val (.int p3), .val (.int p4), .val (.int p5)] [(.int (12 : Int32)), (.ref b504), (.ref b504), (.ref a493), (.ref a493)])) (fun t k => XS.bipush N606.here hx rfl (hb hby d3_347) k) ?_
                refine Ends.go (f' := (mkF m 351 #[.val (.int p0), .val (.int p1), .val (.int p2), .val (.int p3), .val (.int p4), .val (.int p5)] [(.int p5), (.int (12 : Int32)), (.ref b504), (.ref b504), (.ref a493), (.ref a493)])) (fun t k => XS.iload N606.here hx rfl (hb hby d3_349) rfl k) ?_
                refine gStC 12 N606 hx hZ V609 g512 (by decide) rfl (nle rfl) (hb hby d3_351) ?_
                intro T612 h613 N614 W615 V616
                rw [n5] at V616
                have V617 : Arv Z h613 b504 kA505 .char (19 : Int32) [(.int p1), (.int p2), (.int p3), (.int p5), (.int p5), (.int p5), (.int p5), (.int p5), (.int p5), (.int p5), (.int p5), (.int p5), (.int p5), (.int (0 : Int32)), (.int (0 : Int32)), (.int (0 : Int32)), (.int (0 : Int32)), (.int (0 : Int32)), (.int (0 : Int32))] (.int (0 : Int32)) := V616
                have X618 : Ext h0 h613 := ext_wr X610 W615 g510
                have X619 : Ext h492 h613 := ext_wr X611 W615 g511
                show Ends p e below _ T612 (mkF m 352 #[.val (.int p0), .val (.int p1), .val (.int p2), .val (.int p3), .val (.int p4), .val (.int p5)] [(.ref b504), (.ref a493), (.ref a493)])
                refine Ends.go (f' := (mkF m 353 #[.val (.int p0), .val (.int p1), .val (.int p2), .val (.int p3), .val (.int p4), .val (.int p5)] [(.ref b504), (.ref b504), (.ref a493), (.ref a493)])) (fun t k => XS.dup N614.here hx rfl (hb hby d3_352) rfl rfl k) ?_
                refine Ends.go (f' := (mkF m 355 #[.val (.int p0), .val (.int p1), .val (.int p2), .val (.int p3), .val (.int p4), .val (.int p5)] [(.int (13 : Int32)), (.ref b504), (.ref b504), (.ref a493), (.ref a493)])) (fun t k => XS.bipush N614.here hx rfl (hb hby d3_353) k) ?_
                refine Ends.go (f' := (mkF m 357 #[.val (.int p0), .val (.int p1), .val (.int p2), .val (.int p3), .val (.int p4), .val (.int p5)] [(.int p5), (.int (13 : Int32)), (.ref b504), (.ref b504), (.ref a493), (.ref a493)])) (fun t k => XS.iload N614.here hx rfl (hb hby d3_355) rfl k) ?_
                refine gStC 13 N614 hx hZ V617 g512 (by decide) rfl (nle rfl) (hb hby d3_357) ?_
                intro T620 h621 N622 W623 V624
                rw [n5] at V624
                have V625 : Arv Z h621 b504 kA505 .char (19 : Int32) [(.int p1), (.int p2), (.int p3), (.int p5), (.int p5), (.int p5), (.int p5), (.int p5), (.int p5), (.int p5), (.int p5), (.int p5), (.int p5), (.int p5), (.int (0 : Int32)), (.int (0 : Int32)), (.int (0 : Int32)), (.int (0 : Int32)), (.int (0 : Int32))] (.int (0 : Int32)) := V624
                have X626 : Ext h0 h621 := ext_wr X618 W623 g510
                have X627 : Ext h492 h621 := ext_wr X619 W623 g511
                show Ends p e below _ T620 (mkF m 358 #[.val (.int p0), .val (.int p1), .val (.int p2), .val (.int p3), .val (.int p4), .val (.int p5)] [(.ref b504), (.ref a493), (.ref a493)])
                refine Ends.go (f' := (mkF m 359 #[.val (.int p0), .val (.int p1), .val (.int p2), .val (.int p3), .val (.int p4), .val (.int p5)] [(.ref b504), (.ref b504), (.ref a493), (.ref a493)])) (fun t k => XS.dup N622.here hx rfl (hb hby d3_358) rfl rfl k) ?_
                refine Ends.go (f' := (mkF m 361 #[.val (.int p0), .val (.int p1), .val (.int p2), .val (.int p3), .val (.int p4), .val (.int p5)] [(.int (14 : Int32)), (.ref b504), (.ref b504), (.ref a493), (.ref a493)])) (fun t k => XS.bipush N622.here hx rfl (hb hby d3_359) k) ?_
                refine Ends.go (f' := (mkF m 363 #[.val (.int p0), .val (.int p1), .val (.int p2), .val (.int p3), .val (.int p4), .val (.int p5)] [(.int p5), (.int (14 : Int32)), (.ref b504), (.ref b504), (.ref a493), (.ref a493)])) (fun t k => XS.iload N622.here hx rfl (hb hby d3_361) rfl k) ?_
                refine gStC 14 N622 hx hZ V625 g512 (by decide) rfl (nle rfl) (hb hby d3_363) ?_
                intro T628 h629 N630 W631 V632
                rw [n5] at V632
                have V633 : Arv Z h629 b504 kA505 .char (19 : Int32) [(.int p1), (.int p2), (.int p3), (.int p5), (.int p5), (.int p5), (.int p5), (.int p5), (.int p5), (.int p5), (.int p5), (.int p5), (.int p5), (.int p5), (.int p5), (.int (0 : Int32)), (.int (0 : Int32)), (.int (0 : Int32)), (.int (0 : Int32))] (.int (0 : Int32)) := V632
                have X634 : Ext h0 h629 := ext_wr X626 W631 g510
                have X635 : Ext h492 h629 := ext_wr X627 W631 g511
                show Ends p e below _ T628 (mkF m 364 #[.val (.int p0), .val (.int p1), .val (.int p2), .val (.int p3), .val (.int p4), .val (.int p5)] [(.ref b504), (.ref a493), (.ref a493)])
                refine Ends.go (f' := (mkF m 365 #[.val (.int p0), .val (.int p1), .val (.int p2), .val (.int p3), .val (.int p4), .val (.int p5)] [(.ref b504), (.ref b504), (.ref a493), (.ref a493)])) (fun t k => XS.dup N630.here hx rfl (hb hby d3_364) rfl rfl k) ?_
                refine Ends.go (f' := (mkF m 367 #[.val (.int p0), .val (.int p1), .val (.int p2), .val (.int p3), .val (.int p4), .val (.int p5)] [(.int (15 : Int32)), (.ref b504), (.ref b504), (.ref a493), (.ref a493)])) (fun t k => XS.bipush N630.here hx rfl (hb hby d3_365) k) ?_
                refine Ends.go (f' := (mkF m 369 #[.val (.int p0), .val (.int p1), .val (.int p2), .val (.int p3), .val (.int p4), .val (.int p5)] [(.int p5), (.int (15 : Int32)), (.ref b504), (.ref b504), (.ref a493), (.ref a493)])) (fun t k => XS.iload N630.here hx rfl (hb hby d3_367) rfl k) ?_
                refine gStC 15 N630 hx hZ V633 g512 (by decide) rfl (nle rfl) (hb hby d3_369) ?_
                intro T636 h637 N638 W639 V640
                rw [n5] at V640
                have V641 : Arv Z h637 b504 kA505 .char (19 : Int32) [(.int p1), (.int p2), (.int p3), (.int p5), (.int p5), (.int p5), (.int p5), (.int p5), (.int p5), (.int p5), (.int p5), (.int p5), (.int p5), (.int p5), (.int p5), (.int p5), (.int (0 : Int32)), (.int (0 : Int32)), (.int (0 : Int32))] (.int (0 : Int32)) := V640
                have X642 : Ext h0 h637 := ext_wr X634 W639 g510
                have X643 : Ext h492 h637 := ext_wr X635 W639 g511
                show Ends p e below _ T636 (mkF m 370 #[.val (.int p0), .val (.int p1), .val (.int p2), .val (.int p3), .val (.int p4), .val (.int p5)] [(.ref b504), (.ref a493), (.ref a493)])
                refine Ends.go (f' := (mkF m 371 #[.val (.int p0), .val (.int p1), .val (.int p2), .val (.int p3), .val (.int p4), .val (.int p5)] [(.ref b504), (.ref b504), (.ref a493), (.ref a493)])) (fun t k => XS.dup N638.here hx rfl (hb hby d3_370) rfl rfl k) ?_
                refine Ends.go (f' := (mkF m 373 #[.val (.int p0), .val (.int p1), .val (.int p2), .val (.int p3), .val (.int p4), .val (.int p5)] [(.int (16 : Int32)), (.ref b504), (.ref b504), (.ref a493), (.ref a493)])) (fun t k => XS.bipush N638.here hx rfl (hb hby d3_371) k) ?_
                refine Ends.go (f' := (mkF m 375 #[.val (.int p0), .val (.int p1), .val (.int p2), .val (.int p3), .val (.int p4), .val (.int p5)] [(.int p5), (.int (16 : Int32)), (.ref b504), (.ref b504), (.ref a493), (.ref a493)])) (fun t k => XS.iload N638.here hx rfl (hb hby d3_373) rfl k) ?_
                refine gStC 16 N638 hx hZ V641 g512 (by decide) rfl (nle rfl) (hb hby d3_375) ?_
                intro T644 h645 N646 W647 V648
                rw [n5] at V648
                have V649 : Arv Z h645 b504 kA505 .char (19 : Int32) [(.int p1), (.int p2), (.int p3), (.int p5), (.int p5), (.int p5), (.int p5), (.int p5), (.int p5), (.int p5), (.int p5), (.int p5), (.int p5), (.int p5), (.int p5), (.int p5), (.int p5), (.int (0 : Int32)), (.int (0 : Int32))] (.int (0 : Int32)) := V648
                have X650 : Ext h0 h645 := ext_wr X642 W647 g510
                have X651 : Ext h492 h645 := ext_wr X643 W647 g511
                show Ends p e below _ T644 (mkF m 376 #[.val (.int p0), .val (.int p1), .val (.int p2), .val (.int p3), .val (.int p4), .val (.int p5)] [(.ref b504), (.ref a493), (.ref a493)])
                refine Ends.go (f' := (mkF m 377 #[.val (.int p0), .val (.int p1), .val (.int p2), .val (.int p3), .val (.int p4), .val (.int p5)] [(.ref b504), (.ref b504), (.ref a493), (.ref a493)])) (fun t k => XS.dup N646.here hx rfl (hb hby d3_376) rfl rfl k) ?_
                refine Ends.go (f' := (mkF m 379 #[.val (.int p0), .val (.int p1), .val (.int p2), .val (.int p3), .val (.int p4), .val (.int p5)] [(.int (17 : Int32)), (.ref b504), (.ref b504), (.ref a493), (.ref a493)])) (fun t k => XS.bipush N646.here hx rfl (hb hby d3_377) k) ?_
                refine Ends.go (f' := (mkF m 381 #[.val (.int p0), .val (.int p1), .val (.int p2), .val (.int p3), .val (.int p4), .val (.int p5)] [(.int p5), (.int (17 : Int32)), (.ref b504), (.ref b504), (.ref a493), (.ref a493)])) (fun t k => XS.iload N646.here hx rfl (hb hby d3_379) rfl k) ?_
                refine gStC 17 N646 hx hZ V649 g512 (by decide) rfl (nle rfl) (hb hby d3_381) ?_
                intro T652 h653 N654 W655 V656
                rw [n5] at V656
                have V657 : Arv Z h653 b504 kA505 .char (19 : Int32) [(.int p1), (.int p2), (.int p3), (.int p5), (.int p5), (.int p5), (.int p5), (.int p5), (.int p5), (.int p5), (.int p5), (.int p5), (.int p5), (.int p5), (.int p5), (.int p5), (.int p5), (.int p5), (.int (0 : Int32))] (.int (0 : Int32)) := V656
                have X658 : Ext h0 h653 := ext_wr X650 W655 g510
                have X659 : Ext h492 h653 := ext_wr X651 W655 g511
                show Ends p e below _ T652 (mkF m 382 #[.val (.int p0), .val (.int p1), .val (.int p2), .val (.int p3), .val (.int p4), .val (.int p5)] [(.ref b504), (.ref a493), (.ref a493)])
                refine Ends.go (f' := (mkF m 383 #[.val (.int p0), .val (.int p1), .val (.int p2), .val (.int p3), .val (.int p4), .val (.int p5)] [(.ref b504), (.ref b504), (.ref a493), (.ref a493)])) (fun t k => XS.dup N654.here hx rfl (hb hby d3_382) rfl rfl k) ?_
                refine Ends.go (f' := (mkF m 385 #[.val (.int p0), .val (.int p1), .val (.int p2), .val (.int p3), .val (.int p4), .val (.int p5)] [(.int (18 : Int32)), (.ref b504), (.ref b504), (.ref a493), (.ref a493)])) (fun t k => XS.bipush N654.here hx rfl (hb hby d3_383) k) ?_
                refine Ends.go (f' := (mkF m 387 #[.val (.int p0), .val (.int p1), .val (.int p2), .val (.int p3), .val (.int p4), .val (.int p5)] [(.int p4), (.int (18 : Int32)), (.ref b504), (.ref b504), (.ref a493), (.ref a493)])) (fun t k => XS.iload N654.here hx rfl (hb hby d3_385) rfl k) ?_
                refine gStC 18 N654 hx hZ V657 g512 (by decide) rfl (nle rfl) (hb hby d3_387) ?_
                intro T660 h661 N662 W663 V664
                rw [n4] at V664
                have V665 : Arv Z h661 b504 kA505 .char (19 : Int32) [(.int p1), (.int p2), (.int p3), (.int p5), (.int p5), (.int p5), (.int p5), (.int p5), (.int p5), (.int p5), (.int p5), (.int p5), (.int p5), (.int p5), (.int p5), (.int p5), (.int p5), (.int p5), (.int p4)] (.int (0 : Int32)) := V664
                have X666 : Ext h0 h661 := ext_wr X658 W663 g510
                have X667 : Ext h492 h661 := ext_wr X659 W663 g511
                show Ends p e below _ T660 (mkF m 388 #[.val (.int p0), .val (.int p1), .val (.int p2), .val (.int p3), .val (.int p4), .val (.int p5)] [(.ref b504), (.ref a493), (.ref a493)])
                refine gSpecial (W := 1) (y := (⟨"java/lang/String", "<init>", "([C)V"⟩ : MethodName)) (a := a493) (argsL := [(.ref b504)]) (rest := [(.ref a493)]) rfl N662 hx hZ hown (hw _ (List.mem_of_getElem? (i := 14) rfl)) (hw _ (List.mem_of_getElem? (i := 15) rfl)) (hw _ (List.mem_of_getElem? (i := 16) rfl)) (by decide) (strNew (W := 1) (cs := [p1, p2, p3, p5, p5, p5, p5, p5, p5, p5, p5, p5, p5, p5, p5, p5, p5, p5, p4]) hZ hw G N662.ext g500 (A497.ext X667) ((D498 (Or.inr (hw _ (List.mem_of_getElem? (i := 26) rfl))) (ty := .array .byte) (by decide)).ext X667) ((D498 (Or.inr (hw _ (List.mem_of_getElem? (i := 27) rfl))) (ty := .byte) (by decide)).ext X667) V665 (nle rfl) (nle rfl) (hp_cons k1 (hp_cons k2 (hp_cons k3 (hp_cons k5 (hp_cons k5 (hp_cons k5 (hp_cons k5 (hp_cons k5 (hp_cons k5 (hp_cons k5 (hp_cons k5 (hp_cons k5 (hp_cons k5 (hp_cons k5 (hp_cons k5 (hp_cons k5 (hp_cons k5 (hp_cons k5 (hp_cons k4 hp_nil))))))))))))))))))) (nle rfl) (nle rfl)) (hb hby d3_388) rfl (by rw [hml]; rfl) (lenOf (by decide +kernel : parseMethodDescriptor "([C)V" = some ⟨[(.array .char)], none⟩) rfl) (nle rfl) (nle rfl) (nle rfl) (fun _ _ _ q => q.2.2.2) ?_
                rintro _ T668 h669 L670 N671 ⟨rfl, K672, S673, -⟩
                have X674 : Ext h0 h669 := ext_keep X666 K672 g499
                show Ends p e below _ T668 (mkF m 391 #[.val (.int p0), .val (.int p1), .val (.int p2), .val (.int p3), .val (.int p4), .val (.int p5)] [(.ref a493)])
                have q9 : strCs p0 p1 p2 p3 p4 p5 = [p1, p2, p3, p5, p5, p5, p5, p5, p5, p5, p5, p5, p5, p5, p5, p5, p5, p5, p4] := by simp only [strCs, if_neg l0, if_neg l1, if_neg l2, if_neg l3, if_neg l4, if_neg l5, if_neg l6]
                exact retAW N671 hZ (elw hw) (wd0.ext X674) hx hlk hret rfl rfl (hb hby d3_391) ⟨_, rfl, X674, by rw [q9]; exact S673⟩ (nle rfl) (nle rfl)
theorem go_bad {cs : List Int32} (h : ∃ c ∈ cs, c < (48 : Int32) ∨ (57 : Int32) < c) : ∀ v : Int64, parseGo cs v = (-1 : Int64) := by
  induction cs with
  | nil => obtain ⟨c, hc, -⟩ := h; cases hc
  | cons d r ih =>
    intro v
    by_cases c1 : d < (48 : Int32)
    · simp only [parseGo, if_pos c1]
    by_cases c2 : (57 : Int32) < d
    · simp only [parseGo, if_neg c1, if_pos c2]
    · simp only [parseGo, if_neg c1, if_neg c2]
      obtain ⟨c, hc, hb⟩ := h
      rcases List.mem_cons.mp hc with rfl | hc
      · rcases hb with q | q
        · exact absurd q c1
        · exact absurd q c2
      · exact ih ⟨c, hc, hb⟩ _
theorem dig_bad {c : Int32} (h : f_dig c = 0) : c < (48 : Int32) ∨ (57 : Int32) < c := by
  unfold f_dig at h
  split at h
  · rename_i q; exact Or.inl q
  · split at h
    · rename_i q; exact Or.inr q
    · exact absurd h (by decide)
theorem dig_good {c : Int32} (h : ¬ f_dig c = 0) : ¬ c < (48 : Int32) ∧ ¬ (57 : Int32) < c := by
  unfold f_dig at h
  split at h
  · exact absurd rfl h
  · split at h
    · exact absurd rfl h
    · rename_i q1 q2; exact ⟨q1, q2⟩
theorem go_good {c : Int32} {r : List Int32} {v : Int64} (h : ¬ f_dig c = 0) : parseGo (c :: r) v = parseGo r (v * (10 : Int64) + (c - (48 : Int32)).toInt64) := by
  obtain ⟨c1, c2⟩ := dig_good h
  simp only [parseGo, if_neg c1, if_neg c2]
theorem dig_val {c : Int32} (h : ¬ f_dig c = 0) : 0 ≤ (c - (48 : Int32)).toInt64.toInt ∧ (c - (48 : Int32)).toInt64.toInt ≤ 9 := by
  obtain ⟨c1, c2⟩ := dig_good h
  have r1 := c_isub c (48 : Int32)
  have r2 := rng32 (c - (48 : Int32))
  have e48 : (48 : Int32).toInt = 48 := rfl
  have e57 : (57 : Int32).toInt = 57 := rfl
  rw [Int32.lt_iff_toInt_lt] at c1 c2
  rw [c_i2l]; omega
theorem step_val {acc w : Int64} {A B : Int} (hA : acc.toInt = A) (hB : w.toInt = B) (h0 : 0 ≤ A) (h1 : A ≤ 100000000000000000) (h2 : 0 ≤ B) (h3 : B ≤ 9) : (acc * (10 : Int64) + w).toInt = A * 10 + B := by
  have r1 := c_lmul acc (10 : Int64)
  have r2 := c_ladd (acc * (10 : Int64)) w
  have r3 := rng64 (acc * (10 : Int64))
  have r4 := rng64 (acc * (10 : Int64) + w)
  have e10 : (10 : Int64).toInt = 10 := rfl
  rw [e10] at r1
  omega
theorem min_lt {mx k : Int32} (hk : ¬ (18 : Int32) < k) : f_min mx (18 : Int32) < k ↔ mx < k := by
  unfold f_min
  rw [Int32.lt_iff_toInt_lt] at hk
  split
  · rename_i q
    rw [Int32.lt_iff_toInt_lt] at q
    rw [Int32.lt_iff_toInt_lt, Int32.lt_iff_toInt_lt]; omega
  · exact Iff.rfl
/-- what is behind the two first tests -/
theorem spec_of {cs : List Int32} {mx k a b c d f : Int32} (hk : Int32.ofNat cs.length = k) (h0 : ¬ k = 0) (h18 : ¬ (18 : Int32) < k) (ha : cs.getD 0 0 = a) (hg : parseGo cs 0 = f_exp_39 k a b c d f mx) : parseSpec cs mx = f_exp k a b c d f mx := by
  unfold parseSpec f_exp
  rw [hk, ha, hg, if_neg h0, if_neg h0, if_neg h18]
  by_cases q : mx < k
  · rw [if_pos ((min_lt h18).mpr q), if_pos q]
  · rw [if_neg (fun z => q ((min_lt h18).mp z)), if_neg q]
theorem val3 {a b c : Int64} (ha : 0 ≤ a.toInt ∧ a.toInt ≤ 9) (hb : 0 ≤ b.toInt ∧ b.toInt ≤ 9) (hc : 0 ≤ c.toInt ∧ c.toInt ≤ 9) : (((0 * (10 : Int64) + a) * (10 : Int64) + b) * (10 : Int64) + c).toInt = a.toInt * 100 + b.toInt * 10 + c.toInt ∧ (a * (100 : Int64) + b * (10 : Int64) + c).toInt = a.toInt * 100 + b.toInt * 10 + c.toInt := by
  have z0 : (0 : Int64).toInt = 0 := rfl
  have s1 := step_val (acc := 0) (w := a) z0 rfl (by omega) (by omega) (by omega) (by omega)
  have s2 := step_val (w := b) s1 rfl (by omega) (by omega) (by omega) (by omega)
  have s3 := step_val (w := c) s2 rfl (by omega) (by omega) (by omega) (by omega)
  have e100 : (100 : Int64).toInt = 100 := rfl
  have e10 : (10 : Int64).toInt = 10 := rfl
  have r1 := c_lmul a (100 : Int64)
  have r2 := c_lmul b (10 : Int64)
  have r3 := c_ladd (a * (100 : Int64)) (b * (10 : Int64))
  have r4 := c_ladd (a * (100 : Int64) + b * (10 : Int64)) c
  have t1 := rng64 (a * (100 : Int64))
  have t2 := rng64 (b * (10 : Int64))
  have t3 := rng64 (a * (100 : Int64) + b * (10 : Int64))
  have t4 := rng64 (a * (100 : Int64) + b * (10 : Int64) + c)
  rw [e100] at r1
  rw [e10] at r2
  omega
theorem tail_val {hh p q f d : Int64} {H Pp Qq : Int} (eh : hh.toInt = H) (ep : p.toInt = Pp) (eq : q.toInt = Qq) (h0 : 0 ≤ H ∧ H ≤ 999) (hf : 0 ≤ f.toInt ∧ f.toInt ≤ 9) (hd : 0 ≤ d.toInt ∧ d.toInt ≤ 9) (hP : Pp = 1 ∧ Qq = 0 ∨ Pp = 10 ∧ Qq = 1 ∨ Pp = 100000000000000 ∧ Qq = 11111111111111) : ((hh * p + q * f) * (10 : Int64) + d).toInt = (H * Pp + Qq * f.toInt) * 10 + d.toInt := by
  have e10 : (10 : Int64).toInt = 10 := rfl
  have r1 := c_lmul hh p
  have r2 := c_lmul q f
  have r3 := c_ladd (hh * p) (q * f)
  have r4 := c_lmul (hh * p + q * f) (10 : Int64)
  have r5 := c_ladd ((hh * p + q * f) * (10 : Int64)) d
  have t1 := rng64 (hh * p)
  have t2 := rng64 (q * f)
  have t3 := rng64 (hh * p + q * f)
  have t4 := rng64 ((hh * p + q * f) * (10 : Int64))
  have t5 := rng64 ((hh * p + q * f) * (10 : Int64) + d)
  rw [eh, ep] at r1
  rw [eq] at r2
  rw [e10] at r4
  rcases hP with ⟨rfl, rfl⟩ | ⟨rfl, rfl⟩ | ⟨rfl, rfl⟩ <;> omega
theorem e1m : ((1 : Int64) - (1 : Int64)) / (9 : Int64) = 0 := by decide
theorem e10m : ((10 : Int64) - (1 : Int64)) / (9 : Int64) = 1 := by decide
theorem e14m : ((100000000000000 : Int64) - (1 : Int64)) / (9 : Int64) = 11111111111111 := by decide
theorem mem_hd {c : Int32} {r : List Int32} {P : Int32 → Prop} (h : P c) : ∃ c' ∈ c :: r, P c' := ⟨c, List.mem_cons_self .., h⟩
theorem mem_tl {c : Int32} {r : List Int32} {P : Int32 → Prop} (h : ∃ c' ∈ r, P c') : ∃ c' ∈ c :: r, P c' := by obtain ⟨c', h1, h2⟩ := h; exact ⟨c', List.mem_cons_of_mem _ h1, h2⟩
theorem go1 (a b c d f mx : Int32) : parseGo [a] 0 = f_exp_39 1 a b c d f mx := by
  unfold f_exp_39
  by_cases da : f_dig a = 0
  · rw [if_pos da, go_bad (mem_hd (dig_bad da))]
  rw [if_neg da, if_pos rfl, go_good da, parseGo]
  apply Int64.toInt_inj.mp
  have va := dig_val da
  have z0 : (0 : Int64).toInt = 0 := rfl
  have s1 := step_val (acc := 0) (w := (a - (48 : Int32)).toInt64) z0 rfl (by omega) (by omega) (by omega) (by omega)
  omega
theorem go2 (a b c d f mx : Int32) : parseGo [a, b] 0 = f_exp_39 2 a b c d f mx := by
  unfold f_exp_39
  by_cases da : f_dig a = 0
  · rw [if_pos da, go_bad (mem_hd (dig_bad da))]
  rw [if_neg da, if_neg (by decide)]
  by_cases db : f_dig b = 0
  · rw [if_pos db, go_bad (mem_tl (mem_hd (dig_bad db)))]
  rw [if_neg db, if_pos rfl, go_good da, go_good db, parseGo]
  apply Int64.toInt_inj.mp
  have va := dig_val da
  have vb := dig_val db
  have z0 : (0 : Int64).toInt = 0 := rfl
  have s1 := step_val (acc := 0) (w := (a - (48 : Int32)).toInt64) z0 rfl (by omega) (by omega) (by omega) (by omega)
  have s2 := step_val (w := (b - (48 : Int32)).toInt64) s1 rfl (by omega) (by omega) (by omega) (by omega)
  have s3 := step_val (acc := (a - (48 : Int32)).toInt64) (w := (b - (48 : Int32)).toInt64) rfl rfl (by omega) (by omega) (by omega) (by omega)
  omega
theorem go3 (a b c d f mx : Int32) : parseGo [a, b, c] 0 = f_exp_39 3 a b c d f mx := by
  unfold f_exp_39
  by_cases da : f_dig a = 0
  · rw [if_pos da, go_bad (mem_hd (dig_bad da))]
  rw [if_neg da, if_neg (by decide)]
  by_cases db : f_dig b = 0
  · rw [if_pos db, go_bad (mem_tl (mem_hd (dig_bad db)))]
  rw [if_neg db, if_neg (by decide)]
  by_cases dc : f_dig c = 0
  · rw [if_pos dc, go_bad (mem_tl (mem_tl (mem_hd (dig_bad dc))))]
  rw [if_neg dc, if_pos rfl, go_good da, go_good db, go_good dc, parseGo]
  apply Int64.toInt_inj.mp
  have q := val3 (dig_val da) (dig_val db) (dig_val dc)
  omega
theorem go4 (a b c d f mx : Int32) : parseGo [a, b, c, d] 0 = f_exp_39 4 a b c d f mx := by
  unfold f_exp_39
  by_cases da : f_dig a = 0
  · rw [if_pos da, go_bad (mem_hd (dig_bad da))]
  rw [if_neg da, if_neg (by decide)]
  by_cases db : f_dig b = 0
  · rw [if_pos db, go_bad (mem_tl (mem_hd (dig_bad db)))]
  rw [if_neg db, if_neg (by decide)]
  by_cases dc : f_dig c = 0
  · rw [if_pos dc, go_bad (mem_tl (mem_tl (mem_hd (dig_bad dc))))]
  rw [if_neg dc, if_neg (by decide)]
  by_cases dd : f_dig d = 0
  · rw [if_pos dd, go_bad (mem_tl (mem_tl (mem_tl (mem_hd (dig_bad dd)))))]
  rw [if_neg dd]
  rw [if_neg (by decide)]
  unfold f_exp_184 f_exp_206 f_exp_218
  rw [if_neg (by decide), if_neg (by decide), e1m]
  rw [go_good da, go_good db, go_good dc, go_good dd, parseGo]
  apply Int64.toInt_inj.mp
  have va := dig_val da
  have vb := dig_val db
  have vc := dig_val dc
  have vd := dig_val dd
  have q := val3 va vb vc
  generalize (a - (48 : Int32)).toInt64 = A at *
  generalize (b - (48 : Int32)).toInt64 = B at *
  generalize (c - (48 : Int32)).toInt64 = Cc at *
  generalize (d - (48 : Int32)).toInt64 = Dd at *
  generalize hF : (f - (48 : Int32)).toInt64 = F at *
  have s0 := step_val (w := Dd) q.1 rfl (by omega) (by omega) (by omega) (by omega)
  rw [s0]
  have e0 : (0 : Int64) * F = 0 * F := rfl
  have r2 := c_lmul (0 : Int64) F
  have z0 : (0 : Int64).toInt = 0 := rfl
  have t2 := rng64 ((0 : Int64) * F)
  have zz : (0 : Int64) * F = 0 := by apply Int64.toInt_inj.mp; rw [z0] at r2; omega
  have tv := tail_val (hh := A * (100 : Int64) + B * (10 : Int64) + Cc) (p := 1) (q := 0) (f := 0) (d := Dd) (Pp := 1) (Qq := 0) q.2 rfl rfl (by omega) (by decide) vd (Or.inl ⟨rfl, rfl⟩)
  have z1 : (0 : Int64) * (0 : Int64) = 0 := by decide
  rw [z1] at tv; rw [zz, tv]; omega
theorem go5 (a b c d f mx : Int32) : parseGo [a, b, c, f, d] 0 = f_exp_39 5 a b c d f mx := by
  unfold f_exp_39
  by_cases da : f_dig a = 0
  · rw [if_pos da, go_bad (mem_hd (dig_bad da))]
  rw [if_neg da, if_neg (by decide)]
  by_cases db : f_dig b = 0
  · rw [if_pos db, go_bad (mem_tl (mem_hd (dig_bad db)))]
  rw [if_neg db, if_neg (by decide)]
  by_cases dc : f_dig c = 0
  · rw [if_pos dc, go_bad (mem_tl (mem_tl (mem_hd (dig_bad dc))))]
  rw [if_neg dc, if_neg (by decide)]
  by_cases dd : f_dig d = 0
  · rw [if_pos dd, go_bad (mem_tl (mem_tl (mem_tl (mem_tl (mem_hd (dig_bad dd))))))]
  rw [if_neg dd]
  rw [if_pos (by decide)]
  by_cases df : f_dig f = 0
  · rw [if_pos df, go_bad (mem_tl (mem_tl (mem_tl (mem_hd (dig_bad df)))))]
  rw [if_neg df]
  unfold f_exp_184 f_exp_206 f_exp_218
  rw [if_pos (by decide), if_neg (by decide), e10m]
  rw [go_good da, go_good db, go_good dc, go_good df, go_good dd, parseGo]
  apply Int64.toInt_inj.mp
  have va := dig_val da
  have vb := dig_val db
  have vc := dig_val dc
  have vd := dig_val dd
  have vf := dig_val df
  have q := val3 va vb vc
  generalize (a - (48 : Int32)).toInt64 = A at *
  generalize (b - (48 : Int32)).toInt64 = B at *
  generalize (c - (48 : Int32)).toInt64 = Cc at *
  generalize (d - (48 : Int32)).toInt64 = Dd at *
  generalize hF : (f - (48 : Int32)).toInt64 = F at *
  have s0 := step_val (w := F) q.1 rfl (by omega) (by omega) (by omega) (by omega)
  have s1 := step_val (w := Dd) s0 rfl (by omega) (by omega) (by omega) (by omega)
  have tv := tail_val (hh := A * (100 : Int64) + B * (10 : Int64) + Cc) (p := 10) (q := 1) (f := F) (d := Dd) (Pp := 10) (Qq := 1) q.2 rfl rfl (by omega) vf vd (Or.inr (Or.inl ⟨rfl, rfl⟩))
  rw [s1, tv]; omega
theorem go18 (a b c d f mx : Int32) : parseGo [a, b, c, f, f, f, f, f, f, f, f, f, f, f, f, f, f, d] 0 = f_exp_39 18 a b c d f mx := by
  unfold f_exp_39
  by_cases da : f_dig a = 0
  · rw [if_pos da, go_bad (mem_hd (dig_bad da))]
  rw [if_neg da, if_neg (by decide)]
  by_cases db : f_dig b = 0
  · rw [if_pos db, go_bad (mem_tl (mem_hd (dig_bad db)))]
  rw [if_neg db, if_neg (by decide)]
  by_cases dc : f_dig c = 0
  · rw [if_pos dc, go_bad (mem_tl (mem_tl (mem_hd (dig_bad dc))))]
  rw [if_neg dc, if_neg (by decide)]
  by_cases dd : f_dig d = 0
  · rw [if_pos dd, go_bad (mem_tl (mem_tl (mem_tl (mem_tl (mem_tl (mem_tl (mem_tl (mem_tl (mem_tl (mem_tl (mem_tl (mem_tl (mem_tl (mem_tl (mem_tl (mem_tl (mem_tl (mem_hd (dig_bad dd)))))))))))))))))))]
  rw [if_neg dd]
  rw [if_pos (by decide)]
  by_cases df : f_dig f = 0
  · rw [if_pos df, go_bad (mem_tl (mem_tl (mem_tl (mem_hd (dig_bad df)))))]
  rw [if_neg df]
  unfold f_exp_184 f_exp_206 f_exp_218
  rw [if_neg (by decide), if_pos (by decide), e14m]
  rw [go_good da, go_good db, go_good dc, go_good df, go_good df, go_good df, go_good df, go_good df, go_good df, go_good df, go_good df, go_good df, go_good df, go_good df, go_good df, go_good df, go_good df, go_good dd, parseGo]
  apply Int64.toInt_inj.mp
  have va := dig_val da
  have vb := dig_val db
  have vc := dig_val dc
  have vd := dig_val dd
  have vf := dig_val df
  have q := val3 va vb vc
  generalize (a - (48 : Int32)).toInt64 = A at *
  generalize (b - (48 : Int32)).toInt64 = B at *
  generalize (c - (48 : Int32)).toInt64 = Cc at *
  generalize (d - (48 : Int32)).toInt64 = Dd at *
  generalize hF : (f - (48 : Int32)).toInt64 = F at *
  have s0 := step_val (w := F) q.1 rfl (by omega) (by omega) (by omega) (by omega)
  have s1 := step_val (w := F) s0 rfl (by omega) (by omega) (by omega) (by omega)
  have s2 := step_val (w := F) s1 rfl (by omega) (by omega) (by omega) (by omega)
  have s3 := step_val (w := F) s2 rfl (by omega) (by omega) (by omega) (by omega)
  have s4 := step_val (w := F) s3 rfl (by omega) (by omega) (by omega) (by omega)
  have s5 := step_val (w := F) s4 rfl (by omega) (by omega) (by omega) (by omega)
  have s6 := step_val (w := F) s5 rfl (by omega) (by omega) (by omega) (by omega)
  have s7 := step_val (w := F) s6 rfl (by omega) (by omega) (by omega) (by omega)
  have s8 := step_val (w := F) s7 rfl (by omega) (by omega) (by omega) (by omega)
  have s9 := step_val (w := F) s8 rfl (by omega) (by omega) (by omega) (by omega)
  have s10 := step_val (w := F) s9 rfl (by omega) (by omega) (by omega) (by omega)
  have s11 := step_val (w := F) s10 rfl (by omega) (by omega) (by omega) (by omega)
  have s12 := step_val (w := F) s11 rfl (by omega) (by omega) (by omega) (by omega)
  have s13 := step_val (w := F) s12 rfl (by omega) (by omega) (by omega) (by omega)
  have s14 := step_val (w := Dd) s13 rfl (by omega) (by omega) (by omega) (by omega)
  have tv := tail_val (hh := A * (100 : Int64) + B * (10 : Int64) + Cc) (p := 100000000000000) (q := 11111111111111) (f := F) (d := Dd) (Pp := 100000000000000) (Qq := 11111111111111) q.2 rfl rfl (by omega) vf vd (Or.inr (Or.inr ⟨rfl, rfl⟩))
  rw [s14, tv]; omega
theorem plain (sel a b c d f mx : Int32) : parseSpec (strCs (f_len (sel &&& (7 : Int32))) a b c d f) mx = f_exp (f_len (sel &&& (7 : Int32))) a b c d f mx := by
  have q := c_and sel (7 : Int32) (by decide)
  have e7 : (7 : Int32).toInt = 7 := rfl
  generalize sel &&& (7 : Int32) = x at q
  have hx : x = 0 ∨ x = 1 ∨ x = 2 ∨ x = 3 ∨ x = 4 ∨ x = 5 ∨ x = 6 ∨ x = 7 := by
    have e : ∀ k : Int32, x.toInt = k.toInt → x = k := fun k h => Int32.toInt_inj.mp h
    have h0 : x.toInt = 0 ∨ x.toInt = 1 ∨ x.toInt = 2 ∨ x.toInt = 3 ∨ x.toInt = 4 ∨ x.toInt = 5 ∨ x.toInt = 6 ∨ x.toInt = 7 := by omega
    rcases h0 with h | h | h | h | h | h | h | h
    · exact Or.inl (e 0 h)
    · exact Or.inr (Or.inl (e 1 h))
    · exact Or.inr (Or.inr (Or.inl (e 2 h)))
    · exact Or.inr (Or.inr (Or.inr (Or.inl (e 3 h))))
    · exact Or.inr (Or.inr (Or.inr (Or.inr (Or.inl (e 4 h)))))
    · exact Or.inr (Or.inr (Or.inr (Or.inr (Or.inr (Or.inl (e 5 h))))))
    · exact Or.inr (Or.inr (Or.inr (Or.inr (Or.inr (Or.inr (Or.inl (e 6 h)))))))
    · exact Or.inr (Or.inr (Or.inr (Or.inr (Or.inr (Or.inr (Or.inr (e 7 h)))))))
  rcases hx with rfl | rfl | rfl | rfl | rfl | rfl | rfl | rfl
  · show parseSpec (strCs 0 a b c d f) mx = f_exp 0 a b c d f mx
    rw [show strCs 0 a b c d f = [] from rfl]; unfold f_exp; rw [if_pos rfl]; rfl
  · show parseSpec (strCs 1 a b c d f) mx = f_exp 1 a b c d f mx
    rw [show strCs 1 a b c d f = [a] from rfl]; exact spec_of rfl (by decide) (by decide) rfl (go1 ..)
  · show parseSpec (strCs 2 a b c d f) mx = f_exp 2 a b c d f mx
    rw [show strCs 2 a b c d f = [a, b] from rfl]; exact spec_of rfl (by decide) (by decide) rfl (go2 ..)
  · show parseSpec (strCs 3 a b c d f) mx = f_exp 3 a b c d f mx
    rw [show strCs 3 a b c d f = [a, b, c] from rfl]; exact spec_of rfl (by decide) (by decide) rfl (go3 ..)
  · show parseSpec (strCs 4 a b c d f) mx = f_exp 4 a b c d f mx
    rw [show strCs 4 a b c d f = [a, b, c, d] from rfl]; exact spec_of rfl (by decide) (by decide) rfl (go4 ..)
  · show parseSpec (strCs 5 a b c d f) mx = f_exp 5 a b c d f mx
    rw [show strCs 5 a b c d f = [a, b, c, f, d] from rfl]; exact spec_of rfl (by decide) (by decide) rfl (go5 ..)
  · show parseSpec (strCs 18 a b c d f) mx = f_exp 18 a b c d f mx
    rw [show strCs 18 a b c d f = [a, b, c, f, f, f, f, f, f, f, f, f, f, f, f, f, f, d] from rfl]; exact spec_of rfl (by decide) (by decide) rfl (go18 ..)
  · show parseSpec (strCs 19 a b c d f) mx = f_exp 19 a b c d f mx
    have hm : f_min mx (18 : Int32) < (19 : Int32) := by
      unfold f_min
      split
      · decide
      · rename_i q
        have e18 : (18 : Int32).toInt = 18 := rfl
        have e19 : (19 : Int32).toInt = 19 := rfl
        rw [Int32.lt_iff_toInt_lt] at q ⊢; omega
    have e1 : parseSpec (strCs 19 a b c d f) mx = -1 := by
      rw [show strCs 19 a b c d f = [a, b, c, f, f, f, f, f, f, f, f, f, f, f, f, f, f, f, d] from rfl]
      have hl : [a, b, c, f, f, f, f, f, f, f, f, f, f, f, f, f, f, f, d].length = 19 := rfl
      unfold parseSpec
      rw [hl, if_neg (by decide)]
      exact if_pos hm
    rw [e1]; unfold f_exp
    rw [if_neg (by decide)]
    by_cases h : mx < (19 : Int32)
    · rw [if_pos h]
    · rw [if_neg h, if_pos (by decide)]
set_option maxRecDepth 65536 in
set_option maxHeartbeats 40000000 in
theorem rmLaw (l : Launch) (Z : State) (a0 : Array Value) (hw : ∀ d ∈ tables_1, d.before a0 Z = true) (ws : List Jvm.Cond) (i0 i1 i2 i3 i4 i5 : Int32) (h0 : Heap) (Z0 : Ext Z.heap h0) (G : Jdk Z) :
    MetW l Z consts_1 x code maxLocals ret ws room_1 #[(.int i0), (.int i1), (.int i2), (.int i3), (.int i4), (.int i5)] h0 (fun v _ => v = some (.int 1)) := by
  refine metW (by first | exact plainFor_of_name (by first | (simp [plainName, overriddenIn]; done) | decide +kernel) | decide +kernel) Z0 (Ls := #[.val (.int i0), .val (.int i1), .val (.int i2), .val (.int i3), .val (.int i4), .val (.int i5), .unset, .unset, .unset, .unset, .unset, .unset, .unset, .unset, .unset]) (fun m => by first | (simp [entryFrame, mkF, argsToLocals, Value.category, maxLocals]; done) | rfl) ?_
  intro p e s m below meth c T0 vm0 hx hby hml hret hlk hown hnm hZ N0 wd0
  have hown : (s.setVm vm0).vm.findClass "com/example/askel/askel/DecimalParsePinLaw" = some m.cls := hown
  have hret : meth.sig.returnType = some .boolean := hret
  have hml : c.maxLocals = 15 := hml
  refine Ends.go (f' := (mkF m 1 #[.val (.int i0), .val (.int i1), .val (.int i2), .val (.int i3), .val (.int i4), .val (.int i5), .unset, .unset, .unset, .unset, .unset, .unset, .unset, .unset, .unset] [(.int i0)])) (fun t k => XS.iloadN N0.here hx rfl (hb hby at_0) rfl k) ?_
  refine Ends.go (f' := (mkF m 3 #[.val (.int i0), .val (.int i1), .val (.int i2), .val (.int i3), .val (.int i4), .val (.int i5), .unset, .unset, .unset, .unset, .unset, .unset, .unset, .unset, .unset] [(.int (7 : Int32)), (.int i0)])) (fun t k => XS.bipush N0.here hx rfl (hb hby at_1) k) ?_
  refine Ends.go (f' := (mkF m 4 #[.val (.int i0), .val (.int i1), .val (.int i2), .val (.int i3), .val (.int i4), .val (.int i5), .unset, .unset, .unset, .unset, .unset, .unset, .unset, .unset, .unset] [(.int (i0 &&& (7 : Int32)))])) (fun t k => XS.iand N0.here hx rfl (hb hby at_3) rfl k) ?_
  refine gStatic (W := 0) (argsL := [(.int (i0 &&& (7 : Int32)))]) (rest := []) N0 hx hZ hown (hw _ (List.mem_of_getElem? (i := 0) rfl)) (hw _ (List.mem_of_getElem? (i := 1) rfl)) (hw _ (List.mem_of_getElem? (i := 2) rfl)) (hw _ (List.mem_of_getElem? (i := 3) rfl)) (by decide) ((rm1 l Z a0 hw (i0 &&& (7 : Int32)) h0 N0.ext).back (W := 0) hZ (hw _ (List.mem_of_getElem? (i := 3) rfl)) (hw _ (List.mem_of_getElem? (i := 2) rfl)) (nle rfl) (nle rfl)) (hb hby at_4) rfl (by rw [hml]; rfl) (lenOf (by decide +kernel : parseMethodDescriptor "(I)I" = some ⟨[.int], (some .int)⟩) rfl) (nle rfl) (nle rfl) (nle rfl) (fun _ _ _ q => q.2) ?_
  rintro _ T1 _ _ N2 ⟨⟨rfl, e_h⟩, -⟩; rw [e_h] at N2; clear e_h
  show Ends p e below _ T1 (mkF m 7 #[.val (.int i0), .val (.int i1), .val (.int i2), .val (.int i3), .val (.int i4), .val (.int i5), .unset, .unset, .unset, .unset, .unset, .unset, .unset, .unset, .unset] [(.int (f_len (i0 &&& (7 : Int32))))])
  refine Ends.go (f' := (mkF m 9 #[.val (.int i0), .val (.int i1), .val (.int i2), .val (.int i3), .val (.int i4), .val (.int i5), .val (.int (f_len (i0 &&& (7 : Int32)))), .unset, .unset, .unset, .unset, .unset, .unset, .unset, .unset] [])) (fun t k => XS.istore N2.here hx rfl (hb hby at_7) rfl (l' := #[.val (.int i0), .val (.int i1), .val (.int i2), .val (.int i3), .val (.int i4), .val (.int i5), .val (.int (f_len (i0 &&& (7 : Int32)))), .unset, .unset, .unset, .unset, .unset, .unset, .unset, .unset]) rfl k) ?_
  refine Ends.go (f' := (mkF m 10 #[.val (.int i0), .val (.int i1), .val (.int i2), .val (.int i3), .val (.int i4), .val (.int i5), .val (.int (f_len (i0 &&& (7 : Int32)))), .unset, .unset, .unset, .unset, .unset, .unset, .unset, .unset] [(.int i1)])) (fun t k => XS.iloadN N2.here hx rfl (hb hby at_9) rfl k) ?_
  refine gStatic (W := 0) (argsL := [(.int i1)]) (rest := []) N2 hx hZ hown (hw _ (List.mem_of_getElem? (i := 4) rfl)) (hw _ (List.mem_of_getElem? (i := 5) rfl)) (hw _ (List.mem_of_getElem? (i := 2) rfl)) (hw _ (List.mem_of_getElem? (i := 6) rfl)) (by decide) ((rm2 l Z a0 hw i1 h0 N2.ext).back (W := 0) hZ (hw _ (List.mem_of_getElem? (i := 6) rfl)) (hw _ (List.mem_of_getElem? (i := 2) rfl)) (nle rfl) (nle rfl)) (hb hby at_10) rfl (by rw [hml]; rfl) (lenOf (by decide +kernel : parseMethodDescriptor "(I)C" = some ⟨[.int], (some .char)⟩) rfl) (nle rfl) (nle rfl) (nle rfl) (fun _ _ _ q => q.2) ?_
  rintro _ T6 _ _ N7 ⟨⟨rfl, e_h⟩, -⟩; rw [e_h] at N7; clear e_h
  show Ends p e below _ T6 (mkF m 13 #[.val (.int i0), .val (.int i1), .val (.int i2), .val (.int i3), .val (.int i4), .val (.int i5), .val (.int (f_len (i0 &&& (7 : Int32)))), .unset, .unset, .unset, .unset, .unset, .unset, .unset, .unset] [(.int (f_draw i1))])
  refine Ends.go (f' := (mkF m 15 #[.val (.int i0), .val (.int i1), .val (.int i2), .val (.int i3), .val (.int i4), .val (.int i5), .val (.int (f_len (i0 &&& (7 : Int32)))), .val (.int (f_draw i1)), .unset, .unset, .unset, .unset, .unset, .unset, .unset] [])) (fun t k => XS.istore N7.here hx rfl (hb hby at_13) rfl (l' := #[.val (.int i0), .val (.int i1), .val (.int i2), .val (.int i3), .val (.int i4), .val (.int i5), .val (.int (f_len (i0 &&& (7 : Int32)))), .val (.int (f_draw i1)), .unset, .unset, .unset, .unset, .unset, .unset, .unset]) rfl k) ?_
  refine Ends.go (f' := (mkF m 16 #[.val (.int i0), .val (.int i1), .val (.int i2), .val (.int i3), .val (.int i4), .val (.int i5), .val (.int (f_len (i0 &&& (7 : Int32)))), .val (.int (f_draw i1)), .unset, .unset, .unset, .unset, .unset, .unset, .unset] [(.int i2)])) (fun t k => XS.iloadN N7.here hx rfl (hb hby at_15) rfl k) ?_
  refine gStatic (W := 0) (argsL := [(.int i2)]) (rest := []) N7 hx hZ hown (hw _ (List.mem_of_getElem? (i := 4) rfl)) (hw _ (List.mem_of_getElem? (i := 5) rfl)) (hw _ (List.mem_of_getElem? (i := 2) rfl)) (hw _ (List.mem_of_getElem? (i := 6) rfl)) (by decide) ((rm2 l Z a0 hw i2 h0 N7.ext).back (W := 0) hZ (hw _ (List.mem_of_getElem? (i := 6) rfl)) (hw _ (List.mem_of_getElem? (i := 2) rfl)) (nle rfl) (nle rfl)) (hb hby at_16) rfl (by rw [hml]; rfl) (lenOf (by decide +kernel : parseMethodDescriptor "(I)C" = some ⟨[.int], (some .char)⟩) rfl) (nle rfl) (nle rfl) (nle rfl) (fun _ _ _ q => q.2) ?_
  rintro _ T11 _ _ N12 ⟨⟨rfl, e_h⟩, -⟩; rw [e_h] at N12; clear e_h
  show Ends p e below _ T11 (mkF m 19 #[.val (.int i0), .val (.int i1), .val (.int i2), .val (.int i3), .val (.int i4), .val (.int i5), .val (.int (f_len (i0 &&& (7 : Int32)))), .val (.int (f_draw i1)), .unset, .unset, .unset, .unset, .unset, .unset, .unset] [(.int (f_draw i2))])
  refine Ends.go (f' := (mkF m 21 #[.val (.int i0), .val (.int i1), .val (.int i2), .val (.int i3), .val (.int i4), .val (.int i5), .val (.int (f_len (i0 &&& (7 : Int32)))), .val (.int (f_draw i1)), .val (.int (f_draw i2)), .unset, .unset, .unset, .unset, .unset, .unset] [])) (fun t k => XS.istore N12.here hx rfl (hb hby at_19) rfl (l' := #[.val (.int i0), .val (.int i1), .val (.int i2), .val (.int i3), .val (.int i4), .val (.int i5), .val (.int (f_len (i0 &&& (7 : Int32)))), .val (.int (f_draw i1)), .val (.int (f_draw i2)), .unset, .unset, .unset, .unset, .unset, .unset]) rfl k) ?_
  refine Ends.go (f' := (mkF m 22 #[.val (.int i0), .val (.int i1), .val (.int i2), .val (.int i3), .val (.int i4), .val (.int i5), .val (.int (f_len (i0 &&& (7 : Int32)))), .val (.int (f_draw i1)), .val (.int (f_draw i2)), .unset, .unset, .unset, .unset, .unset, .unset] [(.int i3)])) (fun t k => XS.iloadN N12.here hx rfl (hb hby at_21) rfl k) ?_
  refine gStatic (W := 0) (argsL := [(.int i3)]) (rest := []) N12 hx hZ hown (hw _ (List.mem_of_getElem? (i := 4) rfl)) (hw _ (List.mem_of_getElem? (i := 5) rfl)) (hw _ (List.mem_of_getElem? (i := 2) rfl)) (hw _ (List.mem_of_getElem? (i := 6) rfl)) (by decide) ((rm2 l Z a0 hw i3 h0 N12.ext).back (W := 0) hZ (hw _ (List.mem_of_getElem? (i := 6) rfl)) (hw _ (List.mem_of_getElem? (i := 2) rfl)) (nle rfl) (nle rfl)) (hb hby at_22) rfl (by rw [hml]; rfl) (lenOf (by decide +kernel : parseMethodDescriptor "(I)C" = some ⟨[.int], (some .char)⟩) rfl) (nle rfl) (nle rfl) (nle rfl) (fun _ _ _ q => q.2) ?_
  rintro _ T16 _ _ N17 ⟨⟨rfl, e_h⟩, -⟩; rw [e_h] at N17; clear e_h
  show Ends p e below _ T16 (mkF m 25 #[.val (.int i0), .val (.int i1), .val (.int i2), .val (.int i3), .val (.int i4), .val (.int i5), .val (.int (f_len (i0 &&& (7 : Int32)))), .val (.int (f_draw i1)), .val (.int (f_draw i2)), .unset, .unset, .unset, .unset, .unset, .unset] [(.int (f_draw i3))])
  refine Ends.go (f' := (mkF m 27 #[.val (.int i0), .val (.int i1), .val (.int i2), .val (.int i3), .val (.int i4), .val (.int i5), .val (.int (f_len (i0 &&& (7 : Int32)))), .val (.int (f_draw i1)), .val (.int (f_draw i2)), .val (.int (f_draw i3)), .unset, .unset, .unset, .unset, .unset] [])) (fun t k => XS.istore N17.here hx rfl (hb hby at_25) rfl (l' := #[.val (.int i0), .val (.int i1), .val (.int i2), .val (.int i3), .val (.int i4), .val (.int i5), .val (.int (f_len (i0 &&& (7 : Int32)))), .val (.int (f_draw i1)), .val (.int (f_draw i2)), .val (.int (f_draw i3)), .unset, .unset, .unset, .unset, .unset]) rfl k) ?_
  refine Ends.go (f' := (mkF m 29 #[.val (.int i0), .val (.int i1), .val (.int i2), .val (.int i3), .val (.int i4), .val (.int i5), .val (.int (f_len (i0 &&& (7 : Int32)))), .val (.int (f_draw i1)), .val (.int (f_draw i2)), .val (.int (f_draw i3)), .unset, .unset, .unset, .unset, .unset] [(.int i4)])) (fun t k => XS.iload N17.here hx rfl (hb hby at_27) rfl k) ?_
  refine gStatic (W := 0) (argsL := [(.int i4)]) (rest := []) N17 hx hZ hown (hw _ (List.mem_of_getElem? (i := 4) rfl)) (hw _ (List.mem_of_getElem? (i := 5) rfl)) (hw _ (List.mem_of_getElem? (i := 2) rfl)) (hw _ (List.mem_of_getElem? (i := 6) rfl)) (by decide) ((rm2 l Z a0 hw i4 h0 N17.ext).back (W := 0) hZ (hw _ (List.mem_of_getElem? (i := 6) rfl)) (hw _ (List.mem_of_getElem? (i := 2) rfl)) (nle rfl) (nle rfl)) (hb hby at_29) rfl (by rw [hml]; rfl) (lenOf (by decide +kernel : parseMethodDescriptor "(I)C" = some ⟨[.int], (some .char)⟩) rfl) (nle rfl) (nle rfl) (nle rfl) (fun _ _ _ q => q.2) ?_
  rintro _ T21 _ _ N22 ⟨⟨rfl, e_h⟩, -⟩; rw [e_h] at N22; clear e_h
  show Ends p e below _ T21 (mkF m 32 #[.val (.int i0), .val (.int i1), .val (.int i2), .val (.int i3), .val (.int i4), .val (.int i5), .val (.int (f_len (i0 &&& (7 : Int32)))), .val (.int (f_draw i1)), .val (.int (f_draw i2)), .val (.int (f_draw i3)), .unset, .unset, .unset, .unset, .unset] [(.int (f_draw i4))])
  refine Ends.go (f' := (mkF m 34 #[.val (.int i0), .val (.int i1), .val (.int i2), .val (.int i3), .val (.int i4), .val (.int i5), .val (.int (f_len (i0 &&& (7 : Int32)))), .val (.int (f_draw i1)), .val (.int (f_draw i2)), .val (.int (f_draw i3)), .val (.int (f_draw i4)), .unset, .unset, .unset, .unset] [])) (fun t k => XS.istore N22.here hx rfl (hb hby at_32) rfl (l' := #[.val (.int i0), .val (.int i1), .val (.int i2), .val (.int i3), .val (.int i4), .val (.int i5), .val (.int (f_len (i0 &&& (7 : Int32)))), .val (.int (f_draw i1)), .val (.int (f_draw i2)), .val (.int (f_draw i3)), .val (.int (f_draw i4)), .unset, .unset, .unset, .unset]) rfl k) ?_
  refine Ends.go (f' := (mkF m 35 #[.val (.int i0), .val (.int i1), .val (.int i2), .val (.int i3), .val (.int i4), .val (.int i5), .val (.int (f_len (i0 &&& (7 : Int32)))), .val (.int (f_draw i1)), .val (.int (f_draw i2)), .val (.int (f_draw i3)), .val (.int (f_draw i4)), .unset, .unset, .unset, .unset] [(.int i0)])) (fun t k => XS.iloadN N22.here hx rfl (hb hby at_34) rfl k) ?_
  refine Ends.go (f' := (mkF m 36 #[.val (.int i0), .val (.int i1), .val (.int i2), .val (.int i3), .val (.int i4), .val (.int i5), .val (.int (f_len (i0 &&& (7 : Int32)))), .val (.int (f_draw i1)), .val (.int (f_draw i2)), .val (.int (f_draw i3)), .val (.int (f_draw i4)), .unset, .unset, .unset, .unset] [(.int (3 : Int32)), (.int i0)])) (fun t k => XS.iconst N22.here hx rfl (hb hby at_35) k) ?_
  refine Ends.go (f' := (mkF m 37 #[.val (.int i0), .val (.int i1), .val (.int i2), .val (.int i3), .val (.int i4), .val (.int i5), .val (.int (f_len (i0 &&& (7 : Int32)))), .val (.int (f_draw i1)), .val (.int (f_draw i2)), .val (.int (f_draw i3)), .val (.int (f_draw i4)), .unset, .unset, .unset, .unset] [(.int (XT.ushr i0 (3 : Int32)))])) (fun t k => XT.iushr N22.here hx rfl (hb hby at_36) rfl k) ?_
  refine gStatic (W := 0) (argsL := [(.int (XT.ushr i0 (3 : Int32)))]) (rest := []) N22 hx hZ hown (hw _ (List.mem_of_getElem? (i := 4) rfl)) (hw _ (List.mem_of_getElem? (i := 5) rfl)) (hw _ (List.mem_of_getElem? (i := 2) rfl)) (hw _ (List.mem_of_getElem? (i := 6) rfl)) (by decide) ((rm2 l Z a0 hw (XT.ushr i0 (3 : Int32)) h0 N22.ext).back (W := 0) hZ (hw _ (List.mem_of_getElem? (i := 6) rfl)) (hw _ (List.mem_of_getElem? (i := 2) rfl)) (nle rfl) (nle rfl)) (hb hby at_37) rfl (by rw [hml]; rfl) (lenOf (by decide +kernel : parseMethodDescriptor "(I)C" = some ⟨[.int], (some .char)⟩) rfl) (nle rfl) (nle rfl) (nle rfl) (fun _ _ _ q => q.2) ?_
  rintro _ T26 _ _ N27 ⟨⟨rfl, e_h⟩, -⟩; rw [e_h] at N27; clear e_h
  show Ends p e below _ T26 (mkF m 40 #[.val (.int i0), .val (.int i1), .val (.int i2), .val (.int i3), .val (.int i4), .val (.int i5), .val (.int (f_len (i0 &&& (7 : Int32)))), .val (.int (f_draw i1)), .val (.int (f_draw i2)), .val (.int (f_draw i3)), .val (.int (f_draw i4)), .unset, .unset, .unset, .unset] [(.int (f_draw (XT.ushr i0 (3 : Int32))))])
  refine Ends.go (f' := (mkF m 42 #[.val (.int i0), .val (.int i1), .val (.int i2), .val (.int i3), .val (.int i4), .val (.int i5), .val (.int (f_len (i0 &&& (7 : Int32)))), .val (.int (f_draw i1)), .val (.int (f_draw i2)), .val (.int (f_draw i3)), .val (.int (f_draw i4)), .val (.int (f_draw (XT.ushr i0 (3 : Int32)))), .unset, .unset, .unset] [])) (fun t k => XS.istore N27.here hx rfl (hb hby at_40) rfl (l' := #[.val (.int i0), .val (.int i1), .val (.int i2), .val (.int i3), .val (.int i4), .val (.int i5), .val (.int (f_len (i0 &&& (7 : Int32)))), .val (.int (f_draw i1)), .val (.int (f_draw i2)), .val (.int (f_draw i3)), .val (.int (f_draw i4)), .val (.int (f_draw (XT.ushr i0 (3 : Int32)))), .unset, .unset, .unset]) rfl k) ?_
  refine Ends.go (f' := (mkF m 44 #[.val (.int i0), .val (.int i1), .val (.int i2), .val (.int i3), .val (.int i4), .val (.int i5), .val (.int (f_len (i0 &&& (7 : Int32)))), .val (.int (f_draw i1)), .val (.int (f_draw i2)), .val (.int (f_draw i3)), .val (.int (f_draw i4)), .val (.int (f_draw (XT.ushr i0 (3 : Int32)))), .unset, .unset, .unset] [(.int (f_len (i0 &&& (7 : Int32))))])) (fun t k => XS.iload N27.here hx rfl (hb hby at_42) rfl k) ?_
  refine Ends.go (f' := (mkF m 46 #[.val (.int i0), .val (.int i1), .val (.int i2), .val (.int i3), .val (.int i4), .val (.int i5), .val (.int (f_len (i0 &&& (7 : Int32)))), .val (.int (f_draw i1)), .val (.int (f_draw i2)), .val (.int (f_draw i3)), .val (.int (f_draw i4)), .val (.int (f_draw (XT.ushr i0 (3 : Int32)))), .unset, .unset, .unset] [(.int (f_draw i1)), (.int (f_len (i0 &&& (7 : Int32))))])) (fun t k => XS.iload N27.here hx rfl (hb hby at_44) rfl k) ?_
  refine Ends.go (f' := (mkF m 48 #[.val (.int i0), .val (.int i1), .val (.int i2), .val (.int i3), .val (.int i4), .val (.int i5), .val (.int (f_len (i0 &&& (7 : Int32)))), .val (.int (f_draw i1)), .val (.int (f_draw i2)), .val (.int (f_draw i3)), .val (.int (f_draw i4)), .val (.int (f_draw (XT.ushr i0 (3 : Int32)))), .unset, .unset, .unset] [(.int (f_draw i2)), (.int (f_draw i1)), (.int (f_len (i0 &&& (7 : Int32))))])) (fun t k => XS.iload N27.here hx rfl (hb hby at_46) rfl k) ?_
  refine Ends.go (f' := (mkF m 50 #[.val (.int i0), .val (.int i1), .val (.int i2), .val (.int i3), .val (.int i4), .val (.int i5), .val (.int (f_len (i0 &&& (7 : Int32)))), .val (.int (f_draw i1)), .val (.int (f_draw i2)), .val (.int (f_draw i3)), .val (.int (f_draw i4)), .val (.int (f_draw (XT.ushr i0 (3 : Int32)))), .unset, .unset, .unset] [(.int (f_draw i3)), (.int (f_draw i2)), (.int (f_draw i1)), (.int (f_len (i0 &&& (7 : Int32))))])) (fun t k => XS.iload N27.here hx rfl (hb hby at_48) rfl k) ?_
  refine Ends.go (f' := (mkF m 52 #[.val (.int i0), .val (.int i1), .val (.int i2), .val (.int i3), .val (.int i4), .val (.int i5), .val (.int (f_len (i0 &&& (7 : Int32)))), .val (.int (f_draw i1)), .val (.int (f_draw i2)), .val (.int (f_draw i3)), .val (.int (f_draw i4)), .val (.int (f_draw (XT.ushr i0 (3 : Int32)))), .unset, .unset, .unset] [(.int (f_draw i4)), (.int (f_draw i3)), (.int (f_draw i2)), (.int (f_draw i1)), (.int (f_len (i0 &&& (7 : Int32))))])) (fun t k => XS.iload N27.here hx rfl (hb hby at_50) rfl k) ?_
  refine Ends.go (f' := (mkF m 54 #[.val (.int i0), .val (.int i1), .val (.int i2), .val (.int i3), .val (.int i4), .val (.int i5), .val (.int (f_len (i0 &&& (7 : Int32)))), .val (.int (f_draw i1)), .val (.int (f_draw i2)), .val (.int (f_draw i3)), .val (.int (f_draw i4)), .val (.int (f_draw (XT.ushr i0 (3 : Int32)))), .unset, .unset, .unset] [(.int (f_draw (XT.ushr i0 (3 : Int32)))), (.int (f_draw i4)), (.int (f_draw i3)), (.int (f_draw i2)), (.int (f_draw i1)), (.int (f_len (i0 &&& (7 : Int32))))])) (fun t k => XS.iload N27.here hx rfl (hb hby at_52) rfl k) ?_
  refine gStaticW (W := 0) (argsL := [(.int (f_len (i0 &&& (7 : Int32)))), (.int (f_draw i1)), (.int (f_draw i2)), (.int (f_draw i3)), (.int (f_draw i4)), (.int (f_draw (XT.ushr i0 (3 : Int32))))]) (rest := []) N27 hx hZ hown wd0 (hw _ (List.mem_of_getElem? (i := 7) rfl)) (hw _ (List.mem_of_getElem? (i := 8) rfl)) (hw _ (List.mem_of_getElem? (i := 2) rfl)) (hw _ (List.mem_of_getElem? (i := 9) rfl)) (by decide) ((rmStr l Z a0 hw (f_len (i0 &&& (7 : Int32))) (f_draw i1) (f_draw i2) (f_draw i3) (f_draw i4) (f_draw (XT.ushr i0 (3 : Int32))) h0 N27.ext G (nar_draw _) (draw_ok _) (nar_draw _) (draw_ok _) (nar_draw _) (draw_ok _) (nar_draw _) (draw_ok _) (nar_draw _) (draw_ok _)).back (W := 0) hZ (hw _ (List.mem_of_getElem? (i := 9) rfl)) (hw _ (List.mem_of_getElem? (i := 2) rfl)) (nle rfl) (nle rfl) (elw hw) wd0) (hb hby at_54) rfl (by rw [hml]; rfl) (lenOf (by decide +kernel : parseMethodDescriptor "(ICCCCC)Ljava/lang/String;" = some ⟨[.int, .char, .char, .char, .char, .char], (some (.object "java/lang/String"))⟩) rfl) (nle rfl) (nle rfl) (nle rfl) (fun _ _ _ q => q.2) ?_
  rintro _ vm31 T32 h33 L36 N34 ⟨⟨sa, rfl, eE, Sx⟩, -⟩ hZ hown wd35
  show Ends p e below _ T32 (mkF m 57 #[.val (.int i0), .val (.int i1), .val (.int i2), .val (.int i3), .val (.int i4), .val (.int i5), .val (.int (f_len (i0 &&& (7 : Int32)))), .val (.int (f_draw i1)), .val (.int (f_draw i2)), .val (.int (f_draw i3)), .val (.int (f_draw i4)), .val (.int (f_draw (XT.ushr i0 (3 : Int32)))), .unset, .unset, .unset] [(.ref sa)])
  refine Ends.go (f' := (mkF m 59 #[.val (.int i0), .val (.int i1), .val (.int i2), .val (.int i3), .val (.int i4), .val (.int i5), .val (.int (f_len (i0 &&& (7 : Int32)))), .val (.int (f_draw i1)), .val (.int (f_draw i2)), .val (.int (f_draw i3)), .val (.int (f_draw i4)), .val (.int (f_draw (XT.ushr i0 (3 : Int32)))), .val (.ref sa), .unset, .unset] [])) (fun t k => XS.astore N34.here hx rfl (hb hby at_57) rfl rfl (l' := #[.val (.int i0), .val (.int i1), .val (.int i2), .val (.int i3), .val (.int i4), .val (.int i5), .val (.int (f_len (i0 &&& (7 : Int32)))), .val (.int (f_draw i1)), .val (.int (f_draw i2)), .val (.int (f_draw i3)), .val (.int (f_draw i4)), .val (.int (f_draw (XT.ushr i0 (3 : Int32)))), .val (.ref sa), .unset, .unset]) rfl k) ?_
  refine Ends.go (f' := (mkF m 61 #[.val (.int i0), .val (.int i1), .val (.int i2), .val (.int i3), .val (.int i4), .val (.int i5), .val (.int (f_len (i0 &&& (7 : Int32)))), .val (.int (f_draw i1)), .val (.int (f_draw i2)), .val (.int (f_draw i3)), .val (.int (f_draw i4)), .val (.int (f_draw (XT.ushr i0 (3 : Int32)))), .val (.ref sa), .unset, .unset] [(.ref sa)])) (fun t k => XS.aload N34.here hx rfl (hb hby at_59) rfl rfl k) ?_
  refine Ends.go (f' := (mkF m 63 #[.val (.int i0), .val (.int i1), .val (.int i2), .val (.int i3), .val (.int i4), .val (.int i5), .val (.int (f_len (i0 &&& (7 : Int32)))), .val (.int (f_draw i1)), .val (.int (f_draw i2)), .val (.int (f_draw i3)), .val (.int (f_draw i4)), .val (.int (f_draw (XT.ushr i0 (3 : Int32)))), .val (.ref sa), .unset, .unset] [(.int i5), (.ref sa)])) (fun t k => XS.iload N34.here hx rfl (hb hby at_61) rfl k) ?_
  refine gStatic (W := 0) (argsL := [(.ref sa), (.int i5)]) (rest := []) N34 hx hZ hown (hw _ (List.mem_of_getElem? (i := 32) rfl)) (hw _ (List.mem_of_getElem? (i := 33) rfl)) (hw _ (List.mem_of_getElem? (i := 34) rfl)) (hw _ (List.mem_of_getElem? (i := 35) rfl)) (by decide) ((rm7 l Z a0 hw sa i5 (strCs (f_len (i0 &&& (7 : Int32))) (f_draw i1) (f_draw i2) (f_draw i3) (f_draw i4) (f_draw (XT.ushr i0 (3 : Int32)))) h33 N34.ext G Sx).back (W := 0) hZ (hw _ (List.mem_of_getElem? (i := 35) rfl)) (hw _ (List.mem_of_getElem? (i := 34) rfl)) (nle rfl) (nle rfl)) (hb hby at_63) rfl (by rw [hml]; rfl) (lenOf (by decide +kernel : parseMethodDescriptor "(Ljava/lang/CharSequence;I)J" = some ⟨[(.object "java/lang/CharSequence"), .int], (some .long)⟩) rfl) (nle rfl) (nle rfl) (nle rfl) (fun _ _ _ q => q.2) ?_
  rintro _ T37 _ _ N38 ⟨⟨rfl, e_h⟩, -⟩; rw [e_h] at N38; clear e_h
  show Ends p e below _ T37 (mkF m 66 #[.val (.int i0), .val (.int i1), .val (.int i2), .val (.int i3), .val (.int i4), .val (.int i5), .val (.int (f_len (i0 &&& (7 : Int32)))), .val (.int (f_draw i1)), .val (.int (f_draw i2)), .val (.int (f_draw i3)), .val (.int (f_draw i4)), .val (.int (f_draw (XT.ushr i0 (3 : Int32)))), .val (.ref sa), .unset, .unset] [(.long (parseSpec (strCs (f_len (i0 &&& (7 : Int32))) (f_draw i1) (f_draw i2) (f_draw i3) (f_draw i4) (f_draw (XT.ushr i0 (3 : Int32)))) i5))])
  refine Ends.go (f' := (mkF m 68 #[.val (.int i0), .val (.int i1), .val (.int i2), .val (.int i3), .val (.int i4), .val (.int i5), .val (.int (f_len (i0 &&& (7 : Int32)))), .val (.int (f_draw i1)), .val (.int (f_draw i2)), .val (.int (f_draw i3)), .val (.int (f_draw i4)), .val (.int (f_draw (XT.ushr i0 (3 : Int32)))), .val (.ref sa), .val (.long (parseSpec (strCs (f_len (i0 &&& (7 : Int32))) (f_draw i1) (f_draw i2) (f_draw i3) (f_draw i4) (f_draw (XT.ushr i0 (3 : Int32)))) i5)), .second] [])) (fun t k => XT.lstore N38.here hx rfl (hb hby at_66) rfl (l' := #[.val (.int i0), .val (.int i1), .val (.int i2), .val (.int i3), .val (.int i4), .val (.int i5), .val (.int (f_len (i0 &&& (7 : Int32)))), .val (.int (f_draw i1)), .val (.int (f_draw i2)), .val (.int (f_draw i3)), .val (.int (f_draw i4)), .val (.int (f_draw (XT.ushr i0 (3 : Int32)))), .val (.ref sa), .val (.long (parseSpec (strCs (f_len (i0 &&& (7 : Int32))) (f_draw i1) (f_draw i2) (f_draw i3) (f_draw i4) (f_draw (XT.ushr i0 (3 : Int32)))) i5)), .second]) rfl k) ?_
  refine Ends.go (f' := (mkF m 70 #[.val (.int i0), .val (.int i1), .val (.int i2), .val (.int i3), .val (.int i4), .val (.int i5), .val (.int (f_len (i0 &&& (7 : Int32)))), .val (.int (f_draw i1)), .val (.int (f_draw i2)), .val (.int (f_draw i3)), .val (.int (f_draw i4)), .val (.int (f_draw (XT.ushr i0 (3 : Int32)))), .val (.ref sa), .val (.long (parseSpec (strCs (f_len (i0 &&& (7 : Int32))) (f_draw i1) (f_draw i2) (f_draw i3) (f_draw i4) (f_draw (XT.ushr i0 (3 : Int32)))) i5)), .second] [(.long (parseSpec (strCs (f_len (i0 &&& (7 : Int32))) (f_draw i1) (f_draw i2) (f_draw i3) (f_draw i4) (f_draw (XT.ushr i0 (3 : Int32)))) i5))])) (fun t k => XT.lload N38.here hx rfl (hb hby at_68) rfl k) ?_
  refine Ends.go (f' := (mkF m 72 #[.val (.int i0), .val (.int i1), .val (.int i2), .val (.int i3), .val (.int i4), .val (.int i5), .val (.int (f_len (i0 &&& (7 : Int32)))), .val (.int (f_draw i1)), .val (.int (f_draw i2)), .val (.int (f_draw i3)), .val (.int (f_draw i4)), .val (.int (f_draw (XT.ushr i0 (3 : Int32)))), .val (.ref sa), .val (.long (parseSpec (strCs (f_len (i0 &&& (7 : Int32))) (f_draw i1) (f_draw i2) (f_draw i3) (f_draw i4) (f_draw (XT.ushr i0 (3 : Int32)))) i5)), .second] [(.int (f_len (i0 &&& (7 : Int32)))), (.long (parseSpec (strCs (f_len (i0 &&& (7 : Int32))) (f_draw i1) (f_draw i2) (f_draw i3) (f_draw i4) (f_draw (XT.ushr i0 (3 : Int32)))) i5))])) (fun t k => XS.iload N38.here hx rfl (hb hby at_70) rfl k) ?_
  refine Ends.go (f' := (mkF m 74 #[.val (.int i0), .val (.int i1), .val (.int i2), .val (.int i3), .val (.int i4), .val (.int i5), .val (.int (f_len (i0 &&& (7 : Int32)))), .val (.int (f_draw i1)), .val (.int (f_draw i2)), .val (.int (f_draw i3)), .val (.int (f_draw i4)), .val (.int (f_draw (XT.ushr i0 (3 : Int32)))), .val (.ref sa), .val (.long (parseSpec (strCs (f_len (i0 &&& (7 : Int32))) (f_draw i1) (f_draw i2) (f_draw i3) (f_draw i4) (f_draw (XT.ushr i0 (3 : Int32)))) i5)), .second] [(.int (f_draw i1)), (.int (f_len (i0 &&& (7 : Int32)))), (.long (parseSpec (strCs (f_len (i0 &&& (7 : Int32))) (f_draw i1) (f_draw i2) (f_draw i3) (f_draw i4) (f_draw (XT.ushr i0 (3 : Int32)))) i5))])) (fun t k => XS.iload N38.here hx rfl (hb hby at_72) rfl k) ?_
  refine Ends.go (f' := (mkF m 76 #[.val (.int i0), .val (.int i1), .val (.int i2), .val (.int i3), .val (.int i4), .val (.int i5), .val (.int (f_len (i0 &&& (7 : Int32)))), .val (.int (f_draw i1)), .val (.int (f_draw i2)), .val (.int (f_draw i3)), .val (.int (f_draw i4)), .val (.int (f_draw (XT.ushr i0 (3 : Int32)))), .val (.ref sa), .val (.long (parseSpec (strCs (f_len (i0 &&& (7 : Int32))) (f_draw i1) (f_draw i2) (f_draw i3) (f_draw i4) (f_draw (XT.ushr i0 (3 : Int32)))) i5)), .second] [(.int (f_draw i2)), (.int (f_draw i1)), (.int (f_len (i0 &&& (7 : Int32)))), (.long (parseSpec (strCs (f_len (i0 &&& (7 : Int32))) (f_draw i1) (f_draw i2) (f_draw i3) (f_draw i4) (f_draw (XT.ushr i0 (3 : Int32)))) i5))])) (fun t k => XS.iload N38.here hx rfl (hb hby at_74) rfl k) ?_
  refine Ends.go (f' := (mkF m 78 #[.val (.int i0), .val (.int i1), .val (.int i2), .val (.int i3), .val (.int i4), .val (.int i5), .val (.int (f_len (i0 &&& (7 : Int32)))), .val (.int (f_draw i1)), .val (.int (f_draw i2)), .val (.int (f_draw i3)), .val (.int (f_draw i4)), .val (.int (f_draw (XT.ushr i0 (3 : Int32)))), .val (.ref sa), .val (.long (parseSpec (strCs (f_len (i0 &&& (7 : Int32))) (f_draw i1) (f_draw i2) (f_draw i3) (f_draw i4) (f_draw (XT.ushr i0 (3 : Int32)))) i5)), .second] [(.int (f_draw i3)), (.int (f_draw i2)), (.int (f_draw i1)), (.int (f_len (i0 &&& (7 : Int32)))), (.long (parseSpec (strCs (f_len (i0 &&& (7 : Int32))) (f_draw i1) (f_draw i2) (f_draw i3) (f_draw i4) (f_draw (XT.ushr i0 (3 : Int32)))) i5))])) (fun t k => XS.iload N38.here hx rfl (hb hby at_76) rfl k) ?_
  refine Ends.go (f' := (mkF m 80 #[.val (.int i0), .val (.int i1), .val (.int i2), .val (.int i3), .val (.int i4), .val (.int i5), .val (.int (f_len (i0 &&& (7 : Int32)))), .val (.int (f_draw i1)), .val (.int (f_draw i2)), .val (.int (f_draw i3)), .val (.int (f_draw i4)), .val (.int (f_draw (XT.ushr i0 (3 : Int32)))), .val (.ref sa), .val (.long (parseSpec (strCs (f_len (i0 &&& (7 : Int32))) (f_draw i1) (f_draw i2) (f_draw i3) (f_draw i4) (f_draw (XT.ushr i0 (3 : Int32)))) i5)), .second] [(.int (f_draw i4)), (.int (f_draw i3)), (.int (f_draw i2)), (.int (f_draw i1)), (.int (f_len (i0 &&& (7 : Int32)))), (.long (parseSpec (strCs (f_len (i0 &&& (7 : Int32))) (f_draw i1) (f_draw i2) (f_draw i3) (f_draw i4) (f_draw (XT.ushr i0 (3 : Int32)))) i5))])) (fun t k => XS.iload N38.here hx rfl (hb hby at_78) rfl k) ?_
  refine Ends.go (f' := (mkF m 82 #[.val (.int i0), .val (.int i1), .val (.int i2), .val (.int i3), .val (.int i4), .val (.int i5), .val (.int (f_len (i0 &&& (7 : Int32)))), .val (.int (f_draw i1)), .val (.int (f_draw i2)), .val (.int (f_draw i3)), .val (.int (f_draw i4)), .val (.int (f_draw (XT.ushr i0 (3 : Int32)))), .val (.ref sa), .val (.long (parseSpec (strCs (f_len (i0 &&& (7 : Int32))) (f_draw i1) (f_draw i2) (f_draw i3) (f_draw i4) (f_draw (XT.ushr i0 (3 : Int32)))) i5)), .second] [(.int (f_draw (XT.ushr i0 (3 : Int32)))), (.int (f_draw i4)), (.int (f_draw i3)), (.int (f_draw i2)), (.int (f_draw i1)), (.int (f_len (i0 &&& (7 : Int32)))), (.long (parseSpec (strCs (f_len (i0 &&& (7 : Int32))) (f_draw i1) (f_draw i2) (f_draw i3) (f_draw i4) (f_draw (XT.ushr i0 (3 : Int32)))) i5))])) (fun t k => XS.iload N38.here hx rfl (hb hby at_80) rfl k) ?_
  refine Ends.go (f' := (mkF m 84 #[.val (.int i0), .val (.int i1), .val (.int i2), .val (.int i3), .val (.int i4), .val (.int i5), .val (.int (f_len (i0 &&& (7 : Int32)))), .val (.int (f_draw i1)), .val (.int (f_draw i2)), .val (.int (f_draw i3)), .val (.int (f_draw i4)), .val (.int (f_draw (XT.ushr i0 (3 : Int32)))), .val (.ref sa), .val (.long (parseSpec (strCs (f_len (i0 &&& (7 : Int32))) (f_draw i1) (f_draw i2) (f_draw i3) (f_draw i4) (f_draw (XT.ushr i0 (3 : Int32)))) i5)), .second] [(.int i5), (.int (f_draw (XT.ushr i0 (3 : Int32)))), (.int (f_draw i4)), (.int (f_draw i3)), (.int (f_draw i2)), (.int (f_draw i1)), (.int (f_len (i0 &&& (7 : Int32)))), (.long (parseSpec (strCs (f_len (i0 &&& (7 : Int32))) (f_draw i1) (f_draw i2) (f_draw i3) (f_draw i4) (f_draw (XT.ushr i0 (3 : Int32)))) i5))])) (fun t k => XS.iload N38.here hx rfl (hb hby at_82) rfl k) ?_
  refine gStatic (W := 2) (argsL := [(.int (f_len (i0 &&& (7 : Int32)))), (.int (f_draw i1)), (.int (f_draw i2)), (.int (f_draw i3)), (.int (f_draw i4)), (.int (f_draw (XT.ushr i0 (3 : Int32)))), (.int i5)]) (rest := [(.long (parseSpec (strCs (f_len (i0 &&& (7 : Int32))) (f_draw i1) (f_draw i2) (f_draw i3) (f_draw i4) (f_draw (XT.ushr i0 (3 : Int32)))) i5))]) N38 hx hZ hown (hw _ (List.mem_of_getElem? (i := 52) rfl)) (hw _ (List.mem_of_getElem? (i := 53) rfl)) (hw _ (List.mem_of_getElem? (i := 2) rfl)) (hw _ (List.mem_of_getElem? (i := 54) rfl)) (by decide) ((rm10 l Z a0 hw (f_len (i0 &&& (7 : Int32))) (f_draw i1) (f_draw i2) (f_draw i3) (f_draw i4) (f_draw (XT.ushr i0 (3 : Int32))) i5 h33 N38.ext).back (W := 2) hZ (hw _ (List.mem_of_getElem? (i := 54) rfl)) (hw _ (List.mem_of_getElem? (i := 2) rfl)) (nle rfl) (nle rfl)) (hb hby at_84) rfl (by rw [hml]; rfl) (lenOf (by decide +kernel : parseMethodDescriptor "(ICCCCCI)J" = some ⟨[.int, .char, .char, .char, .char, .char, .int], (some .long)⟩) rfl) (nle rfl) (nle rfl) (nle rfl) (fun _ _ _ q => q.2) ?_
  rintro _ T39 _ _ N40 ⟨⟨rfl, e_h⟩, -⟩; rw [e_h] at N40; clear e_h
  show Ends p e below _ T39 (mkF m 87 #[.val (.int i0), .val (.int i1), .val (.int i2), .val (.int i3), .val (.int i4), .val (.int i5), .val (.int (f_len (i0 &&& (7 : Int32)))), .val (.int (f_draw i1)), .val (.int (f_draw i2)), .val (.int (f_draw i3)), .val (.int (f_draw i4)), .val (.int (f_draw (XT.ushr i0 (3 : Int32)))), .val (.ref sa), .val (.long (parseSpec (strCs (f_len (i0 &&& (7 : Int32))) (f_draw i1) (f_draw i2) (f_draw i3) (f_draw i4) (f_draw (XT.ushr i0 (3 : Int32)))) i5)), .second] [(.long (f_exp (f_len (i0 &&& (7 : Int32))) (f_draw i1) (f_draw i2) (f_draw i3) (f_draw i4) (f_draw (XT.ushr i0 (3 : Int32))) i5)), (.long (parseSpec (strCs (f_len (i0 &&& (7 : Int32))) (f_draw i1) (f_draw i2) (f_draw i3) (f_draw i4) (f_draw (XT.ushr i0 (3 : Int32)))) i5))])
  refine Ends.go (f' := (mkF m 88 #[.val (.int i0), .val (.int i1), .val (.int i2), .val (.int i3), .val (.int i4), .val (.int i5), .val (.int (f_len (i0 &&& (7 : Int32)))), .val (.int (f_draw i1)), .val (.int (f_draw i2)), .val (.int (f_draw i3)), .val (.int (f_draw i4)), .val (.int (f_draw (XT.ushr i0 (3 : Int32)))), .val (.ref sa), .val (.long (parseSpec (strCs (f_len (i0 &&& (7 : Int32))) (f_draw i1) (f_draw i2) (f_draw i3) (f_draw i4) (f_draw (XT.ushr i0 (3 : Int32)))) i5)), .second] [(.int (XT.cmpL (parseSpec (strCs (f_len (i0 &&& (7 : Int32))) (f_draw i1) (f_draw i2) (f_draw i3) (f_draw i4) (f_draw (XT.ushr i0 (3 : Int32)))) i5) (f_exp (f_len (i0 &&& (7 : Int32))) (f_draw i1) (f_draw i2) (f_draw i3) (f_draw i4) (f_draw (XT.ushr i0 (3 : Int32))) i5)))])) (fun t k => XT.lcmp N40.here hx rfl (hb hby at_87) rfl k) ?_
  refine Ends.go (f' := (mkF m 91 #[.val (.int i0), .val (.int i1), .val (.int i2), .val (.int i3), .val (.int i4), .val (.int i5), .val (.int (f_len (i0 &&& (7 : Int32)))), .val (.int (f_draw i1)), .val (.int (f_draw i2)), .val (.int (f_draw i3)), .val (.int (f_draw i4)), .val (.int (f_draw (XT.ushr i0 (3 : Int32)))), .val (.ref sa), .val (.long (parseSpec (strCs (f_len (i0 &&& (7 : Int32))) (f_draw i1) (f_draw i2) (f_draw i3) (f_draw i4) (f_draw (XT.ushr i0 (3 : Int32)))) i5)), .second] [])) (fun t k => XS.ifNo N40.here hx rfl (hb hby at_88) rfl (XT.ll_ne_f (plain i0 _ _ _ _ _ i5)) k) ?_
  refine Ends.go (f' := (mkF m 92 #[.val (.int i0), .val (.int i1), .val (.int i2), .val (.int i3), .val (.int i4), .val (.int i5), .val (.int (f_len (i0 &&& (7 : Int32)))), .val (.int (f_draw i1)), .val (.int (f_draw i2)), .val (.int (f_draw i3)), .val (.int (f_draw i4)), .val (.int (f_draw (XT.ushr i0 (3 : Int32)))), .val (.ref sa), .val (.long (parseSpec (strCs (f_len (i0 &&& (7 : Int32))) (f_draw i1) (f_draw i2) (f_draw i3) (f_draw i4) (f_draw (XT.ushr i0 (3 : Int32)))) i5)), .second] [(.int (1 : Int32))])) (fun t k => XS.iconst N40.here hx rfl (hb hby at_91) k) ?_
  refine Ends.go (f' := (mkF m 96 #[.val (.int i0), .val (.int i1), .val (.int i2), .val (.int i3), .val (.int i4), .val (.int i5), .val (.int (f_len (i0 &&& (7 : Int32)))), .val (.int (f_draw i1)), .val (.int (f_draw i2)), .val (.int (f_draw i3)), .val (.int (f_draw i4)), .val (.int (f_draw (XT.ushr i0 (3 : Int32)))), .val (.ref sa), .val (.long (parseSpec (strCs (f_len (i0 &&& (7 : Int32))) (f_draw i1) (f_draw i2) (f_draw i3) (f_draw i4) (f_draw (XT.ushr i0 (3 : Int32)))) i5)), .second] [(.int (1 : Int32))])) (fun t k => XS.goto N40.here hx rfl (pc0 := 92) (pc' := 96) rfl (hb hby at_92) (by decide) (by decide) k) ?_
  exact retZW N40 hZ (elw hw) wd35 hx hlk hret (by simp) (hb hby at_96) rfl (nle rfl) (nle rfl)
set_option maxRecDepth 65536 in
set_option maxHeartbeats 40000000 in
theorem comes_1 {Post : Tables → Env → Array Value → State → Outcome → State → Prop} (hpost : ∀ tb e args s v u, (limb_1_1.after args s (.returned v) u = true ∧ limb_1_2.after args s (.returned v) u = true ∧ True) → ReturnedEndW s (.returned v) u (Jvm.fieldLocs frame_1_writes args s ++ Jvm.arrayLocs frame_1_arrays args s ++ Jvm.staticLocs frame_1_statics s) 16 1216 → Post tb e args s (.returned v) u) :
    ArmFor flags0 classFile x code maxLocals ret World_1 tables_1 room_1 Calls_1 rest_1 Pre_1 Post := by
  intro l hfl _ _ p e ha hc hk s m args below hf hA hF happ hP
  obtain ⟨hcalls, hrest, hpre⟩ := hP
  obtain ⟨-, -, -, hnamed, -, -, -, hat⟩ := (Spec.applies_iff hf).mp happ
  obtain ⟨hg, hn⟩ := and_e (Cond.before_iff.mp (show (Jvm.Cond.and given_1 narrow_1).before args s = true from hpre))
  obtain ⟨hct, hg0⟩ := and_e hg
  obtain ⟨ha0, hg1⟩ := and_e hg0
  obtain ⟨ha1, hg2⟩ := and_e hg1
  obtain ⟨ha2, hg3⟩ := and_e hg2
  obtain ⟨ha3, hg4⟩ := and_e hg3
  obtain ⟨ha4, hg5⟩ := and_e hg4
  obtain ⟨w0, w1, w2, w3, w4, w5, rfl⟩ : ∃ w0 w1 w2 w3 w4 w5 : Value, args = #[w0, w1, w2, w3, w4, w5] := by
    have hs : args.size = 6 := by simpa [Cond.value, given_1] using hct
    obtain ⟨L⟩ := args
    match L, hs with
    | [w0, w1, w2, w3, w4, w5], _ => exact ⟨w0, w1, w2, w3, w4, w5, rfl⟩
  have hw := fun d (hd : d ∈ tables_1) => atoms_spec (ws := Jvm.Cond.code x code maxLocals ret :: tables_1) hat d (List.mem_cons_of_mem _ hd)
  obtain ⟨hsets, hown0⟩ := atoms_of _ (rest_1_c_eq ▸ (show rest_1_c.before _ s = true from hrest))
  have hfit : Fit s := fun {y c} hc i hi => by
    obtain ⟨ha, rfl⟩ := Array.getElem?_eq_some_iff.mp hc
    have q := List.all_eq_true.mp ((Array.all_eq_true_iff_forall_mem.mp hF) _ (Array.getElem_mem ha)) i (List.mem_range.mpr hi)
    simpa [Array.getElem?_eq_getElem hi] using q
  obtain ⟨i0, ei0⟩ := is_v ha0
  obtain rfl : w0 = (.int i0) := Option.some.inj ei0
  obtain ⟨i1, ei1⟩ := is_v ha1
  obtain rfl : w1 = (.int i1) := Option.some.inj ei1
  obtain ⟨i2, ei2⟩ := is_v ha2
  obtain rfl : w2 = (.int i2) := Option.some.inj ei2
  obtain ⟨i3, ei3⟩ := is_v ha3
  obtain rfl : w3 = (.int i3) := Option.some.inj ei3
  obtain ⟨i4, ei4⟩ := is_v ha4
  obtain rfl : w4 = (.int i4) := Option.some.inj ei4
  obtain ⟨i5, ei5⟩ := is_v hg5
  obtain rfl : w5 = (.int i5) := Option.some.inj ei5
  have nz := not_v (Cond.before_iff.mp (hsets _ (List.mem_of_getElem? (i := 2) rfl)))
  obtain ⟨zc, ezc⟩ := is_v (Cond.before_iff.mp (hsets _ (List.mem_of_getElem? (i := 1) rfl)))
  have Sc : Sta s s.heap "java/lang/String" "COMPACT_STRINGS" "Z" (.int zc) := Sta.start ezc (Or.inl (hsets _ (List.mem_of_getElem? (i := 0) rfl)))
  obtain ⟨fm, efm, rfm⟩ := isR_v (Cond.before_iff.mp (hsets _ (List.mem_of_getElem? (i := 8) rfl)))
  have Sf : Sta s s.heap "jdk/internal/util/Preconditions" "SIOOBE_FORMATTER" "Ljava/util/function/BiFunction;" fm := Sta.start efm (Or.inl (hsets _ (List.mem_of_getElem? (i := 7) rfl)))
  have hz : ¬ (zc = (0 : Int32)) := gotF (Cond.eq_ints ezc (Term.int_eval (0))) nz
  have G : Jdk s := ⟨⟨zc, Sc, hz⟩, fm, Sf, rfm⟩
  have wd : CHv s consts_1 s.vm s.heap := CHv.start (elw hw) (fun q hq => hcalls.1 q hq) (hsets _ (List.mem_of_getElem? (i := 2) rfl)) (hw _ (List.mem_of_getElem? (i := 25) rfl)) (hw _ (List.mem_of_getElem? (i := 11) rfl))
  obtain ⟨n, o, h1, h2, h3, _, L, rfl, ⟨rfl, N⟩, hq⟩ := rmLaw l s _ hw tables_1 i0 i1 i2 i3 i4 i5 s.heap (ext_refl _) G p e ha hc hk s m _ below hf ((Spec.applies_iff_loose hf).mp happ).1 ⟨rfl, State.Warmed39.refl s, rfl, wd⟩ trivial
  refine ⟨n, _, h1, h2, h3, hpost _ _ _ _ _ _ ⟨Cond.after_iff.mpr rfl, Cond.after_iff.mpr (eq_i res_at (Term.int_eval (1)) rfl), trivial⟩ ⟨hq.2.1, hq.2.2.1, hq.2.2.2.1, (hq.2.2.2.2.sift fun y hy => Or.inr (N y hy)).mono (by decide) (by decide)⟩⟩
theorem main_1_1 : Claimed_1_1 := comes_1 fun _ _ _ _ _ _ h hF => ⟨h.1, hF⟩
theorem main_1_2 : Claimed_1_2 := comes_1 fun _ _ _ _ _ _ h hF => ⟨h.2.1, hF⟩
end Jvm.Pilot.@@N@@
namespace Jvm.Pilot.@@N@@
open Jvm Jvm.ClassFile Sem Op Lib Jvm.Free Jvm.Stand Jvm.Pilot.@@N@@.Jvm.D
/-! MADE BY PROGRAM (witnessworld.py) out of the Statement's table words and the real class files: 21 classes; the members and pool entries that the words name. The judged class is class 1, her method 6. -/
namespace start1
open Jvm.ClassFile
def u (s : String) : CpInfo := .utf8 (stringToUtf16 s)
/-- a pool by its gaps: so many unusable entries, then the entry; so many at the end -/
def gap : Nat → List CpInfo → List CpInfo
  | 0, r => r
  | n + 1, r => .unusable :: gap n r
def poolList (es : List (Nat × CpInfo)) (last : Nat) : List CpInfo := es.foldr (fun e r => gap e.1 (e.2 :: r)) (gap last [])
def pool (es : List (Nat × CpInfo)) (last : Nat) : Array CpInfo := ⟨poolList es last⟩
def fileOf (pool : Array CpInfo) (this : Nat) (attrs : Array Attribute := #[]) (ms : Array MethodInfo := #[]) (fl : Nat := 33) (sup : Nat := 0) (ifs : Array Nat := #[]) (fds : Array FieldInfo := #[]) : ClassFile where
  minorVersion := 0
  majorVersion := 65
  constantPool := pool
  accessFlags := fl
  thisClass := this
  superClass := sup
  interfaces := ifs
  fields := fds
  methods := ms
  attributes := attrs
def plain (name : String) (sup : Option ClassId) : Class where
  name := name
  kind := .ordinary
  loader := none
  accessFlags := 33
  super := sup
  interfaces := #[]
  cf := none
  fields := #[]
  methods := #[]
  instanceTypes := #[]
  staticTypes := #[]
  resolved := #[]
  callSites := []
  init := .initialized
  statics := none
  mirror := none

def pool0 : Array CpInfo := pool [(5, u "<init>"), (0, u "()V"), (1, .class_ 10), (1, u "java/lang/Object")] 113

def k0c0 : Code := { maxStack := 0, maxLocals := 1, code := object_method_1_code, exceptionTable := #[], attributes := #[] }
def k0m0 : Method := { name := "<init>", desc := "()V", sig := { parameters := [], returnType := none }, accessFlags := 1, code := some k0c0 }
/-- java/lang/Object -/
def k0 : Class := { plain "java/lang/Object" none with
  accessFlags := 33
  interfaces := #[]
  cf := some (fileOf pool0 8 #[] #[{ accessFlags := 1, nameIndex := 5, descriptorIndex := 6, attributes := #[] }] 33 0 #[] #[])
  fields := #[]
  methods := #[k0m0]
  instanceTypes := #[]
  staticTypes := #[]
  resolved := Array.replicate 124 none
  statics := none }

def pool1 : Array CpInfo := pool [(2, .class_ 4), (1, u "java/lang/Object"), (0, u "<init>"), (0, u "()V"), (0, .class_ 8), (0, u "java/lang/String"), (0, .methodref 7 10), (0, .nameAndType 5 11), (0, u "([C)V"), (0, .long 18446744073709551615), (1, .methodref 15 16), (0, .class_ 17), (0, .nameAndType 18 19), (0, u "com/example/askel/askel/DecimalParsePinLaw"), (0, u "dig"), (0, u "(C)Z"), (0, .long 10), (1, .long 100), (1, .long 100000000000000), (1, .long 9), (1, .methodref 15 29), (0, .nameAndType 30 31), (0, u "lengthOf"), (0, u "(I)I"), (0, .methodref 15 33), (0, .nameAndType 34 35), (0, u "draw"), (0, u "(I)C"), (0, .methodref 15 37), (0, .nameAndType 38 39), (0, u "str"), (0, u "(ICCCCC)Ljava/lang/String;"), (0, .methodref 41 42), (0, .class_ 43), (0, .nameAndType 44 45), (0, u "com/example/askel/askel/Decimal"), (0, u "parse"), (0, u "(Ljava/lang/CharSequence;I)J"), (0, .methodref 15 47), (0, .nameAndType 48 49), (0, u "expect"), (0, u "(ICCCCCI)J"), (3, u "law"), (0, u "(IIIIII)Z")] 2

def k1m0 : Method := { name := "<init>", desc := "()V", sig := { parameters := [], returnType := none }, accessFlags := 2, code := none }
def k1c1 : Code := { maxStack := 3, maxLocals := 1, code := method_2_code, exceptionTable := #[], attributes := #[] }
def k1m1 : Method := { name := "draw", desc := "(I)C", sig := { parameters := [.int], returnType := some .char }, accessFlags := 10, code := some k1c1 }
def k1c2 : Code := { maxStack := 2, maxLocals := 1, code := method_3_code, exceptionTable := #[], attributes := #[] }
def k1m2 : Method := { name := "dig", desc := "(C)Z", sig := { parameters := [.char], returnType := some .boolean }, accessFlags := 10, code := some k1c2 }
def k1c3 : Code := { maxStack := 2, maxLocals := 1, code := method_4_code, exceptionTable := #[], attributes := #[] }
def k1m3 : Method := { name := "lengthOf", desc := "(I)I", sig := { parameters := [.int], returnType := some .int }, accessFlags := 10, code := some k1c3 }
def k1c4 : Code := { maxStack := 6, maxLocals := 6, code := method_5_code, exceptionTable := #[], attributes := #[] }
def k1m4 : Method := { name := "str", desc := "(ICCCCC)Ljava/lang/String;", sig := { parameters := [.int, .char, .char, .char, .char, .char], returnType := some (.object "java/lang/String") }, accessFlags := 10, code := some k1c4 }
def k1c5 : Code := { maxStack := 6, maxLocals := 22, code := method_6_code, exceptionTable := #[], attributes := #[] }
def k1m5 : Method := { name := "expect", desc := "(ICCCCCI)J", sig := { parameters := [.int, .char, .char, .char, .char, .char, .int], returnType := some .long }, accessFlags := 10, code := some k1c5 }
def k1c6 : Code := { maxStack := 9, maxLocals := 15, code := code, exceptionTable := #[], attributes := #[] }
def k1m6 : Method := { name := "law", desc := "(IIIIII)Z", sig := { parameters := [.int, .int, .int, .int, .int, .int], returnType := some .boolean }, accessFlags := 9, code := some k1c6 }
/-- com/example/askel/askel/DecimalParsePinLaw -/
def k1 : Class := { plain "com/example/askel/askel/DecimalParsePinLaw" (some 0) with
  accessFlags := 49
  interfaces := #[]
  cf := some (fileOf pool1 15 #[] #[{ accessFlags := 2, nameIndex := 5, descriptorIndex := 6, attributes := #[] }, { accessFlags := 10, nameIndex := 34, descriptorIndex := 35, attributes := #[] }, { accessFlags := 10, nameIndex := 18, descriptorIndex := 19, attributes := #[] }, { accessFlags := 10, nameIndex := 30, descriptorIndex := 31, attributes := #[] }, { accessFlags := 10, nameIndex := 38, descriptorIndex := 39, attributes := #[] }, { accessFlags := 10, nameIndex := 48, descriptorIndex := 49, attributes := #[] }, { accessFlags := 9, nameIndex := 53, descriptorIndex := 54, attributes := #[] }] 49 2 #[] #[])
  fields := #[]
  methods := #[k1m0, k1m1, k1m2, k1m3, k1m4, k1m5, k1m6]
  instanceTypes := #[]
  staticTypes := #[]
  resolved := Array.replicate 57 none
  statics := none }

def pool2 : Array CpInfo := pool [(1, .class_ 2), (0, u "java/io/Serializable"), (0, .class_ 4), (0, u "java/lang/Object")] 2

/-- java/io/Serializable -/
def k2 : Class := { plain "java/io/Serializable" (some 0) with
  accessFlags := 1537
  interfaces := #[]
  cf := some (fileOf pool2 1 #[] #[] 1537 3 #[] #[])
  fields := #[]
  methods := #[]
  instanceTypes := #[]
  staticTypes := #[]
  resolved := Array.replicate 7 none
  statics := none }

def pool3 : Array CpInfo := pool [(1, .class_ 2), (0, u "java/lang/Comparable"), (0, .class_ 4), (0, u "java/lang/Object")] 7

/-- java/lang/Comparable -/
def k3 : Class := { plain "java/lang/Comparable" (some 0) with
  accessFlags := 1537
  interfaces := #[]
  cf := some (fileOf pool3 1 #[] #[] 1537 3 #[] #[])
  fields := #[]
  methods := #[]
  instanceTypes := #[]
  staticTypes := #[]
  resolved := Array.replicate 12 none
  statics := none }

def pool4 : Array CpInfo := pool [(2, .class_ 4), (1, u "java/lang/CharSequence"), (0, u "length"), (0, u "()I"), (38, u "charAt"), (0, u "(I)C"), (0, .class_ 48), (0, u "java/lang/CharSequence$1CodePointIterator"), (10, .class_ 60), (0, u "java/lang/CharSequence$1CharIterator"), (5, .class_ 67), (0, u "java/lang/Object")] 63

def k4m0 : Method := { name := "length", desc := "()I", sig := { parameters := [], returnType := some .int }, accessFlags := 1025, code := none }
def k4m1 : Method := { name := "charAt", desc := "(I)C", sig := { parameters := [.int], returnType := some .char }, accessFlags := 1025, code := none }
/-- java/lang/CharSequence -/
def k4 : Class := { plain "java/lang/CharSequence" (some 0) with
  accessFlags := 1537
  interfaces := #[]
  cf := some (fileOf pool4 2 #[.nestMembers #[47, 59]] #[{ accessFlags := 1025, nameIndex := 5, descriptorIndex := 6, attributes := #[] }, { accessFlags := 1025, nameIndex := 45, descriptorIndex := 46, attributes := #[] }] 1537 66 #[] #[])
  fields := #[]
  methods := #[k4m0, k4m1]
  instanceTypes := #[]
  staticTypes := #[]
  resolved := Array.replicate 131 none
  statics := none }

def pool5 : Array CpInfo := pool [(1, .class_ 2), (0, u "java/lang/constant/Constable"), (0, .class_ 4), (0, u "java/lang/Object")] 6

/-- java/lang/constant/Constable -/
def k5 : Class := { plain "java/lang/constant/Constable" (some 0) with
  accessFlags := 1537
  interfaces := #[]
  cf := some (fileOf pool5 1 #[] #[] 1537 3 #[] #[])
  fields := #[]
  methods := #[]
  instanceTypes := #[]
  staticTypes := #[]
  resolved := Array.replicate 11 none
  statics := none }

def pool6 : Array CpInfo := pool [(1, .class_ 2), (0, u "java/lang/constant/ConstantDesc"), (0, .class_ 4), (0, u "java/lang/Object")] 32

/-- java/lang/constant/ConstantDesc -/
def k6 : Class := { plain "java/lang/constant/ConstantDesc" (some 0) with
  accessFlags := 1537
  interfaces := #[]
  cf := some (fileOf pool6 1 #[] #[] 1537 3 #[] #[])
  fields := #[]
  methods := #[]
  instanceTypes := #[]
  staticTypes := #[]
  resolved := Array.replicate 37 none
  statics := none }

def pool7 : Array CpInfo := pool [(1, .methodref 2 3), (0, .class_ 4), (0, .nameAndType 5 6), (0, u "java/lang/Object"), (0, u "<init>"), (0, u "()V"), (0, .string 8), (0, u ""), (0, .fieldref 10 11), (0, .class_ 12), (0, .nameAndType 13 14), (0, u "java/lang/String"), (0, u "value"), (0, u "[B"), (0, .fieldref 10 16), (0, .nameAndType 17 18), (0, u "coder"), (0, u "B"), (2, u "hash"), (0, u "I"), (2, u "hashIsZero"), (0, u "Z"), (0, .methodref 10 28), (0, .nameAndType 5 29), (0, u "([CIILjava/lang/Void;)V"), (8, .fieldref 10 39), (0, .nameAndType 40 26), (0, u "COMPACT_STRINGS"), (1, .class_ 44), (1, u "java/lang/StringUTF16"), (0, u "compress"), (1, .methodref 42 48), (0, .nameAndType 49 50), (0, u "coderFromArrayLen"), (0, u "([BI)B"), (56, .class_ 109), (1, u "java/lang/StringLatin1"), (32, u "()Z"), (34, .methodref 42 178), (0, .nameAndType 45 179), (0, u "([CII)[B"), (154, u "()I"), (0, .methodref 10 336), (0, .nameAndType 17 337), (0, u "()B"), (25, u "([BI)C"), (27, u "(II)V"), (35, u "(I)C"), (64, .methodref 10 493), (0, .nameAndType 494 142), (0, u "isLatin1"), (0, .methodref 107 496), (0, .nameAndType 497 363), (0, u "charAt"), (3, u "checkIndex"), (5, u "length"), (67, .class_ 576), (0, u "java/lang/CharSequence"), (22, u "CASE_INSENSITIVE_ORDER"), (0, u "Ljava/util/Comparator;"), (409, u "([C)V"), (42, .fieldref 1054 1055), (0, .class_ 1056), (0, .nameAndType 1057 1058), (0, u "jdk/internal/util/Preconditions"), (0, u "SIOOBE_FORMATTER"), (0, u "Ljava/util/function/BiFunction;"), (0, .methodref 1054 1060), (0, .nameAndType 501 1061), (0, u "(IILjava/util/function/BiFunction;)I"), (39, u "serialPersistentFields"), (0, u "[Ljava/io/ObjectStreamField;"), (0, .class_ 1104), (0, u "java/lang/String$CaseInsensitiveComparator"), (1, .class_ 1107), (0, u "java/io/Serializable"), (0, .class_ 1109), (0, u "java/lang/Comparable"), (0, .class_ 1111), (0, u "java/lang/constant/Constable"), (0, .class_ 1113), (0, u "java/lang/constant/ConstantDesc"), (2, u "serialVersionUID"), (0, u "J"), (3, u "REPL"), (0, u "C"), (2, u "LATIN1"), (1, u "UTF16")] 323

def k7m0 : Method := { name := "<init>", desc := "()V", sig := { parameters := [], returnType := none }, accessFlags := 1, code := none }
def k7c1 : Code := { maxStack := 5, maxLocals := 2, code := jdk_42_method_3_code, exceptionTable := #[], attributes := #[] }
def k7m1 : Method := { name := "<init>", desc := "([C)V", sig := { parameters := [(.array .char)], returnType := none }, accessFlags := 1, code := some k7c1 }
def k7c2 : Code := { maxStack := 2, maxLocals := 1, code := jdk_42_method_54_code, exceptionTable := #[], attributes := #[] }
def k7m2 : Method := { name := "length", desc := "()I", sig := { parameters := [], returnType := some .int }, accessFlags := 1, code := some k7c2 }
def k7c3 : Code := { maxStack := 2, maxLocals := 2, code := jdk_42_method_56_code, exceptionTable := #[], attributes := #[] }
def k7m3 : Method := { name := "charAt", desc := "(I)C", sig := { parameters := [.int], returnType := some .char }, accessFlags := 1, code := some k7c3 }
def k7c4 : Code := { maxStack := 4, maxLocals := 6, code := jdk_42_method_149_code, exceptionTable := #[], attributes := #[] }
def k7m4 : Method := { name := "<init>", desc := "([CIILjava/lang/Void;)V", sig := { parameters := [(.array .char), .int, .int, (.object "java/lang/Void")], returnType := none }, accessFlags := 2, code := some k7c4 }
def k7c5 : Code := { maxStack := 1, maxLocals := 1, code := jdk_42_method_152_code, exceptionTable := #[], attributes := #[] }
def k7m5 : Method := { name := "coder", desc := "()B", sig := { parameters := [], returnType := some .byte }, accessFlags := 0, code := some k7c5 }
def k7c6 : Code := { maxStack := 1, maxLocals := 1, code := jdk_42_method_154_code, exceptionTable := #[], attributes := #[] }
def k7m6 : Method := { name := "isLatin1", desc := "()Z", sig := { parameters := [], returnType := some .boolean }, accessFlags := 0, code := some k7c6 }
def k7c7 : Code := { maxStack := 3, maxLocals := 2, code := jdk_42_method_155_code, exceptionTable := #[], attributes := #[] }
def k7m7 : Method := { name := "checkIndex", desc := "(II)V", sig := { parameters := [.int, .int], returnType := none }, accessFlags := 8, code := some k7c7 }
/-- java/lang/String -/
def k7 : Class := { plain "java/lang/String" (some 0) with
  accessFlags := 49
  interfaces := #[2, 3, 4, 5, 6]
  cf := some (fileOf pool7 10 #[.nestMembers #[1103]] #[{ accessFlags := 1, nameIndex := 5, descriptorIndex := 6, attributes := #[] }, { accessFlags := 1, nameIndex := 5, descriptorIndex := 1010, attributes := #[] }, { accessFlags := 1, nameIndex := 507, descriptorIndex := 334, attributes := #[] }, { accessFlags := 1, nameIndex := 497, descriptorIndex := 427, attributes := #[] }, { accessFlags := 2, nameIndex := 5, descriptorIndex := 29, attributes := #[] }, { accessFlags := 0, nameIndex := 17, descriptorIndex := 337, attributes := #[] }, { accessFlags := 0, nameIndex := 494, descriptorIndex := 142, attributes := #[] }, { accessFlags := 8, nameIndex := 501, descriptorIndex := 391, attributes := #[] }] 49 2 #[1106, 1108, 575, 1110, 1112] #[{ accessFlags := 18, nameIndex := 13, descriptorIndex := 14, attributes := #[] }, { accessFlags := 18, nameIndex := 17, descriptorIndex := 18, attributes := #[] }, { accessFlags := 2, nameIndex := 21, descriptorIndex := 22, attributes := #[] }, { accessFlags := 2, nameIndex := 25, descriptorIndex := 26, attributes := #[] }, { accessFlags := 26, nameIndex := 1116, descriptorIndex := 1117, attributes := #[] }, { accessFlags := 24, nameIndex := 40, descriptorIndex := 26, attributes := #[] }, { accessFlags := 26, nameIndex := 1101, descriptorIndex := 1102, attributes := #[] }, { accessFlags := 26, nameIndex := 1121, descriptorIndex := 1122, attributes := #[] }, { accessFlags := 25, nameIndex := 599, descriptorIndex := 600, attributes := #[] }, { accessFlags := 24, nameIndex := 1125, descriptorIndex := 18, attributes := #[] }, { accessFlags := 24, nameIndex := 1127, descriptorIndex := 18, attributes := #[] }])
  fields := #[{ name := "value", type := (.array .byte), accessFlags := 18, slot := 0, constantValue := 0 }, { name := "coder", type := .byte, accessFlags := 18, slot := 1, constantValue := 0 }, { name := "hash", type := .int, accessFlags := 2, slot := 2, constantValue := 0 }, { name := "hashIsZero", type := .boolean, accessFlags := 2, slot := 3, constantValue := 0 }, { name := "serialVersionUID", type := .long, accessFlags := 26, slot := 0, constantValue := 0 }, { name := "COMPACT_STRINGS", type := .boolean, accessFlags := 24, slot := 1, constantValue := 0 }, { name := "serialPersistentFields", type := (.array (.object "java/io/ObjectStreamField")), accessFlags := 26, slot := 2, constantValue := 0 }, { name := "REPL", type := .char, accessFlags := 26, slot := 3, constantValue := 0 }, { name := "CASE_INSENSITIVE_ORDER", type := (.object "java/util/Comparator"), accessFlags := 25, slot := 4, constantValue := 0 }, { name := "LATIN1", type := .byte, accessFlags := 24, slot := 5, constantValue := 0 }, { name := "UTF16", type := .byte, accessFlags := 24, slot := 6, constantValue := 0 }]
  methods := #[k7m0, k7m1, k7m2, k7m3, k7m4, k7m5, k7m6, k7m7]
  instanceTypes := #[(.array .byte), .byte, .int, .boolean]
  staticTypes := #[.long, .boolean, (.array (.object "java/io/ObjectStreamField")), .char, (.object "java/util/Comparator"), .byte, .byte]
  resolved := Array.replicate 1451 none
  statics := some 0 }

def pool8 : Array CpInfo := pool [(2, .class_ 4), (1, u "java/lang/Object"), (0, u "<init>"), (0, u "()V"), (0, .interfaceMethodref 8 9), (0, .class_ 10), (0, .nameAndType 11 12), (0, u "java/lang/CharSequence"), (0, u "length"), (0, u "()I"), (0, .class_ 14), (0, u "com/example/askel/askel/Decimal"), (0, .methodref 16 17), (0, .class_ 18), (0, .nameAndType 19 20), (0, u "java/lang/Math"), (0, u "min"), (0, u "(II)I"), (0, .interfaceMethodref 8 22), (0, .nameAndType 23 24), (0, u "charAt"), (0, u "(I)C"), (0, .long 18446744073709551615), (1, .long 10), (1, u "MAX_DIGITS"), (0, u "I"), (4, u "parse"), (0, u "(Ljava/lang/CharSequence;I)J")] 3

def k8m0 : Method := { name := "<init>", desc := "()V", sig := { parameters := [], returnType := none }, accessFlags := 2, code := none }
def k8c1 : Code := { maxStack := 4, maxLocals := 7, code := prog_6_method_2_code, exceptionTable := #[], attributes := #[] }
def k8m1 : Method := { name := "parse", desc := "(Ljava/lang/CharSequence;I)J", sig := { parameters := [(.object "java/lang/CharSequence"), .int], returnType := some .long }, accessFlags := 8, code := some k8c1 }
/-- com/example/askel/askel/Decimal -/
def k8 : Class := { plain "com/example/askel/askel/Decimal" (some 0) with
  accessFlags := 48
  interfaces := #[]
  cf := some (fileOf pool8 13 #[] #[{ accessFlags := 2, nameIndex := 5, descriptorIndex := 6, attributes := #[] }, { accessFlags := 8, nameIndex := 35, descriptorIndex := 36, attributes := #[] }] 48 2 #[] #[{ accessFlags := 24, nameIndex := 29, descriptorIndex := 30, attributes := #[] }])
  fields := #[{ name := "MAX_DIGITS", type := .int, accessFlags := 24, slot := 0, constantValue := 0 }]
  methods := #[k8m0, k8m1]
  instanceTypes := #[]
  staticTypes := #[.int]
  resolved := Array.replicate 40 none
  statics := none }

def pool9 : Array CpInfo := pool [(6, .class_ 8), (1, u "java/lang/Object"), (0, u "<init>"), (0, u "()V"), (1, .class_ 14), (1, u "java/lang/StringUTF16"), (31, u "$assertionsDisabled"), (0, u "Z"), (13, u "HI_BYTE_SHIFT"), (0, u "I"), (2, u "LO_BYTE_SHIFT"), (49, .methodref 12 116), (0, .nameAndType 117 118), (0, u "compress"), (0, u "([CI[BII)I"), (3, u "([CII)[B"), (138, u "coderFromArrayLen"), (0, u "([BI)B"), (106, .class_ 371), (1, u "java/lang/StringUTF16$LinesSpliterator"), (58, u "MAX_LENGTH"), (196, .class_ 628), (0, u "java/lang/StringUTF16$CodePointsSpliterator"), (0, .class_ 630), (0, u "java/lang/StringUTF16$CharsSpliterator")] 4

def k9m0 : Method := { name := "<init>", desc := "()V", sig := { parameters := [], returnType := none }, accessFlags := 0, code := none }
def k9c1 : Code := { maxStack := 2, maxLocals := 2, code := jdk_52_method_15_code, exceptionTable := #[], attributes := #[] }
def k9m1 : Method := { name := "coderFromArrayLen", desc := "([BI)B", sig := { parameters := [(.array .byte), .int], returnType := some .byte }, accessFlags := 8, code := some k9c1 }
def k9c2 : Code := { maxStack := 5, maxLocals := 6, code := jdk_52_method_16_code, exceptionTable := #[], attributes := #[] }
def k9m2 : Method := { name := "compress", desc := "([CII)[B", sig := { parameters := [(.array .char), .int, .int], returnType := some (.array .byte) }, accessFlags := 9, code := some k9c2 }
def k9c3 : Code := { maxStack := 3, maxLocals := 7, code := jdk_52_method_21_code, exceptionTable := #[], attributes := #[] }
def k9m3 : Method := { name := "compress", desc := "([CI[BII)I", sig := { parameters := [(.array .char), .int, (.array .byte), .int, .int], returnType := some .int }, accessFlags := 9, code := some k9c3 }
/-- java/lang/StringUTF16 -/
def k9 : Class := { plain "java/lang/StringUTF16" (some 0) with
  accessFlags := 48
  interfaces := #[]
  cf := some (fileOf pool9 12 #[.nestMembers #[627, 629, 369]] #[{ accessFlags := 0, nameIndex := 9, descriptorIndex := 10, attributes := #[] }, { accessFlags := 8, nameIndex := 261, descriptorIndex := 262, attributes := #[] }, { accessFlags := 9, nameIndex := 117, descriptorIndex := 122, attributes := #[] }, { accessFlags := 9, nameIndex := 117, descriptorIndex := 118, attributes := #[] }] 48 6 #[] #[{ accessFlags := 26, nameIndex := 61, descriptorIndex := 62, attributes := #[] }, { accessFlags := 26, nameIndex := 65, descriptorIndex := 62, attributes := #[] }, { accessFlags := 24, nameIndex := 430, descriptorIndex := 62, attributes := #[] }, { accessFlags := 4120, nameIndex := 46, descriptorIndex := 47, attributes := #[] }])
  fields := #[{ name := "HI_BYTE_SHIFT", type := .int, accessFlags := 26, slot := 0, constantValue := 0 }, { name := "LO_BYTE_SHIFT", type := .int, accessFlags := 26, slot := 1, constantValue := 0 }, { name := "MAX_LENGTH", type := .int, accessFlags := 24, slot := 2, constantValue := 0 }, { name := "$assertionsDisabled", type := .boolean, accessFlags := 4120, slot := 3, constantValue := 0 }]
  methods := #[k9m0, k9m1, k9m2, k9m3]
  instanceTypes := #[]
  staticTypes := #[.int, .int, .int, .boolean]
  resolved := Array.replicate 635 none
  statics := none }

def pool10 : Array CpInfo := pool [(1, .class_ 2), (0, u "java/lang/Math"), (1, .class_ 6), (1, u "java/lang/Object"), (0, u "<init>"), (0, u "()V"), (89, .class_ 100), (1, u "java/lang/Math$RandomNumberGeneratorHolder"), (71, u "negativeZeroFloatBits"), (0, u "J"), (2, u "negativeZeroDoubleBits"), (24, u "min"), (43, u "$assertionsDisabled"), (0, u "Z"), (88, u "(II)I"), (2, u "twoToTheDoubleScaleDown"), (0, u "D"), (4, u "twoToTheDoubleScaleUp"), (9, u "E"), (3, u "PI"), (2, u "TAU"), (2, u "DEGREES_TO_RADIANS"), (0, u "RADIANS_TO_DEGREES")] 94

def k10m0 : Method := { name := "<init>", desc := "()V", sig := { parameters := [], returnType := none }, accessFlags := 2, code := none }
def k10c1 : Code := { maxStack := 2, maxLocals := 2, code := jdk_29_method_69_code, exceptionTable := #[], attributes := #[] }
def k10m1 : Method := { name := "min", desc := "(II)I", sig := { parameters := [.int, .int], returnType := some .int }, accessFlags := 9, code := some k10c1 }
/-- java/lang/Math -/
def k10 : Class := { plain "java/lang/Math" (some 0) with
  accessFlags := 49
  interfaces := #[]
  cf := some (fileOf pool10 1 #[.nestMembers #[98]] #[{ accessFlags := 2, nameIndex := 7, descriptorIndex := 8, attributes := #[] }, { accessFlags := 9, nameIndex := 201, descriptorIndex := 335, attributes := #[] }] 49 4 #[] #[{ accessFlags := 25, nameIndex := 354, descriptorIndex := 339, attributes := #[] }, { accessFlags := 25, nameIndex := 358, descriptorIndex := 339, attributes := #[] }, { accessFlags := 25, nameIndex := 361, descriptorIndex := 339, attributes := #[] }, { accessFlags := 26, nameIndex := 364, descriptorIndex := 339, attributes := #[] }, { accessFlags := 26, nameIndex := 365, descriptorIndex := 339, attributes := #[] }, { accessFlags := 26, nameIndex := 172, descriptorIndex := 173, attributes := #[] }, { accessFlags := 26, nameIndex := 176, descriptorIndex := 173, attributes := #[] }, { accessFlags := 8, nameIndex := 344, descriptorIndex := 339, attributes := #[] }, { accessFlags := 8, nameIndex := 338, descriptorIndex := 339, attributes := #[] }, { accessFlags := 4120, nameIndex := 245, descriptorIndex := 246, attributes := #[] }])
  fields := #[{ name := "E", type := .double, accessFlags := 25, slot := 0, constantValue := 0 }, { name := "PI", type := .double, accessFlags := 25, slot := 1, constantValue := 0 }, { name := "TAU", type := .double, accessFlags := 25, slot := 2, constantValue := 0 }, { name := "DEGREES_TO_RADIANS", type := .double, accessFlags := 26, slot := 3, constantValue := 0 }, { name := "RADIANS_TO_DEGREES", type := .double, accessFlags := 26, slot := 4, constantValue := 0 }, { name := "negativeZeroFloatBits", type := .long, accessFlags := 26, slot := 5, constantValue := 0 }, { name := "negativeZeroDoubleBits", type := .long, accessFlags := 26, slot := 6, constantValue := 0 }, { name := "twoToTheDoubleScaleUp", type := .double, accessFlags := 8, slot := 7, constantValue := 0 }, { name := "twoToTheDoubleScaleDown", type := .double, accessFlags := 8, slot := 8, constantValue := 0 }, { name := "$assertionsDisabled", type := .boolean, accessFlags := 4120, slot := 9, constantValue := 0 }]
  methods := #[k10m0, k10m1]
  instanceTypes := #[]
  staticTypes := #[.double, .double, .double, .double, .double, .long, .long, .double, .double, .boolean]
  resolved := Array.replicate 460 none
  statics := none }

def pool11 : Array CpInfo := pool [(1, .class_ 2), (0, u "java/lang/String"), (1, .class_ 6), (1, u "java/lang/Object"), (0, u "<init>"), (0, u "()V"), (0, .methodref 1 10), (0, .nameAndType 11 12), (0, u "checkIndex"), (0, u "(II)V"), (1, .class_ 16), (1, u "java/lang/StringLatin1"), (36, u "([BI)C"), (67, u "$assertionsDisabled"), (0, u "Z"), (98, .class_ 223), (1, u "java/lang/StringLatin1$LinesSpliterator"), (28, u "charAt"), (137, .class_ 391), (0, u "java/lang/StringLatin1$CharsSpliterator")] 3

def k11m0 : Method := { name := "<init>", desc := "()V", sig := { parameters := [], returnType := none }, accessFlags := 0, code := none }
def k11c1 : Code := { maxStack := 2, maxLocals := 2, code := jdk_43_method_2_code, exceptionTable := #[], attributes := #[] }
def k11m1 : Method := { name := "charAt", desc := "([BI)C", sig := { parameters := [(.array .byte), .int], returnType := some .char }, accessFlags := 9, code := some k11c1 }
/-- java/lang/StringLatin1 -/
def k11 : Class := { plain "java/lang/StringLatin1" (some 0) with
  accessFlags := 48
  interfaces := #[]
  cf := some (fileOf pool11 14 #[.nestMembers #[390, 221]] #[{ accessFlags := 0, nameIndex := 7, descriptorIndex := 8, attributes := #[] }, { accessFlags := 9, nameIndex := 252, descriptorIndex := 53, attributes := #[] }] 48 4 #[] #[{ accessFlags := 4120, nameIndex := 121, descriptorIndex := 122, attributes := #[] }])
  fields := #[{ name := "$assertionsDisabled", type := .boolean, accessFlags := 4120, slot := 0, constantValue := 0 }]
  methods := #[k11m0, k11m1]
  instanceTypes := #[]
  staticTypes := #[.boolean]
  resolved := Array.replicate 395 none
  statics := none }

def pool12 : Array CpInfo := pool [(2, .class_ 4), (1, u "java/lang/Object"), (0, u "<init>"), (0, u "()V"), (17, .class_ 26), (1, u "jdk/internal/util/Preconditions"), (6, u "checkIndex"), (21, .class_ 56), (0, u "jdk/internal/util/Preconditions$4"), (57, .class_ 115), (0, u "jdk/internal/util/Preconditions$1"), (7, u "SIOOBE_FORMATTER"), (0, u "Ljava/util/function/BiFunction;"), (0, .class_ 126), (0, u "jdk/internal/util/Preconditions$2"), (3, u "AIOOBE_FORMATTER"), (0, .class_ 132), (0, u "jdk/internal/util/Preconditions$3"), (3, u "IOOBE_FORMATTER"), (41, u "(IILjava/util/function/BiFunction;)I")] 15

def k12m0 : Method := { name := "<init>", desc := "()V", sig := { parameters := [], returnType := none }, accessFlags := 1, code := none }
def k12c1 : Code := { maxStack := 3, maxLocals := 3, code := jdk_41_method_11_code, exceptionTable := #[], attributes := #[] }
def k12m1 : Method := { name := "checkIndex", desc := "(IILjava/util/function/BiFunction;)I", sig := { parameters := [.int, .int, (.object "java/util/function/BiFunction")], returnType := some .int }, accessFlags := 9, code := some k12c1 }
/-- jdk/internal/util/Preconditions -/
def k12 : Class := { plain "jdk/internal/util/Preconditions" (some 0) with
  accessFlags := 33
  interfaces := #[]
  cf := some (fileOf pool12 24 #[.nestMembers #[55, 131, 125, 114]] #[{ accessFlags := 1, nameIndex := 5, descriptorIndex := 6, attributes := #[] }, { accessFlags := 9, nameIndex := 33, descriptorIndex := 178, attributes := #[] }] 33 2 #[] #[{ accessFlags := 25, nameIndex := 123, descriptorIndex := 124, attributes := #[] }, { accessFlags := 25, nameIndex := 130, descriptorIndex := 124, attributes := #[] }, { accessFlags := 25, nameIndex := 136, descriptorIndex := 124, attributes := #[] }])
  fields := #[{ name := "SIOOBE_FORMATTER", type := (.object "java/util/function/BiFunction"), accessFlags := 25, slot := 0, constantValue := 0 }, { name := "AIOOBE_FORMATTER", type := (.object "java/util/function/BiFunction"), accessFlags := 25, slot := 1, constantValue := 0 }, { name := "IOOBE_FORMATTER", type := (.object "java/util/function/BiFunction"), accessFlags := 25, slot := 2, constantValue := 0 }]
  methods := #[k12m0, k12m1]
  instanceTypes := #[]
  staticTypes := #[(.object "java/util/function/BiFunction"), (.object "java/util/function/BiFunction"), (.object "java/util/function/BiFunction")]
  resolved := Array.replicate 194 none
  statics := some 1 }

def pool13 : Array CpInfo := pool [(9, u "<init>"), (6, .class_ 18), (1, u "java/lang/Object"), (0, u "()V"), (1, .class_ 23), (1, u "jdk/internal/util/ArraysSupport"), (0, u "LOG2_ARRAY_LONG_INDEX_SCALE"), (0, u "I"), (2, u "U"), (0, u "Ljdk/internal/misc/Unsafe;"), (8, u "BIG_ENDIAN"), (0, u "Z"), (8, u "LOG2_BYTE_BIT_SIZE"), (4, u "LOG2_ARRAY_INT_INDEX_SCALE"), (54, u "JLA"), (0, u "Ljdk/internal/access/JavaLangAccess;"), (11, u "LOG2_ARRAY_BOOLEAN_INDEX_SCALE"), (9, u "LOG2_ARRAY_BYTE_INDEX_SCALE"), (5, u "LOG2_ARRAY_CHAR_INDEX_SCALE"), (5, u "LOG2_ARRAY_SHORT_INDEX_SCALE"), (18, u "LOG2_ARRAY_FLOAT_INDEX_SCALE"), (24, u "LOG2_ARRAY_DOUBLE_INDEX_SCALE"), (89, u "T_BOOLEAN"), (2, u "T_CHAR"), (1, u "T_FLOAT"), (1, u "T_DOUBLE"), (1, u "T_BYTE"), (1, u "T_SHORT"), (1, u "T_INT"), (1, u "T_LONG"), (1, u "SOFT_MAX_ARRAY_LENGTH")] 83

def k13m0 : Method := { name := "<init>", desc := "()V", sig := { parameters := [], returnType := none }, accessFlags := 2, code := none }
/-- jdk/internal/util/ArraysSupport -/
def k13 : Class := { plain "jdk/internal/util/ArraysSupport" (some 0) with
  accessFlags := 33
  interfaces := #[]
  cf := some (fileOf pool13 21 #[] #[{ accessFlags := 2, nameIndex := 9, descriptorIndex := 19, attributes := #[] }] 33 16 #[] #[{ accessFlags := 24, nameIndex := 28, descriptorIndex := 29, attributes := #[] }, { accessFlags := 26, nameIndex := 38, descriptorIndex := 39, attributes := #[] }, { accessFlags := 25, nameIndex := 121, descriptorIndex := 25, attributes := #[] }, { accessFlags := 25, nameIndex := 131, descriptorIndex := 25, attributes := #[] }, { accessFlags := 25, nameIndex := 137, descriptorIndex := 25, attributes := #[] }, { accessFlags := 25, nameIndex := 143, descriptorIndex := 25, attributes := #[] }, { accessFlags := 25, nameIndex := 53, descriptorIndex := 25, attributes := #[] }, { accessFlags := 25, nameIndex := 24, descriptorIndex := 25, attributes := #[] }, { accessFlags := 25, nameIndex := 162, descriptorIndex := 25, attributes := #[] }, { accessFlags := 25, nameIndex := 187, descriptorIndex := 25, attributes := #[] }, { accessFlags := 26, nameIndex := 48, descriptorIndex := 25, attributes := #[] }, { accessFlags := 25, nameIndex := 277, descriptorIndex := 25, attributes := #[] }, { accessFlags := 25, nameIndex := 280, descriptorIndex := 25, attributes := #[] }, { accessFlags := 25, nameIndex := 282, descriptorIndex := 25, attributes := #[] }, { accessFlags := 25, nameIndex := 284, descriptorIndex := 25, attributes := #[] }, { accessFlags := 25, nameIndex := 286, descriptorIndex := 25, attributes := #[] }, { accessFlags := 25, nameIndex := 288, descriptorIndex := 25, attributes := #[] }, { accessFlags := 25, nameIndex := 290, descriptorIndex := 25, attributes := #[] }, { accessFlags := 25, nameIndex := 292, descriptorIndex := 25, attributes := #[] }, { accessFlags := 26, nameIndex := 108, descriptorIndex := 109, attributes := #[] }, { accessFlags := 25, nameIndex := 294, descriptorIndex := 25, attributes := #[] }])
  fields := #[{ name := "U", type := (.object "jdk/internal/misc/Unsafe"), accessFlags := 24, slot := 0, constantValue := 0 }, { name := "BIG_ENDIAN", type := .boolean, accessFlags := 26, slot := 1, constantValue := 0 }, { name := "LOG2_ARRAY_BOOLEAN_INDEX_SCALE", type := .int, accessFlags := 25, slot := 2, constantValue := 0 }, { name := "LOG2_ARRAY_BYTE_INDEX_SCALE", type := .int, accessFlags := 25, slot := 3, constantValue := 0 }, { name := "LOG2_ARRAY_CHAR_INDEX_SCALE", type := .int, accessFlags := 25, slot := 4, constantValue := 0 }, { name := "LOG2_ARRAY_SHORT_INDEX_SCALE", type := .int, accessFlags := 25, slot := 5, constantValue := 0 }, { name := "LOG2_ARRAY_INT_INDEX_SCALE", type := .int, accessFlags := 25, slot := 6, constantValue := 0 }, { name := "LOG2_ARRAY_LONG_INDEX_SCALE", type := .int, accessFlags := 25, slot := 7, constantValue := 0 }, { name := "LOG2_ARRAY_FLOAT_INDEX_SCALE", type := .int, accessFlags := 25, slot := 8, constantValue := 0 }, { name := "LOG2_ARRAY_DOUBLE_INDEX_SCALE", type := .int, accessFlags := 25, slot := 9, constantValue := 0 }, { name := "LOG2_BYTE_BIT_SIZE", type := .int, accessFlags := 26, slot := 10, constantValue := 0 }, { name := "T_BOOLEAN", type := .int, accessFlags := 25, slot := 11, constantValue := 0 }, { name := "T_CHAR", type := .int, accessFlags := 25, slot := 12, constantValue := 0 }, { name := "T_FLOAT", type := .int, accessFlags := 25, slot := 13, constantValue := 0 }, { name := "T_DOUBLE", type := .int, accessFlags := 25, slot := 14, constantValue := 0 }, { name := "T_BYTE", type := .int, accessFlags := 25, slot := 15, constantValue := 0 }, { name := "T_SHORT", type := .int, accessFlags := 25, slot := 16, constantValue := 0 }, { name := "T_INT", type := .int, accessFlags := 25, slot := 17, constantValue := 0 }, { name := "T_LONG", type := .int, accessFlags := 25, slot := 18, constantValue := 0 }, { name := "JLA", type := (.object "jdk/internal/access/JavaLangAccess"), accessFlags := 26, slot := 19, constantValue := 0 }, { name := "SOFT_MAX_ARRAY_LENGTH", type := .int, accessFlags := 25, slot := 20, constantValue := 0 }]
  methods := #[k13m0]
  instanceTypes := #[]
  staticTypes := #[(.object "jdk/internal/misc/Unsafe"), .boolean, .int, .int, .int, .int, .int, .int, .int, .int, .int, .int, .int, .int, .int, .int, .int, .int, .int, (.object "jdk/internal/access/JavaLangAccess"), .int]
  resolved := Array.replicate 378 none
  statics := none }

def pool14 : Array CpInfo := pool [(1, u "java/lang/Cloneable"), (0, .class_ 1), (0, u "java/lang/Object"), (0, .class_ 3)] 3

/-- java/lang/Cloneable -/
def k14 : Class := { plain "java/lang/Cloneable" (some 0) with
  accessFlags := 1537
  interfaces := #[]
  cf := some (fileOf pool14 2 #[] #[] 1537 4 #[] #[])
  fields := #[]
  methods := #[]
  instanceTypes := #[]
  staticTypes := #[]
  resolved := Array.replicate 8 none
  statics := none }

/-- the primitive byte -/
def k15 : Class := { plain "byte" none with kind := .primitive 'B', accessFlags := 0x411 }
/-- [B -/
def k16 : Class := { plain "[B" (some 0) with kind := .array 15 .byte, interfaces := #[14, 2], accessFlags := 1041 }

/-- the primitive char -/
def k17 : Class := { plain "char" none with kind := .primitive 'C', accessFlags := 0x411 }
/-- [C -/
def k18 : Class := { plain "[C" (some 0) with kind := .array 17 .char, interfaces := #[14, 2], accessFlags := 1041 }

/-- the primitive int -/
def k19 : Class := { plain "int" none with kind := .primitive 'I', accessFlags := 0x411 }
/-- [I -/
def k20 : Class := { plain "[I" (some 0) with kind := .array 19 .int, interfaces := #[14, 2], accessFlags := 1041 }

def heap : Heap := #[{ cls := 7, slots := #[.long 0, .int 1, .null, .int 0, .null, .int 0, .int 0], vm := .statics 7 },
  { cls := 12, slots := #[.null, .null, .null], vm := .statics 12 }]
def classes : Array Class := #[k0, k1, k2, k3, k4, k5, k6, k7, k8, k9, k10, k11, k12, k13, k14, k15, k16, k17, k18, k19, k20]
def interned : List (Array UInt16 × Addr) := []
def slotsUsed : Nat := 10
def theMethod : MethodId := ⟨1, 6⟩
def args0 : Array Value := #[.int 2, .int 50, .int 51, .int 52, .int 53, .int 9]
def aboutOver (below : List Frame) : State where
  vm := { classes := classes, interned := interned.toArray }
  heap := heap
  slotsUsed := slotsUsed
  threads := #[{ frames := .invoking theMethod args0 :: below }]
def below0 : List Frame := [.native { method := ⟨0, 0⟩, args := #[] }]
def about1 : State := aboutOver below0
def p0 : Program := .bare "" "" ""
def e0 : Env := launch0.env 0 0 0
theorem w_frames : about1.frames = Frame.invoking theMethod args0 :: below0 := rfl
set_option maxRecDepth 65536 in
theorem w_args : argsFit about1.vm theMethod args0 = true := by decide +kernel
set_option maxRecDepth 65536 in
theorem w_heap : heapFits about1 = true := by decide +kernel
set_option maxRecDepth 65536 in
theorem w_runnable : about1.curStatus? = some .runnable := by decide +kernel
set_option maxRecDepth 65536 in
theorem w_alone : about1.alone = true := by decide +kernel
set_option maxRecDepth 65536 in
theorem w_named : about1.methodNamed? x = some theMethod := by decide +kernel
set_option maxRecDepth 65536 in
theorem w_hears : about1.hears theMethod below0 = true := by decide +kernel
set_option maxRecDepth 65536 in
theorem w_ripe : about1.ripe theMethod args0 below0 = true := by decide +kernel
theorem w_running : about1.status = .running := rfl
set_option maxRecDepth 65536 in
theorem w_room : about1.hasRoom e0.platform room_1 = true :=
  launch0.hasRoom_least _ room_1 (by decide +kernel) (by decide +kernel) (by decide +kernel) (by decide +kernel) (by decide +kernel) (by decide +kernel)
theorem allAtoms_all (ts : List Jvm.Cond) (a : Array Jvm.Value) (st : Jvm.State) : (allAtoms ts).before a st = ts.all (fun c => c.before a st) := by
  induction ts with
  | nil => rfl
  | cons c t ih =>
    show (Jvm.Cond.and c (allAtoms t)).before a st = _
    rw [Jvm.Cond.before_and, ih, List.all_cons]
def words1 : List Jvm.Cond := Jvm.Cond.code x code maxLocals ret :: tables_1
/-- a 'code' word, met by the world's own term for the bytes: nothing is compared byte by byte -/
theorem code_word {y : MethodName} {bytes : ByteArray} {mx : Nat} {rt : Option FieldType} {a : Array Value} {s : State} {m : MethodId} {meth : Method} {c : Code} (h1 : s.methodNamed? y = some m) (h2 : s.vm.method? m = some meth) (h3 : meth.code = some c) (h4 : c.code = bytes)
    (h5 : (c.maxLocals == mx && c.exceptionTable.isEmpty && decide (c.maxStack ≤ mostOperands) && decide (meth.sig.returnType = rt) && !meth.locks && decide (parseMethodDescriptor y.desc = some meth.sig)) = true) : (Jvm.Cond.code y bytes mx rt).before a s = true := by
  simp only [Bool.and_eq_true, beq_iff_eq, Bool.not_eq_true', decide_eq_true_eq] at h5
  obtain ⟨⟨⟨⟨⟨g1, g2⟩, g3⟩, g4⟩, g5⟩, g6⟩ := h5
  simp [Cond.before, Cond.holds, Cond.value, h1, h2, h3, h4, g1, g2, g3, g4, g5, g6]
def isCode : Jvm.Cond → Bool
  | .code _ _ _ _ => true
  | _ => false
theorem all_split {L : List Jvm.Cond} {P : Jvm.Cond → Bool} (h1 : L.all (fun c => isCode c || P c) = true) (h2 : ∀ c ∈ L.filter isCode, P c = true) : L.all P = true := by
  refine List.all_eq_true.mpr fun c hc => ?_
  have h := List.all_eq_true.mp h1 c hc
  rcases Bool.eq_false_or_eq_true (isCode c) with hi | hi
  · exact h2 c (List.mem_filter.mpr ⟨hc, hi⟩)
  · simpa [hi] using h
set_option maxRecDepth 65536 in
theorem w_c0 : (Jvm.Cond.code x code maxLocals ret).before args0 about1 = true := code_word (m := ⟨1, 6⟩) (meth := k1m6) (c := k1c6) (by decide +kernel) rfl rfl rfl (by decide +kernel)
set_option maxRecDepth 65536 in
theorem w_c1 : (Jvm.Cond.code ({ cls := "com/example/askel/askel/DecimalParsePinLaw", name := "lengthOf", desc := "(I)I" } : Jvm.MethodName) method_4_code (1 : Nat) (Option.some Jvm.ClassFile.FieldType.int)).before args0 about1 = true := code_word (m := ⟨1, 3⟩) (meth := k1m3) (c := k1c3) (by decide +kernel) rfl rfl rfl (by decide +kernel)
set_option maxRecDepth 65536 in
theorem w_c2 : (Jvm.Cond.code ({ cls := "com/example/askel/askel/DecimalParsePinLaw", name := "draw", desc := "(I)C" } : Jvm.MethodName) method_2_code (1 : Nat) (Option.some Jvm.ClassFile.FieldType.char)).before args0 about1 = true := code_word (m := ⟨1, 1⟩) (meth := k1m1) (c := k1c1) (by decide +kernel) rfl rfl rfl (by decide +kernel)
set_option maxRecDepth 65536 in
theorem w_c3 : (Jvm.Cond.code ({ cls := "com/example/askel/askel/DecimalParsePinLaw", name := "str", desc := "(ICCCCC)Ljava/lang/String;" } : Jvm.MethodName) method_5_code (6 : Nat) (Option.some (Jvm.ClassFile.FieldType.object "java/lang/String"))).before args0 about1 = true := code_word (m := ⟨1, 4⟩) (meth := k1m4) (c := k1c4) (by decide +kernel) rfl rfl rfl (by decide +kernel)
set_option maxRecDepth 65536 in
theorem w_c4 : (Jvm.Cond.code ({ cls := "java/lang/String", name := "<init>", desc := "([C)V" } : Jvm.MethodName) jdk_42_method_3_code (2 : Nat) (Option.none : Option Jvm.ClassFile.FieldType)).before args0 about1 = true := code_word (m := ⟨7, 1⟩) (meth := k7m1) (c := k7c1) (by decide +kernel) rfl rfl rfl (by decide +kernel)
set_option maxRecDepth 65536 in
theorem w_c5 : (Jvm.Cond.code ({ cls := "java/lang/String", name := "<init>", desc := "([CIILjava/lang/Void;)V" } : Jvm.MethodName) jdk_42_method_149_code (6 : Nat) (Option.none : Option Jvm.ClassFile.FieldType)).before args0 about1 = true := code_word (m := ⟨7, 4⟩) (meth := k7m4) (c := k7c4) (by decide +kernel) rfl rfl rfl (by decide +kernel)
set_option maxRecDepth 65536 in
theorem w_c6 : (Jvm.Cond.code ({ cls := "java/lang/Object", name := "<init>", desc := "()V" } : Jvm.MethodName) object_method_1_code (1 : Nat) (Option.none : Option Jvm.ClassFile.FieldType)).before args0 about1 = true := code_word (m := ⟨0, 0⟩) (meth := k0m0) (c := k0c0) (by decide +kernel) rfl rfl rfl (by decide +kernel)
set_option maxRecDepth 65536 in
theorem w_c7 : (Jvm.Cond.code ({ cls := "com/example/askel/askel/Decimal", name := "parse", desc := "(Ljava/lang/CharSequence;I)J" } : Jvm.MethodName) prog_6_method_2_code (7 : Nat) (Option.some Jvm.ClassFile.FieldType.long)).before args0 about1 = true := code_word (m := ⟨8, 1⟩) (meth := k8m1) (c := k8c1) (by decide +kernel) rfl rfl rfl (by decide +kernel)
set_option maxRecDepth 65536 in
theorem w_c8 : (Jvm.Cond.code ({ cls := "java/lang/String", name := "length", desc := "()I" } : Jvm.MethodName) jdk_42_method_54_code (1 : Nat) (Option.some Jvm.ClassFile.FieldType.int)).before args0 about1 = true := code_word (m := ⟨7, 2⟩) (meth := k7m2) (c := k7c2) (by decide +kernel) rfl rfl rfl (by decide +kernel)
set_option maxRecDepth 65536 in
theorem w_c9 : (Jvm.Cond.code ({ cls := "java/lang/String", name := "coder", desc := "()B" } : Jvm.MethodName) jdk_42_method_152_code (1 : Nat) (Option.some Jvm.ClassFile.FieldType.byte)).before args0 about1 = true := code_word (m := ⟨7, 5⟩) (meth := k7m5) (c := k7c5) (by decide +kernel) rfl rfl rfl (by decide +kernel)
set_option maxRecDepth 65536 in
theorem w_c10 : (Jvm.Cond.code ({ cls := "com/example/askel/askel/DecimalParsePinLaw", name := "expect", desc := "(ICCCCCI)J" } : Jvm.MethodName) method_6_code (22 : Nat) (Option.some Jvm.ClassFile.FieldType.long)).before args0 about1 = true := code_word (m := ⟨1, 5⟩) (meth := k1m5) (c := k1c5) (by decide +kernel) rfl rfl rfl (by decide +kernel)
set_option maxRecDepth 65536 in
theorem w_c11 : (Jvm.Cond.code ({ cls := "java/lang/StringUTF16", name := "compress", desc := "([CII)[B" } : Jvm.MethodName) jdk_52_method_16_code (6 : Nat) (Option.some (Jvm.ClassFile.FieldType.array Jvm.ClassFile.FieldType.byte))).before args0 about1 = true := code_word (m := ⟨9, 2⟩) (meth := k9m2) (c := k9c2) (by decide +kernel) rfl rfl rfl (by decide +kernel)
set_option maxRecDepth 65536 in
theorem w_c12 : (Jvm.Cond.code ({ cls := "java/lang/StringUTF16", name := "compress", desc := "([CI[BII)I" } : Jvm.MethodName) jdk_52_method_21_code (7 : Nat) (Option.some Jvm.ClassFile.FieldType.int)).before args0 about1 = true := code_word (m := ⟨9, 3⟩) (meth := k9m3) (c := k9c3) (by decide +kernel) rfl rfl rfl (by decide +kernel)
set_option maxRecDepth 65536 in
theorem w_c13 : (Jvm.Cond.code ({ cls := "java/lang/StringUTF16", name := "coderFromArrayLen", desc := "([BI)B" } : Jvm.MethodName) jdk_52_method_15_code (2 : Nat) (Option.some Jvm.ClassFile.FieldType.byte)).before args0 about1 = true := code_word (m := ⟨9, 1⟩) (meth := k9m1) (c := k9c1) (by decide +kernel) rfl rfl rfl (by decide +kernel)
set_option maxRecDepth 65536 in
theorem w_c14 : (Jvm.Cond.code ({ cls := "java/lang/Math", name := "min", desc := "(II)I" } : Jvm.MethodName) jdk_29_method_69_code (2 : Nat) (Option.some Jvm.ClassFile.FieldType.int)).before args0 about1 = true := code_word (m := ⟨10, 1⟩) (meth := k10m1) (c := k10c1) (by decide +kernel) rfl rfl rfl (by decide +kernel)
set_option maxRecDepth 65536 in
theorem w_c15 : (Jvm.Cond.code ({ cls := "java/lang/String", name := "charAt", desc := "(I)C" } : Jvm.MethodName) jdk_42_method_56_code (2 : Nat) (Option.some Jvm.ClassFile.FieldType.char)).before args0 about1 = true := code_word (m := ⟨7, 3⟩) (meth := k7m3) (c := k7c3) (by decide +kernel) rfl rfl rfl (by decide +kernel)
set_option maxRecDepth 65536 in
theorem w_c16 : (Jvm.Cond.code ({ cls := "java/lang/String", name := "isLatin1", desc := "()Z" } : Jvm.MethodName) jdk_42_method_154_code (1 : Nat) (Option.some Jvm.ClassFile.FieldType.boolean)).before args0 about1 = true := code_word (m := ⟨7, 6⟩) (meth := k7m6) (c := k7c6) (by decide +kernel) rfl rfl rfl (by decide +kernel)
set_option maxRecDepth 65536 in
theorem w_c17 : (Jvm.Cond.code ({ cls := "java/lang/StringLatin1", name := "charAt", desc := "([BI)C" } : Jvm.MethodName) jdk_43_method_2_code (2 : Nat) (Option.some Jvm.ClassFile.FieldType.char)).before args0 about1 = true := code_word (m := ⟨11, 1⟩) (meth := k11m1) (c := k11c1) (by decide +kernel) rfl rfl rfl (by decide +kernel)
set_option maxRecDepth 65536 in
theorem w_c18 : (Jvm.Cond.code ({ cls := "java/lang/String", name := "checkIndex", desc := "(II)V" } : Jvm.MethodName) jdk_42_method_155_code (2 : Nat) (Option.none : Option Jvm.ClassFile.FieldType)).before args0 about1 = true := code_word (m := ⟨7, 7⟩) (meth := k7m7) (c := k7c7) (by decide +kernel) rfl rfl rfl (by decide +kernel)
set_option maxRecDepth 65536 in
theorem w_c19 : (Jvm.Cond.code ({ cls := "jdk/internal/util/Preconditions", name := "checkIndex", desc := "(IILjava/util/function/BiFunction;)I" } : Jvm.MethodName) jdk_41_method_11_code (3 : Nat) (Option.some Jvm.ClassFile.FieldType.int)).before args0 about1 = true := code_word (m := ⟨12, 1⟩) (meth := k12m1) (c := k12c1) (by decide +kernel) rfl rfl rfl (by decide +kernel)
set_option maxRecDepth 65536 in
theorem w_c20 : (Jvm.Cond.code ({ cls := "com/example/askel/askel/DecimalParsePinLaw", name := "dig", desc := "(C)Z" } : Jvm.MethodName) method_3_code (1 : Nat) (Option.some Jvm.ClassFile.FieldType.boolean)).before args0 about1 = true := code_word (m := ⟨1, 2⟩) (meth := k1m2) (c := k1c2) (by decide +kernel) rfl rfl rfl (by decide +kernel)
def codes1 : List Jvm.Cond := [Jvm.Cond.code x code maxLocals ret, Jvm.Cond.code ({ cls := "com/example/askel/askel/DecimalParsePinLaw", name := "lengthOf", desc := "(I)I" } : Jvm.MethodName) method_4_code (1 : Nat) (Option.some Jvm.ClassFile.FieldType.int), Jvm.Cond.code ({ cls := "com/example/askel/askel/DecimalParsePinLaw", name := "draw", desc := "(I)C" } : Jvm.MethodName) method_2_code (1 : Nat) (Option.some Jvm.ClassFile.FieldType.char), Jvm.Cond.code ({ cls := "com/example/askel/askel/DecimalParsePinLaw", name := "str", desc := "(ICCCCC)Ljava/lang/String;" } : Jvm.MethodName) method_5_code (6 : Nat) (Option.some (Jvm.ClassFile.FieldType.object "java/lang/String")), Jvm.Cond.code ({ cls := "java/lang/String", name := "<init>", desc := "([C)V" } : Jvm.MethodName) jdk_42_method_3_code (2 : Nat) (Option.none : Option Jvm.ClassFile.FieldType), Jvm.Cond.code ({ cls := "java/lang/String", name := "<init>", desc := "([CIILjava/lang/Void;)V" } : Jvm.MethodName) jdk_42_method_149_code (6 : Nat) (Option.none : Option Jvm.ClassFile.FieldType), Jvm.Cond.code ({ cls := "java/lang/Object", name := "<init>", desc := "()V" } : Jvm.MethodName) object_method_1_code (1 : Nat) (Option.none : Option Jvm.ClassFile.FieldType), Jvm.Cond.code ({ cls := "com/example/askel/askel/Decimal", name := "parse", desc := "(Ljava/lang/CharSequence;I)J" } : Jvm.MethodName) prog_6_method_2_code (7 : Nat) (Option.some Jvm.ClassFile.FieldType.long), Jvm.Cond.code ({ cls := "java/lang/String", name := "length", desc := "()I" } : Jvm.MethodName) jdk_42_method_54_code (1 : Nat) (Option.some Jvm.ClassFile.FieldType.int), Jvm.Cond.code ({ cls := "java/lang/String", name := "coder", desc := "()B" } : Jvm.MethodName) jdk_42_method_152_code (1 : Nat) (Option.some Jvm.ClassFile.FieldType.byte), Jvm.Cond.code ({ cls := "com/example/askel/askel/DecimalParsePinLaw", name := "expect", desc := "(ICCCCCI)J" } : Jvm.MethodName) method_6_code (22 : Nat) (Option.some Jvm.ClassFile.FieldType.long), Jvm.Cond.code ({ cls := "java/lang/StringUTF16", name := "compress", desc := "([CII)[B" } : Jvm.MethodName) jdk_52_method_16_code (6 : Nat) (Option.some (Jvm.ClassFile.FieldType.array Jvm.ClassFile.FieldType.byte)), Jvm.Cond.code ({ cls := "java/lang/StringUTF16", name := "compress", desc := "([CI[BII)I" } : Jvm.MethodName) jdk_52_method_21_code (7 : Nat) (Option.some Jvm.ClassFile.FieldType.int), Jvm.Cond.code ({ cls := "java/lang/StringUTF16", name := "coderFromArrayLen", desc := "([BI)B" } : Jvm.MethodName) jdk_52_method_15_code (2 : Nat) (Option.some Jvm.ClassFile.FieldType.byte), Jvm.Cond.code ({ cls := "java/lang/Math", name := "min", desc := "(II)I" } : Jvm.MethodName) jdk_29_method_69_code (2 : Nat) (Option.some Jvm.ClassFile.FieldType.int), Jvm.Cond.code ({ cls := "java/lang/String", name := "charAt", desc := "(I)C" } : Jvm.MethodName) jdk_42_method_56_code (2 : Nat) (Option.some Jvm.ClassFile.FieldType.char), Jvm.Cond.code ({ cls := "java/lang/String", name := "isLatin1", desc := "()Z" } : Jvm.MethodName) jdk_42_method_154_code (1 : Nat) (Option.some Jvm.ClassFile.FieldType.boolean), Jvm.Cond.code ({ cls := "java/lang/StringLatin1", name := "charAt", desc := "([BI)C" } : Jvm.MethodName) jdk_43_method_2_code (2 : Nat) (Option.some Jvm.ClassFile.FieldType.char), Jvm.Cond.code ({ cls := "java/lang/String", name := "checkIndex", desc := "(II)V" } : Jvm.MethodName) jdk_42_method_155_code (2 : Nat) (Option.none : Option Jvm.ClassFile.FieldType), Jvm.Cond.code ({ cls := "jdk/internal/util/Preconditions", name := "checkIndex", desc := "(IILjava/util/function/BiFunction;)I" } : Jvm.MethodName) jdk_41_method_11_code (3 : Nat) (Option.some Jvm.ClassFile.FieldType.int), Jvm.Cond.code ({ cls := "com/example/askel/askel/DecimalParsePinLaw", name := "dig", desc := "(C)Z" } : Jvm.MethodName) method_3_code (1 : Nat) (Option.some Jvm.ClassFile.FieldType.boolean)]
set_option maxRecDepth 65536 in
theorem codes_eq : words1.filter isCode = codes1 := rfl
theorem w_codes : ∀ c ∈ words1.filter isCode, c.before args0 about1 = true := by
  rw [codes_eq]
  intro c hc
  simp only [codes1, List.mem_cons, List.not_mem_nil, or_false] at hc
  rcases hc with rfl | rfl | rfl | rfl | rfl | rfl | rfl | rfl | rfl | rfl | rfl | rfl | rfl | rfl | rfl | rfl | rfl | rfl | rfl | rfl | rfl
  · exact w_c0
  · exact w_c1
  · exact w_c2
  · exact w_c3
  · exact w_c4
  · exact w_c5
  · exact w_c6
  · exact w_c7
  · exact w_c8
  · exact w_c9
  · exact w_c10
  · exact w_c11
  · exact w_c12
  · exact w_c13
  · exact w_c14
  · exact w_c15
  · exact w_c16
  · exact w_c17
  · exact w_c18
  · exact w_c19
  · exact w_c20
set_option maxRecDepth 65536 in
theorem w_t1 : (words1.take 24).all (fun c => isCode c || c.before args0 about1) = true := by decide +kernel
set_option maxRecDepth 65536 in
theorem w_t2 : ((words1.drop 24).take 24).all (fun c => isCode c || c.before args0 about1) = true := by decide +kernel
set_option maxRecDepth 65536 in
theorem w_t3 : (((words1.drop 24).drop 24).take 24).all (fun c => isCode c || c.before args0 about1) = true := by decide +kernel
set_option maxRecDepth 65536 in
theorem w_t4 : ((((words1.drop 24).drop 24).drop 24).take 24).all (fun c => isCode c || c.before args0 about1) = true := by decide +kernel
set_option maxRecDepth 65536 in
theorem w_t5 : ((((words1.drop 24).drop 24).drop 24).drop 24).all (fun c => isCode c || c.before args0 about1) = true := by decide +kernel
theorem w_tables : (allAtoms (Jvm.Cond.code x code maxLocals ret :: tables_1)).before args0 about1 = true := by
  rw [allAtoms_all]
  show words1.all (fun c => c.before args0 about1) = true
  refine all_split ?_ w_codes
  rw [← List.take_append_drop 24 words1, List.all_append, w_t1, ← List.take_append_drop 24 (words1.drop 24), List.all_append, w_t2, ← List.take_append_drop 24 ((words1.drop 24).drop 24), List.all_append, w_t3, ← List.take_append_drop 24 (((words1.drop 24).drop 24).drop 24), List.all_append, w_t4, w_t5]
  rfl
set_option maxRecDepth 65536 in
theorem w_rest : rest_1_c.before args0 about1 = true := by decide +kernel
set_option maxRecDepth 65536 in
theorem w_case : (Jvm.Cond.and given_1 narrow_1).before args0 about1 = true := by decide +kernel
set_option maxRecDepth 65536 in
theorem w_consts : constsHeld consts_1 about1 := Jvm.Lit.constsHeldB_iff.mp (by decide +kernel)
theorem w_applies : (headSpec (Jvm.Cond.code x code maxLocals ret :: tables_1) room_1).applies x e0.platform about1 = true :=
  (Spec.applies_iff w_frames).mpr ⟨w_running, w_runnable, w_alone, w_named, w_hears, w_ripe, w_room, w_tables⟩
theorem atStart : AtStart classFile x code maxLocals ret World_1 tables_1 room_1 Calls_1 rest_1 Pre_1 launch0 p0 e0 about1 theMethod args0 below0 :=
  ⟨lists_1, trivial, launch0.admits_env _ _ _, launch0.least_env, fairChoices_fair.cas, fairChoices_fair.clock, w_frames, w_args, w_heap, w_applies, ⟨w_consts, trivial⟩, w_rest, w_case⟩
end start1
theorem witness_1 : WitnessClaimed_1 := ⟨start1.p0, start1.e0, start1.about1, start1.theMethod, start1.args0, start1.below0, start1.atStart⟩
end Jvm.Pilot.@@N@@
