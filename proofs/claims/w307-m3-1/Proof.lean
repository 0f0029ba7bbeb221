import JvmDerived
import JvmDerived.Pilot.@@N@@Statement
import JvmDerived.Pilot.@@N@@Code
set_option linter.unusedVariables false
set_option linter.unusedSimpArgs false
/- laws to paste: Road.backV, Road.lenW, Road.chN, Road.codOf (cut by pick.py; bodies as the Statement names them) -/
namespace Jvm.Pilot.@@N@@
namespace StrChars
open Jvm Sem ClassFile Op Lib Jvm.Stand Jvm.Free.XT Jvm.Free.ALB Jvm.Free.JM Jvm.Free
open Jvm.Lib.Cold (StaticIs)
/-- a char array whose places are chars -/
def Ch (a : Addr) (A : Cell) (U : State) : Prop := Arr .char a A U ∧ Typed .char A
theorem Ch.mv {a : Addr} {A : Cell} {U U' : State} (h : Ch a A U) (hal : U.vm.Alike U'.vm) (hh : U'.heap = U.heap) : Ch a A U' := ⟨h.1.mv hal hh, h.2⟩
theorem Ch.keep {a : Addr} {A : Cell} {U U' : State} (h : Ch a A U) (hal : U.vm.Alike U'.vm) (hk : U'.heap[a]? = some A) : Ch a A U' := ⟨h.1.keep hal hk, h.2⟩
/-- what place i of a char[]'s cell holds -/
def cv (A : Cell) (i : Nat) : Int32 := match A.slots[i]? with | some (.int x) => x | _ => 0
theorem Ch.get {a : Addr} {A : Cell} {U : State} (h : Ch a A U) {i : Nat} (hi : i < A.slots.size) : A.slots[i]? = some (.int (cv A i)) := by
  have e := Array.getElem?_eq_getElem hi
  have f := h.2 i _ e
  unfold cv; rw [e]
  generalize A.slots[i] = v at f
  cases v <;> simp [fits] at f ⊢
/-- the byte that i2b leaves of a char -/
def lo8 (x : Int32) : Int32 := x.toInt8.toInt32
theorem fits_lo8 (y : Int32) : fits .byte (.int (lo8 y)) = true := by
  have h1 := y.toInt8.le_toInt
  have h2 := y.toInt8.toInt_lt
  simp only [lo8, fits, Bool.and_eq_true, decide_eq_true_eq, Int32.le_iff_toInt_le, Int8.toInt_toInt32, show (-128 : Int32).toInt = -128 from by decide, show (127 : Int32).toInt = 127 from by decide]
  omega
/-- A' is A but that each place j of lo .. hi - 1 holds f j -/
def Laid (A A' : Cell) (lo hi : Nat) (f : Nat → Value) : Prop := A'.cls = A.cls ∧ A'.vm = A.vm ∧ A'.slots.size = A.slots.size ∧ ∀ i, A'.slots[i]? = if lo ≤ i ∧ i < hi then some (f i) else A.slots[i]?
theorem Laid.zero (A : Cell) (lo : Nat) (f : Nat → Value) : Laid A A lo (lo + 0) f := ⟨rfl, rfl, rfl, fun i => by rw [if_neg (by omega)]⟩
theorem Laid.step {A Ak : Cell} {lo k : Nat} {f : Nat → Value} {v : Value} (h : Laid A Ak lo k f) (hlo : lo ≤ k) (hk : k < Ak.slots.size) (hv : v = f k) : Laid A (Ak.setSlot k v) lo (k + 1) f := by
  refine ⟨h.1, h.2.1, by simpa [Cell.setSlot] using h.2.2.1, fun i => ?_⟩
  by_cases e : k = i
  · subst e; rw [Cell.slots_setSlot_self v hk, if_pos (by omega), hv]
  · rw [Cell.slots_setSlot_ne v e, h.2.2.2 i]
    by_cases q : lo ≤ i ∧ i < k
    · rw [if_pos q, if_pos (by omega)]
    · rw [if_neg q, if_neg (by omega)]
def U16 : String := "java/lang/StringUTF16"
namespace Cmp5
def yN : MethodName := ⟨"java/lang/StringUTF16", "compress", "([CI[BII)I"⟩
abbrev yB : ByteArray := jdk_52_method_21_code
theorem d0 : decode yB 0 = .ok (.iconst 0, 1) := by decide +kernel
theorem d1 : decode yB 1 = .ok (.istore 5, 2) := by decide +kernel
theorem d3 : decode yB 3 = .ok (.iload 5, 2) := by decide +kernel
theorem d5 : decode yB 5 = .ok (.iload 4, 2) := by decide +kernel
theorem d7 : decode yB 7 = .ok (.if_icmp (.ge) 37, 3) := by decide +kernel
theorem d10 : decode yB 10 = .ok (.aload_n 0, 1) := by decide +kernel
theorem d11 : decode yB 11 = .ok (.iload_n 1, 1) := by decide +kernel
theorem d12 : decode yB 12 = .ok (.caload, 1) := by decide +kernel
theorem d13 : decode yB 13 = .ok (.istore 6, 2) := by decide +kernel
theorem d15 : decode yB 15 = .ok (.iload 6, 2) := by decide +kernel
theorem d17 : decode yB 17 = .ok (.sipush 255, 3) := by decide +kernel
theorem d20 : decode yB 20 = .ok (.if_icmp (.le) 6, 3) := by decide +kernel
theorem d26 : decode yB 26 = .ok (.aload_n 2, 1) := by decide +kernel
theorem d27 : decode yB 27 = .ok (.iload_n 3, 1) := by decide +kernel
theorem d28 : decode yB 28 = .ok (.iload 6, 2) := by decide +kernel
theorem d30 : decode yB 30 = .ok (.i2b, 1) := by decide +kernel
theorem d31 : decode yB 31 = .ok (.bastore, 1) := by decide +kernel
theorem d32 : decode yB 32 = .ok (.iinc 1 1, 3) := by decide +kernel
theorem d35 : decode yB 35 = .ok (.iinc 3 1, 3) := by decide +kernel
theorem d38 : decode yB 38 = .ok (.iinc 5 1, 3) := by decide +kernel
theorem d41 : decode yB 41 = .ok (.goto (-38), 3) := by decide +kernel
theorem d44 : decode yB 44 = .ok (.iload 4, 2) := by decide +kernel
theorem d46 : decode yB 46 = .ok (.ireturn, 1) := by decide +kernel
def site : List Cond := []
def tab : Cond := tabOf yN yB 7 (some .int) site
def P (b : Addr) (A : Cell) (d : Addr) (B : Cell) (o q len : Nat) (args : Array Value) (s : State) : Prop := args = #[.ref b, .int (Int32.ofNat o), .ref d, .int (Int32.ofNat q), .int (Int32.ofNat len)] ∧ Ch b A s ∧ Arr .byte d B s ∧ b ≠ d ∧ o + len ≤ A.slots.size ∧ q + len ≤ B.slots.size ∧ ∀ i, i < len → ¬ 255 < cv A (o + i)
def E (b : Addr) (A : Cell) (d : Addr) (B : Cell) (o q len : Nat) (r : Option Value) (s u : State) : Prop := r = some (.int (Int32.ofNat len)) ∧ ∃ B', Put d B' s u ∧ Laid B B' q (q + len) (fun j => Value.int (lo8 (cv A (o + (j - q)))))
/-- no char of the range above 255: len; the places written hold each char's low byte -/
theorem law (l : Launch) (b : Addr) (A : Cell) (d : Addr) (B : Cell) (o q len : Nat) : Law l yN 5 5 0 0 yB 7 (some .int) site (P b A d B o q len) (E b A d B o q len) (copyLocs d q len) 0 0 := by
  refine Law.of_walk (plainFor_of_name (by decide +kernel)) (by decide +kernel) (by decide +kernel) (by decide) (fun _ _ h => by rw [h.1]; rfl) (fun _ U U' hal hh h => ⟨h.1, h.2.1.mv hal hh, h.2.2.1.mv hal hh, h.2.2.2⟩) (fun r U U' V V' h1 hal h2 h => ⟨h.1, h.2.elim fun B' q => ⟨B', q.1.mv h1 h2, q.2⟩⟩) ?_
  intro p e s m args below meth c s₁ X0 hexec hbytes hml hret hlk hnm hown hh0 W hP
  obtain ⟨rfl, hA, hB, hne, l1, l2, hp⟩ := hP
  have c1 : Steps p.tables e below (s₁.setTop (entryFrame m #[.ref b, .int (Int32.ofNat o), .ref d, .int (Int32.ofNat q), .int (Int32.ofNat len)] 7)) (s₁.setTop (mkF m 0 #[.val (.ref b), .val (.int (Int32.ofNat o)), .val (.ref d), .val (.int (Int32.ofNat q)), .val (.int (Int32.ofNat len)), .unset, .unset] [])) := entry rfl
  have hA0 := hA.1.mv X0.warmed.alike hh0
  have hB0 := hB.mv X0.warmed.alike hh0
  have a31 := hA.1.2.2.2
  have c2 : Steps p.tables e below (s₁.setTop (entryFrame m #[.ref b, .int (Int32.ofNat o), .ref d, .int (Int32.ofNat q), .int (Int32.ofNat len)] 7)) (s₁.setTop (mkF m 3 #[.val (.ref b), .val (.int (Int32.ofNat o)), .val (.ref d), .val (.int (Int32.ofNat q)), .val (.int (Int32.ofNat len)), .val (.int 0), .unset] [])) := c1.trans (by
    refine iconstV X0.here hexec rfl 0 (hb hbytes d0) (by decide) ?_
    refine XS.istore X0.here hexec rfl (hb hbytes d1) rfl rfl ?_
    exact Steps.refl _)
  have loop : ∀ (r i : Nat), i + r = len → ∀ (z : Slot), (z = .unset ∨ ∃ w, z = .val w ∧ w.category = 1) → ∀ (Tl : State) (Bk : Cell), Stand p l e { frames := 0, locals := 0, cells := 0, slots := 0 } s m #[.ref b, .int (Int32.ofNat o), .ref d, .int (Int32.ofNat q), .int (Int32.ofNat len)] below meth c Tl ([] ++ copyLocs d q i) 0 0 → Put d Bk s₁ Tl → Laid B Bk q (q + i) (fun j => Value.int (lo8 (cv A (o + (j - q))))) →
      Steps p.tables e below (s₁.setTop (entryFrame m #[.ref b, .int (Int32.ofNat o), .ref d, .int (Int32.ofNat q), .int (Int32.ofNat len)] 7)) (Tl.setTop (mkF m 3 #[.val (.ref b), .val (.int (Int32.ofNat (o + i))), .val (.ref d), .val (.int (Int32.ofNat (q + i))), .val (.int (Int32.ofNat len)), .val (.int (Int32.ofNat i)), z] [])) → ∃ (T' : State) (B' : Cell) (z' : Slot), Stand p l e { frames := 0, locals := 0, cells := 0, slots := 0 } s m #[.ref b, .int (Int32.ofNat o), .ref d, .int (Int32.ofNat q), .int (Int32.ofNat len)] below meth c T' ([] ++ copyLocs d q len) 0 0 ∧ Put d B' s₁ T' ∧ Laid B B' q (q + len) (fun j => Value.int (lo8 (cv A (o + (j - q))))) ∧
      Steps p.tables e below (s₁.setTop (entryFrame m #[.ref b, .int (Int32.ofNat o), .ref d, .int (Int32.ofNat q), .int (Int32.ofNat len)] 7)) (T'.setTop (mkF m 3 #[.val (.ref b), .val (.int (Int32.ofNat (o + len))), .val (.ref d), .val (.int (Int32.ofNat (q + len))), .val (.int (Int32.ofNat len)), .val (.int (Int32.ofNat len)), z'] [])) := by
    intro r
    induction r with
    | zero =>
      intro i hi z hz Tl Bk Xl pl fl cl
      have hil : i = len := by omega
      rw [hil] at Xl fl cl
      exact ⟨Tl, Bk, z, Xl, pl, fl, cl⟩
    | succ r ih =>
      intro i hi z hz Tl Bk Xl pl fl cl
      have all := X0.warmed.alike.symm.trans Xl.warmed.alike
      have hAl := hA0.keep all (pl.other hne hA0.1)
      have hBk := hB0.like all pl.1 fl.1 fl.2.1 fl.2.2.1
      have hlt : q + i < Bk.slots.size := by rw [fl.2.2.1]; omega
      have c3 : Steps p.tables e below (s₁.setTop (entryFrame m #[.ref b, .int (Int32.ofNat o), .ref d, .int (Int32.ofNat q), .int (Int32.ofNat len)] 7)) (Tl.setTop (mkF m 12 #[.val (.ref b), .val (.int (Int32.ofNat (o + i))), .val (.ref d), .val (.int (Int32.ofNat (q + i))), .val (.int (Int32.ofNat len)), .val (.int (Int32.ofNat i)), z] [.int (Int32.ofNat (o + i)), .ref b])) := cl.trans (by
        refine XS.iload Xl.here hexec rfl (hb hbytes d3) rfl ?_
        refine XS.iload Xl.here hexec rfl (hb hbytes d5) rfl ?_
        refine XS.icmpNo Xl.here hexec rfl (hb hbytes d7) rfl (ii_ge_f (lt32 (by omega) (by omega))) ?_
        refine XS.aloadN Xl.here hexec rfl (hb hbytes d10) rfl rfl ?_
        refine XS.iloadN Xl.here hexec rfl (hb hbytes d11) rfl ?_
        exact Steps.refl _)
      have c4 : Steps p.tables e below (s₁.setTop (entryFrame m #[.ref b, .int (Int32.ofNat o), .ref d, .int (Int32.ofNat q), .int (Int32.ofNat len)] 7)) (Tl.setTop (mkF m 13 #[.val (.ref b), .val (.int (Int32.ofNat (o + i))), .val (.ref d), .val (.int (Int32.ofNat (q + i))), .val (.int (Int32.ofNat len)), .val (.int (Int32.ofNat i)), z] [.int (cv A (o + i))])) := c3.trans (by
        refine Xl.aget hexec hAl rfl (hA.get (i := o + i) (by omega)) rfl rfl (hb hbytes d12) ?_
        exact Steps.refl _)
      have c5 : Steps p.tables e below (s₁.setTop (entryFrame m #[.ref b, .int (Int32.ofNat o), .ref d, .int (Int32.ofNat q), .int (Int32.ofNat len)] 7)) (Tl.setTop (mkF m 15 #[.val (.ref b), .val (.int (Int32.ofNat (o + i))), .val (.ref d), .val (.int (Int32.ofNat (q + i))), .val (.int (Int32.ofNat len)), .val (.int (Int32.ofNat i)), .val (.int (cv A (o + i)))] [])) := c4.trans (by
        refine XS.istoreS Xl.here hexec rfl (hb hbytes d13) rfl rfl hz ?_
        exact Steps.refl _)
      have c6 : Steps p.tables e below (s₁.setTop (entryFrame m #[.ref b, .int (Int32.ofNat o), .ref d, .int (Int32.ofNat q), .int (Int32.ofNat len)] 7)) (Tl.setTop (mkF m 31 #[.val (.ref b), .val (.int (Int32.ofNat (o + i))), .val (.ref d), .val (.int (Int32.ofNat (q + i))), .val (.int (Int32.ofNat len)), .val (.int (Int32.ofNat i)), .val (.int (cv A (o + i)))] [.int (lo8 (cv A (o + i))), .int (Int32.ofNat (q + i)), .ref d])) := c5.trans (by
        refine XS.iload Xl.here hexec rfl (hb hbytes d15) rfl ?_
        refine sipushV Xl.here hexec rfl 255 (hb hbytes d17) (by decide) ?_
        refine XS.icmpYes Xl.here hexec rfl (pc0 := 20) rfl (hb hbytes d20) rfl (ii_le_t (hp i (by omega))) (by decide) rfl ?_
        refine XS.aloadN Xl.here hexec rfl (hb hbytes d26) rfl rfl ?_
        refine XS.iloadN Xl.here hexec rfl (hb hbytes d27) rfl ?_
        refine XS.iload Xl.here hexec rfl (hb hbytes d28) rfl ?_
        refine i2b Xl.here hexec rfl (hb hbytes d30) rfl ?_
        exact Steps.refl _)
      obtain ⟨T7, X7, p7, st7⟩ := Xl.aput hexec hBk rfl hlt rfl (fits_lo8 (cv A (o + i))) (g := (mkF m 31 #[.val (.ref b), .val (.int (Int32.ofNat (o + i))), .val (.ref d), .val (.int (Int32.ofNat (q + i))), .val (.int (Int32.ofNat len)), .val (.int (Int32.ofNat i)), .val (.int (cv A (o + i)))] [.int (lo8 (cv A (o + i))), .int (Int32.ofNat (q + i)), .ref d])) rfl (rest := []) rfl (hb hbytes d31)
      have c8 : Steps p.tables e below (s₁.setTop (entryFrame m #[.ref b, .int (Int32.ofNat o), .ref d, .int (Int32.ofNat q), .int (Int32.ofNat len)] 7)) (T7.setTop (mkF m 32 #[.val (.ref b), .val (.int (Int32.ofNat (o + i))), .val (.ref d), .val (.int (Int32.ofNat (q + i))), .val (.int (Int32.ofNat len)), .val (.int (Int32.ofNat i)), .val (.int (cv A (o + i)))] [])) := c6.trans (st7 _ (Steps.refl _))
      have c9 : Steps p.tables e below (s₁.setTop (entryFrame m #[.ref b, .int (Int32.ofNat o), .ref d, .int (Int32.ofNat q), .int (Int32.ofNat len)] 7)) (T7.setTop (mkF m 3 #[.val (.ref b), .val (.int (Int32.ofNat (o + i) + 1)), .val (.ref d), .val (.int (Int32.ofNat (q + i) + 1)), .val (.int (Int32.ofNat len)), .val (.int (Int32.ofNat i + 1)), .val (.int (cv A (o + i)))] [])) := c8.trans (by
        refine iincV X7.here hexec rfl 1 (hb hbytes d32) (by decide) rfl rfl ?_
        refine iincV X7.here hexec rfl 1 (hb hbytes d35) (by decide) rfl rfl ?_
        refine iincV X7.here hexec rfl 1 (hb hbytes d38) (by decide) rfl rfl ?_
        refine XS.goto X7.here hexec rfl (pc0 := 41) rfl (hb hbytes d41) (by decide) rfl ?_
        exact Steps.refl _)
      have c10 : Steps p.tables e below (s₁.setTop (entryFrame m #[.ref b, .int (Int32.ofNat o), .ref d, .int (Int32.ofNat q), .int (Int32.ofNat len)] 7)) (T7.setTop (mkF m 3 #[.val (.ref b), .val (.int (Int32.ofNat (o + (i + 1)))), .val (.ref d), .val (.int (Int32.ofNat (q + (i + 1)))), .val (.int (Int32.ofNat len)), .val (.int (Int32.ofNat (i + 1))), .val (.int (cv A (o + i)))] [])) := by
        have := c9
        rw [succ32, succ32, succ32] at this
        exact this
      exact ih (i + 1) (by omega) _ (Or.inr ⟨_, rfl, rfl⟩) T7 _ (by rw [copyLocs_step, ← List.append_assoc]; exact X7) (pl.trans p7) (fl.step (by omega) hlt (by simp)) c10
  obtain ⟨T9, B9, z9, X9, p9, f9, g9⟩ := loop len 0 (by omega) .unset (Or.inl rfl) s₁ B (by simpa [copyLocs] using X0) ⟨hB0.1, fun _ _ => rfl, rfl⟩ (Laid.zero _ _ _) c2
  have c11 : Steps p.tables e below (s₁.setTop (entryFrame m #[.ref b, .int (Int32.ofNat o), .ref d, .int (Int32.ofNat q), .int (Int32.ofNat len)] 7)) (T9.setTop (mkF m 46 #[.val (.ref b), .val (.int (Int32.ofNat (o + len))), .val (.ref d), .val (.int (Int32.ofNat (q + len))), .val (.int (Int32.ofNat len)), .val (.int (Int32.ofNat len)), z9] [.int (Int32.ofNat len)])) := g9.trans (by
    refine XS.iload X9.here hexec rfl (hb hbytes d3) rfl ?_
    refine XS.iload X9.here hexec rfl (hb hbytes d5) rfl ?_
    refine XS.icmpYes X9.here hexec rfl (pc0 := 7) rfl (hb hbytes d7) rfl (ii_ge_t (nlt32 (by omega) (Nat.le_refl _))) (by decide) rfl ?_
    refine XS.iload X9.here hexec rfl (hb hbytes d44) rfl ?_
    exact Steps.refl _)
  exact ⟨T9, some (.int (Int32.ofNat len)), _, _, _, X9, by simp, rfl, rfl, (fun h => by cases h), ⟨rfl, B9, p9.from hh0, f9⟩, fun fs hl => c11.trans (X9.ireturnOut hexec hret rfl (Or.inl rfl) (hb hbytes d46) hl)⟩
end Cmp5
namespace Cmp3
def yN : MethodName := ⟨"java/lang/StringUTF16", "compress", "([CII)[B"⟩
abbrev yB : ByteArray := jdk_52_method_16_code
theorem d0 : decode yB 0 = .ok (.iload_n 2, 1) := by decide +kernel
theorem d1 : decode yB 1 = .ok (.newarray .byte, 2) := by decide +kernel
theorem d3 : decode yB 3 = .ok (.astore_n 3, 1) := by decide +kernel
theorem d4 : decode yB 4 = .ok (.aload_n 0, 1) := by decide +kernel
theorem d5 : decode yB 5 = .ok (.iload_n 1, 1) := by decide +kernel
theorem d6 : decode yB 6 = .ok (.aload_n 3, 1) := by decide +kernel
theorem d7 : decode yB 7 = .ok (.iconst 0, 1) := by decide +kernel
theorem d8 : decode yB 8 = .ok (.iload_n 2, 1) := by decide +kernel
theorem d9 : decode yB 9 = .ok (.invokestatic 115, 3) := by decide +kernel
theorem d12 : decode yB 12 = .ok (.istore 4, 2) := by decide +kernel
theorem d14 : decode yB 14 = .ok (.iload 4, 2) := by decide +kernel
theorem d16 : decode yB 16 = .ok (.iload_n 2, 1) := by decide +kernel
theorem d17 : decode yB 17 = .ok (.if_icmp (.eq) 40, 3) := by decide +kernel
theorem d57 : decode yB 57 = .ok (.aload_n 3, 1) := by decide +kernel
theorem d58 : decode yB 58 = .ok (.areturn, 1) := by decide +kernel
def site : List Cond := [.arrayClass .byte, Cmp5.tab] ++ staticW U16 115 Cmp5.yN
def tab : Cond := tabOf yN yB 6 (some (.array .byte)) site
def P (b : Addr) (A : Cell) (o len : Nat) (args : Array Value) (s : State) : Prop := args = #[.ref b, .int (Int32.ofNat o), .int (Int32.ofNat len)] ∧ Ch b A s ∧ o + len ≤ A.slots.size ∧ len ≤ 536870912 ∧ ∀ i, i < len → ¬ 255 < cv A (o + i)
def E (b : Addr) (A : Cell) (o len : Nat) (r : Option Value) (s u : State) : Prop := NewArr .byte "[B" len (fun j => .int (lo8 (cv A (o + j)))) r s u ∧ u.heap.size = s.heap.size + 1
/-- no char of the range above 255: a new byte[] of their low bytes -/
theorem law (l : Launch) (b : Addr) (A : Cell) (o len : Nat) : Law l yN 3 3 1 18 yB 6 (some (.array .byte)) site (P b A o len) (E b A o len) [] 1 len := by
  refine Law.of_walk (plainFor_of_name (by decide +kernel)) (by decide +kernel) (by decide +kernel) (by decide) (fun _ _ h => by rw [h.1]; rfl) (fun _ U U' hal hh h => ⟨h.1, h.2.1.mv hal hh, h.2.2⟩) (fun r U U' V V' h1 hal h2 h => ⟨NewArr.mv r U U' V V' h1 hal h2 h.1, by rw [h1, h2]; exact h.2⟩) ?_
  intro p e s m args below meth c s₁ X0 hexec hbytes hml hret hlk hnm hown hh0 W hP
  obtain ⟨rfl, hA, l1, l2, hp⟩ := hP
  have a31 := hA.1.2.2.2
  have c1 : Steps p.tables e below (s₁.setTop (entryFrame m #[.ref b, .int (Int32.ofNat o), .int (Int32.ofNat len)] 6)) (s₁.setTop (mkF m 0 #[.val (.ref b), .val (.int (Int32.ofNat o)), .val (.int (Int32.ofNat len)), .unset, .unset, .unset] [])) := entry rfl
  have c2 : Steps p.tables e below (s₁.setTop (entryFrame m #[.ref b, .int (Int32.ofNat o), .int (Int32.ofNat len)] 6)) (s₁.setTop (mkF m 1 #[.val (.ref b), .val (.int (Int32.ofNat o)), .val (.int (Int32.ofNat len)), .unset, .unset, .unset] [.int (Int32.ofNat len)])) := c1.trans (by
    refine XS.iloadN X0.here hexec rfl (hb hbytes d0) rfl ?_
    exact Steps.refl _)
  obtain ⟨T3, B3, X3, ba3, bs3, bv3, bh3, bf3, st3⟩ := X0.anew hexec (atype := .byte) (wk W (.arrayClass .byte)) rfl (by show len * 1 ≤ _; omega) (by omega) (g := (mkF m 1 #[.val (.ref b), .val (.int (Int32.ofNat o)), .val (.int (Int32.ofNat len)), .unset, .unset, .unset] [.int (Int32.ofNat len)])) rfl (hb hbytes d1) (rest := []) rfl (Nat.le_refl _) (by show 0 + len ≤ len; omega)
  rw [hh0] at ba3 st3
  have kp3 : XT.Kept s T3 := (XT.Kept.of_eq hh0).push bh3
  have hA3 := hA.keep X3.warmed.alike (kp3 _ _ hA.1.1)
  have hne : b ≠ s.heap.size := hA.1.ne
  have c4 : Steps p.tables e below (s₁.setTop (entryFrame m #[.ref b, .int (Int32.ofNat o), .int (Int32.ofNat len)] 6)) (T3.setTop (mkF m 3 #[.val (.ref b), .val (.int (Int32.ofNat o)), .val (.int (Int32.ofNat len)), .unset, .unset, .unset] [.ref s.heap.size])) := c2.trans (st3 _ (Steps.refl _))
  have c5 : Steps p.tables e below (s₁.setTop (entryFrame m #[.ref b, .int (Int32.ofNat o), .int (Int32.ofNat len)] 6)) (T3.setTop (mkF m 9 #[.val (.ref b), .val (.int (Int32.ofNat o)), .val (.int (Int32.ofNat len)), .val (.ref s.heap.size), .unset, .unset] [.int (Int32.ofNat len), .int 0, .ref s.heap.size, .int (Int32.ofNat o), .ref b])) := c4.trans (by
    refine XS.astoreN X3.here hexec rfl (hb hbytes d3) rfl rfl rfl ?_
    refine XS.aloadN X3.here hexec rfl (hb hbytes d4) rfl rfl ?_
    refine XS.iloadN X3.here hexec rfl (hb hbytes d5) rfl ?_
    refine XS.aloadN X3.here hexec rfl (hb hbytes d6) rfl rfl ?_
    refine iconstV X3.here hexec rfl 0 (hb hbytes d7) (by decide) ?_
    refine XS.iloadN X3.here hexec rfl (hb hbytes d8) rfl ?_
    exact Steps.refl _)
  obtain ⟨v6, T6, X6, E6, g6⟩ := X3.callS hexec (Cmp5.law l b A s.heap.size B3 o 0 len) hown (wks W (staticW U16 115 Cmp5.yN)) (wk W Cmp5.tab) (W := 0) (Nat.le_of_ble_eq_true rfl) (Nat.le_of_ble_eq_true rfl) (Nat.le_refl _) (by show 0 + len + 0 ≤ len; omega) (g := (mkF m 9 #[.val (.ref b), .val (.int (Int32.ofNat o)), .val (.int (Int32.ofNat len)), .val (.ref s.heap.size), .unset, .unset] [.int (Int32.ofNat len), .int (Int32.ofNat 0), .ref s.heap.size, .int (Int32.ofNat o), .ref b])) rfl (by rw [hml]; rfl) c5 (argsL := [.ref b, .int (Int32.ofNat o), .ref s.heap.size, .int (Int32.ofNat 0), .int (Int32.ofNat len)]) (rest := []) rfl rfl (by show 2 * 0 + 0 ≤ _; decide) (hb hbytes d9) (⟨rfl, hA3, ba3, hne, l1, by rw [bs3]; simp, hp⟩)
  obtain ⟨rfl, B6, p6, f6⟩ := E6
  have c7 : Steps p.tables e below (s₁.setTop (entryFrame m #[.ref b, .int (Int32.ofNat o), .int (Int32.ofNat len)] 6)) (T6.setTop (mkF m 12 #[.val (.ref b), .val (.int (Int32.ofNat o)), .val (.int (Int32.ofNat len)), .val (.ref s.heap.size), .unset, .unset] [.int (Int32.ofNat len)])) := g6
  have c8 : Steps p.tables e below (s₁.setTop (entryFrame m #[.ref b, .int (Int32.ofNat o), .int (Int32.ofNat len)] 6)) (T6.setTop (mkF m 58 #[.val (.ref b), .val (.int (Int32.ofNat o)), .val (.int (Int32.ofNat len)), .val (.ref s.heap.size), .val (.int (Int32.ofNat len)), .unset] [.ref s.heap.size])) := c7.trans (by
    refine XS.istore X6.here hexec rfl (hb hbytes d12) rfl rfl ?_
    refine XS.iload X6.here hexec rfl (hb hbytes d14) rfl ?_
    refine XS.iloadN X6.here hexec rfl (hb hbytes d16) rfl ?_
    refine XS.icmpYes X6.here hexec rfl (pc0 := 17) rfl (hb hbytes d17) rfl (ii_eq_t rfl) (by decide) rfl ?_
    refine XS.aloadN X6.here hexec rfl (hb hbytes d57) rfl rfl ?_
    exact Steps.refl _)
  have X8 := X6.wide (L' := []) (cells' := 1) (slots' := len) (fun x hx hlt => by
    simp only [List.nil_append, copyLocs, List.mem_map, List.mem_range] at hx
    obtain ⟨i, -, rfl⟩ := hx
    exact absurd hlt (Nat.lt_irrefl _)) (Nat.le_refl _) (by omega)
  exact ⟨T6, some (.ref s.heap.size), _, _, _, X8, rfl, rfl, rfl, (fun h => by cases h), ⟨⟨rfl, B6, ba3.like (X3.warmed.alike.symm.trans X6.warmed.alike) p6.1 f6.1 f6.2.1 f6.2.2.1, f6.2.1.trans bv3, by rw [X6.warmed.alike.findClass, f6.1]; exact bf3, by rw [f6.2.2.1, bs3]; simp, fun j hj => by rw [f6.2.2.2 j, if_pos (by omega)]; rfl, kp3.put p6 (Nat.le_refl _)⟩, by rw [p6.2.2, bh3, hh0]; simp⟩, fun fs hl => c8.trans (X8.areturnOut hexec rfl hret rfl (hb hbytes d58) hl)⟩
end Cmp3
namespace CodL
def yN : MethodName := ⟨"java/lang/StringUTF16", "coderFromArrayLen", "([BI)B"⟩
abbrev yB : ByteArray := jdk_52_method_15_code
theorem d0 : decode yB 0 = .ok (.iload_n 1, 1) := by decide +kernel
theorem d1 : decode yB 1 = .ok (.aload_n 0, 1) := by decide +kernel
theorem d2 : decode yB 2 = .ok (.arraylength, 1) := by decide +kernel
theorem d3 : decode yB 3 = .ok (.isub, 1) := by decide +kernel
theorem d4 : decode yB 4 = .ok (.bipush 31, 2) := by decide +kernel
theorem d6 : decode yB 6 = .ok (.iushr, 1) := by decide +kernel
theorem d7 : decode yB 7 = .ok (.i2b, 1) := by decide +kernel
theorem d8 : decode yB 8 = .ok (.ireturn, 1) := by decide +kernel
def site : List Cond := []
def tab : Cond := tabOf yN yB 2 (some .byte) site
def P (d : Addr) (B : Cell) (args : Array Value) (s : State) : Prop := args = #[.ref d, .int (Int32.ofNat B.slots.size)] ∧ Arr .byte d B s
def E (r : Option Value) (s u : State) : Prop := XT.PureE (some (.int 0)) r s u
/-- an array as long as the number of chars: LATIN1 -/
theorem law (l : Launch) (d : Addr) (B : Cell) : Law l yN 2 2 0 0 yB 2 (some .byte) site (P d B) E [] 0 0 := by
  refine Law.of_walk (plainFor_of_name (by decide +kernel)) (by decide +kernel) (by decide +kernel) (by decide) (fun _ _ h => by rw [h.1]; rfl) (fun _ U U' hal hh h => ⟨h.1, h.2.mv hal hh⟩) (fun r U U' V V' h1 hal h2 h => XT.PureE.mv r U U' V V' h1 hal h2 h) ?_
  intro p e s m args below meth c s₁ X0 hexec hbytes hml hret hlk hnm hown hh0 W hP
  obtain ⟨rfl, hB⟩ := hP
  have hB0 := hB.mv X0.warmed.alike hh0
  have c1 : Steps p.tables e below (s₁.setTop (entryFrame m #[.ref d, .int (Int32.ofNat B.slots.size)] 2)) (s₁.setTop (mkF m 0 #[.val (.ref d), .val (.int (Int32.ofNat B.slots.size))] [])) := entry rfl
  have c2 : Steps p.tables e below (s₁.setTop (entryFrame m #[.ref d, .int (Int32.ofNat B.slots.size)] 2)) (s₁.setTop (mkF m 2 #[.val (.ref d), .val (.int (Int32.ofNat B.slots.size))] [.ref d, .int (Int32.ofNat B.slots.size)])) := c1.trans (by
    refine XS.iloadN X0.here hexec rfl (hb hbytes d0) rfl ?_
    refine XS.aloadN X0.here hexec rfl (hb hbytes d1) rfl rfl ?_
    exact Steps.refl _)
  have c3 : Steps p.tables e below (s₁.setTop (entryFrame m #[.ref d, .int (Int32.ofNat B.slots.size)] 2)) (s₁.setTop (mkF m 8 #[.val (.ref d), .val (.int (Int32.ofNat B.slots.size))] [.int (lo8 (ushr (Int32.ofNat B.slots.size - Int32.ofNat B.slots.size) 31))])) := c2.trans (by
    refine X0.alen hexec hB0 rfl rfl (hb hbytes d2) ?_
    refine XS.isub X0.here hexec rfl (hb hbytes d3) rfl ?_
    refine bipushV X0.here hexec rfl 31 (hb hbytes d4) (by decide) ?_
    refine iushr X0.here hexec rfl (hb hbytes d6) rfl ?_
    refine i2b X0.here hexec rfl (hb hbytes d7) rfl ?_
    exact Steps.refl _)
  have e0 : lo8 (ushr (Int32.ofNat B.slots.size - Int32.ofNat B.slots.size) 31) = 0 := by rw [Int32.sub_self]; decide
  rw [e0] at c3
  exact ⟨s₁, some (.int 0), _, _, _, X0, rfl, rfl, rfl, (fun h => by cases h), ⟨rfl, hh0⟩, fun fs hl => c3.trans (X0.ireturnOut hexec hret rfl (Or.inr (Or.inr (Or.inl rfl))) (hb hbytes d8) hl)⟩
end CodL
/-- the String at a is Latin-1 over a new byte[] (the heap's one new cell): the low bytes of the len chars of A from o on; every cell but a is kept -/
def Got (a : Addr) (D : Cell) (fV fC : Field) (A : Cell) (o len : Nat) (r : Option Value) (s u : State) : Prop := r = none ∧ ∃ D' V : Cell, Blank "java/lang/String" a D' u ∧ Same D D' [fV.slot, fC.slot] ∧ D'.slots[fV.slot]? = some (.ref s.heap.size) ∧ D'.slots[fC.slot]? = some (.int 0) ∧ Arr .byte s.heap.size V u ∧ V.vm = .none ∧ u.vm.findClass "[B" = some V.cls ∧ V.slots.size = len ∧ (∀ j, j < len → V.slots[j]? = some (.int (lo8 (cv A (o + j))))) ∧ (∀ (y : Addr) (c : Cell), y ≠ a → s.heap[y]? = some c → u.heap[y]? = some c) ∧ u.heap.size = s.heap.size + 1
theorem Got.mv {a : Addr} {D A : Cell} {fV fC : Field} {o len : Nat} : ∀ r (U U' V V' : State), U'.heap = U.heap → V.vm.Alike V'.vm → V'.heap = V.heap → Got a D fV fC A o len r U V → Got a D fV fC A o len r U' V' :=
  fun r U U' V V' h1 hal h2 ⟨e0, D', X, a1, a2, a3, a4, a5, a6, a7, a8, a9, a10, a11⟩ => ⟨e0, D', X, a1.mv hal h2, a2, by rw [h1]; exact a3, a4, by rw [h1]; exact a5.mv hal h2, a6, by rw [hal.findClass]; exact a7, a8, a9, by rw [h1, h2]; exact a10, by rw [h1, h2]; exact a11⟩
namespace New4
def yN : MethodName := ⟨"java/lang/String", "<init>", "([CIILjava/lang/Void;)V"⟩
abbrev yB : ByteArray := jdk_42_method_149_code
theorem d0 : decode yB 0 = .ok (.aload_n 0, 1) := by decide +kernel
theorem d1 : decode yB 1 = .ok (.invokespecial 1, 3) := by decide +kernel
theorem d4 : decode yB 4 = .ok (.iload_n 3, 1) := by decide +kernel
theorem d5 : decode yB 5 = .ok (.ifCond (.ne) 22, 3) := by decide +kernel
theorem d27 : decode yB 27 = .ok (.getstatic 38, 3) := by decide +kernel
theorem d30 : decode yB 30 = .ok (.ifCond (.eq) 28, 3) := by decide +kernel
theorem d33 : decode yB 33 = .ok (.aload_n 1, 1) := by decide +kernel
theorem d34 : decode yB 34 = .ok (.iload_n 2, 1) := by decide +kernel
theorem d35 : decode yB 35 = .ok (.iload_n 3, 1) := by decide +kernel
theorem d36 : decode yB 36 = .ok (.invokestatic 177, 3) := by decide +kernel
theorem d39 : decode yB 39 = .ok (.astore 5, 2) := by decide +kernel
theorem d41 : decode yB 41 = .ok (.aload_n 0, 1) := by decide +kernel
theorem d42 : decode yB 42 = .ok (.aload 5, 2) := by decide +kernel
theorem d44 : decode yB 44 = .ok (.iload_n 3, 1) := by decide +kernel
theorem d45 : decode yB 45 = .ok (.invokestatic 47, 3) := by decide +kernel
theorem d48 : decode yB 48 = .ok (.putfield 15, 3) := by decide +kernel
theorem d51 : decode yB 51 = .ok (.aload_n 0, 1) := by decide +kernel
theorem d52 : decode yB 52 = .ok (.aload 5, 2) := by decide +kernel
theorem d54 : decode yB 54 = .ok (.putfield 9, 3) := by decide +kernel
theorem d57 : decode yB 57 = .ok (.return_, 1) := by decide +kernel
def site : List Cond := [.fieldLink "java/lang/String" 38 "java/lang/String" "COMPACT_STRINGS" "Z", Cmp3.tab, CodL.tab, .laysFinal "java/lang/String" "java/lang/String" "value" "[B", .fieldLink "java/lang/String" 9 "java/lang/String" "value" "[B", .laysFinal "java/lang/String" "java/lang/String" "coder" "B", .fieldLink "java/lang/String" 15 "java/lang/String" "coder" "B"] ++ objW "java/lang/String" 1 ++ staticW "java/lang/String" 177 Cmp3.yN ++ staticW "java/lang/String" 47 CodL.yN
def tab : Cond := tabOf yN yB 6 none site
def P (a : Addr) (D : Cell) (fV fC : Field) (b : Addr) (A : Cell) (z : Int32) (o len : Nat) (args : Array Value) (s : State) : Prop := args = #[.ref a, .ref b, .int (Int32.ofNat o), .int (Int32.ofNat len), .null] ∧ Blank "java/lang/String" a D s ∧ Found "java/lang/String" "value" "[B" fV s ∧ Found "java/lang/String" "coder" "B" fC s ∧ Ch b A s ∧ StaticIs s "java/lang/String" "COMPACT_STRINGS" "Z" (.int z) ∧ ¬ z = 0 ∧ 0 < len ∧ o + len ≤ A.slots.size ∧ len ≤ 536870912 ∧ ∀ i, i < len → ¬ 255 < cv A (o + i)
def E (a : Addr) (D : Cell) (fV fC : Field) (A : Cell) (o len : Nat) (r : Option Value) (s u : State) : Prop := Got a D fV fC A o len r s u
/-- len > 0, no char of the range above 255: a Latin-1 String of their low bytes -/
theorem law (l : Launch) (a : Addr) (D : Cell) (fV fC : Field) (b : Addr) (A : Cell) (z : Int32) (o len : Nat) : Law l yN 5 4 2 35 yB 6 none site (P a D fV fC b A z o len) (E a D fV fC A o len) [⟨a, fC.slot⟩, ⟨a, fV.slot⟩] 1 len := by
  refine Law.of_walk (plainFor_of_name (by decide +kernel)) (by decide +kernel) (by decide +kernel) (by decide) (fun _ _ h => by rw [h.1]; rfl) (fun _ U U' hal hh h => ⟨h.1, h.2.1.mv hal hh, h.2.2.1.al hal, h.2.2.2.1.al hal, h.2.2.2.2.1.mv hal hh, h.2.2.2.2.2.1.there hal hh, h.2.2.2.2.2.2⟩) (fun r U U' V V' h1 hal h2 h => Got.mv r U U' V V' h1 hal h2 h) ?_
  intro p e s m args below meth c s₁ X0 hexec hbytes hml hret hlk hnm hown hh0 W hP
  obtain ⟨rfl, hB, f1, f2, hA, s1, hz, l0, l1, l2, hp⟩ := hP
  have a31 := hA.1.2.2.2
  have c1 : Steps p.tables e below (s₁.setTop (entryFrame m #[.ref a, .ref b, .int (Int32.ofNat o), .int (Int32.ofNat len), .null] 6)) (s₁.setTop (mkF m 0 #[.val (.ref a), .val (.ref b), .val (.int (Int32.ofNat o)), .val (.int (Int32.ofNat len)), .val .null, .unset] [])) := entry rfl
  have c2 : Steps p.tables e below (s₁.setTop (entryFrame m #[.ref a, .ref b, .int (Int32.ofNat o), .int (Int32.ofNat len), .null] 6)) (s₁.setTop (mkF m 1 #[.val (.ref a), .val (.ref b), .val (.int (Int32.ofNat o)), .val (.int (Int32.ofNat len)), .val .null, .unset] [.ref a])) := c1.trans (by
    refine XS.aloadN X0.here hexec rfl (hb hbytes d0) rfl rfl ?_
    exact Steps.refl _)
  obtain ⟨T3, X3, q3, st3⟩ := X0.oinit hexec hown (wks W (objW "java/lang/String" 1)) (g := (mkF m 1 #[.val (.ref a), .val (.ref b), .val (.int (Int32.ofNat o)), .val (.int (Int32.ofNat len)), .val .null, .unset] [.ref a])) rfl (by rw [hml]; rfl) (rest := []) rfl (hb hbytes d1) (W := 0) (by show 2 * 0 + 0 ≤ _; decide) (Nat.le_of_ble_eq_true rfl) (Nat.le_of_ble_eq_true rfl)
  have hh3 := q3.trans hh0
  have c4 : Steps p.tables e below (s₁.setTop (entryFrame m #[.ref a, .ref b, .int (Int32.ofNat o), .int (Int32.ofNat len), .null] 6)) (T3.setTop (mkF m 27 #[.val (.ref a), .val (.ref b), .val (.int (Int32.ofNat o)), .val (.int (Int32.ofNat len)), .val .null, .unset] [])) := (c2.trans (st3 _ (Steps.refl _))).trans (by
    refine XS.iloadN X3.here hexec rfl (hb hbytes d4) rfl ?_
    refine XS.ifYes X3.here hexec rfl (pc0 := 5) rfl (hb hbytes d5) rfl (i0_ne_t (nz32 (by omega) l0)) (by decide) rfl ?_
    exact Steps.refl _)
  obtain ⟨T5, X5, q5, st5⟩ := X3.sget hexec hown (wk W (.fieldLink "java/lang/String" 38 "java/lang/String" "COMPACT_STRINGS" "Z")) s1 (fun _ _ h => by rw [hh3]; exact h) (g := (mkF m 27 #[.val (.ref a), .val (.ref b), .val (.int (Int32.ofNat o)), .val (.int (Int32.ofNat len)), .val .null, .unset] [])) rfl (hb hbytes d27)
  have hh5 := q5.trans hh3
  have c6 : Steps p.tables e below (s₁.setTop (entryFrame m #[.ref a, .ref b, .int (Int32.ofNat o), .int (Int32.ofNat len), .null] 6)) (T5.setTop (mkF m 30 #[.val (.ref a), .val (.ref b), .val (.int (Int32.ofNat o)), .val (.int (Int32.ofNat len)), .val .null, .unset] [.int z])) := c4.trans (st5 _ (Steps.refl _))
  have c7 : Steps p.tables e below (s₁.setTop (entryFrame m #[.ref a, .ref b, .int (Int32.ofNat o), .int (Int32.ofNat len), .null] 6)) (T5.setTop (mkF m 36 #[.val (.ref a), .val (.ref b), .val (.int (Int32.ofNat o)), .val (.int (Int32.ofNat len)), .val .null, .unset] [.int (Int32.ofNat len), .int (Int32.ofNat o), .ref b])) := c6.trans (by
    refine XS.ifNo X5.here hexec rfl (hb hbytes d30) rfl (i0_eq_f hz) ?_
    refine XS.aloadN X5.here hexec rfl (hb hbytes d33) rfl rfl ?_
    refine XS.iloadN X5.here hexec rfl (hb hbytes d34) rfl ?_
    refine XS.iloadN X5.here hexec rfl (hb hbytes d35) rfl ?_
    exact Steps.refl _)
  obtain ⟨v8, T8, X8, E8, g8⟩ := X5.callS hexec (Cmp3.law l b A o len) hown (wks W (staticW "java/lang/String" 177 Cmp3.yN)) (wk W Cmp3.tab) (W := 0) (Nat.le_of_ble_eq_true rfl) (Nat.le_of_ble_eq_true rfl) (Nat.le_refl _) (by show 0 + len ≤ len; omega) (g := (mkF m 36 #[.val (.ref a), .val (.ref b), .val (.int (Int32.ofNat o)), .val (.int (Int32.ofNat len)), .val .null, .unset] [.int (Int32.ofNat len), .int (Int32.ofNat o), .ref b])) rfl (by rw [hml]; rfl) c7 (argsL := [.ref b, .int (Int32.ofNat o), .int (Int32.ofNat len)]) (rest := []) rfl rfl (by show 2 * 0 + 0 ≤ _; decide) (hb hbytes d36) (⟨rfl, hA.mv X5.warmed.alike hh5, l1, l2, hp⟩)
  obtain ⟨e8, z8⟩ := E8
  obtain ⟨rfl, N, n1, n2, n3, n4, n5, n6⟩ := NewArr.mv _ T5 s _ _ hh5.symm (Vm.Alike.refl _) rfl e8
  rw [hh5] at z8
  have hB1 := hB.keep X8.warmed.alike (n6 _ _ hB.1)
  have hne : s.heap.size ≠ a := (Nat.ne_of_lt (Array.getElem?_eq_some_iff.mp hB.1).1).symm
  have c9 : Steps p.tables e below (s₁.setTop (entryFrame m #[.ref a, .ref b, .int (Int32.ofNat o), .int (Int32.ofNat len), .null] 6)) (T8.setTop (mkF m 39 #[.val (.ref a), .val (.ref b), .val (.int (Int32.ofNat o)), .val (.int (Int32.ofNat len)), .val .null, .unset] [.ref s.heap.size])) := g8
  have c10 : Steps p.tables e below (s₁.setTop (entryFrame m #[.ref a, .ref b, .int (Int32.ofNat o), .int (Int32.ofNat len), .null] 6)) (T8.setTop (mkF m 45 #[.val (.ref a), .val (.ref b), .val (.int (Int32.ofNat o)), .val (.int (Int32.ofNat len)), .val .null, .val (.ref s.heap.size)] [.int (Int32.ofNat N.slots.size), .ref s.heap.size, .ref a])) := by
    have hc : Steps p.tables e below (s₁.setTop (entryFrame m #[.ref a, .ref b, .int (Int32.ofNat o), .int (Int32.ofNat len), .null] 6)) (T8.setTop (mkF m 45 #[.val (.ref a), .val (.ref b), .val (.int (Int32.ofNat o)), .val (.int (Int32.ofNat len)), .val .null, .val (.ref s.heap.size)] [.int (Int32.ofNat len), .ref s.heap.size, .ref a])) := c9.trans (by
      refine XS.astore X8.here hexec rfl (hb hbytes d39) rfl rfl rfl ?_
      refine XS.aloadN X8.here hexec rfl (hb hbytes d41) rfl rfl ?_
      refine XS.aload X8.here hexec rfl (hb hbytes d42) rfl rfl ?_
      refine XS.iloadN X8.here hexec rfl (hb hbytes d44) rfl ?_
      exact Steps.refl _)
    rw [n4]; exact hc
  obtain ⟨v11, T11, X11, E11, g11⟩ := X8.callS hexec (CodL.law l s.heap.size N) hown (wks W (staticW "java/lang/String" 47 CodL.yN)) (wk W CodL.tab) (W := 1) (Nat.le_of_ble_eq_true rfl) (Nat.le_of_ble_eq_true rfl) (Nat.le_refl _) (by show 0 + len + 0 ≤ len; omega) (g := (mkF m 45 #[.val (.ref a), .val (.ref b), .val (.int (Int32.ofNat o)), .val (.int (Int32.ofNat len)), .val .null, .val (.ref s.heap.size)] [.int (Int32.ofNat N.slots.size), .ref s.heap.size, .ref a])) rfl (by rw [hml]; rfl) c10 (argsL := [.ref s.heap.size, .int (Int32.ofNat N.slots.size)]) (rest := [.ref a]) rfl rfl (by show 2 * 0 + (1 + 0) ≤ _; decide) (hb hbytes d45) (⟨rfl, n1⟩)
  obtain ⟨rfl, q11⟩ := E11
  have hB11 := hB1.mv (X8.warmed.alike.symm.trans X11.warmed.alike) q11
  have c12 : Steps p.tables e below (s₁.setTop (entryFrame m #[.ref a, .ref b, .int (Int32.ofNat o), .int (Int32.ofNat len), .null] 6)) (T11.setTop (mkF m 48 #[.val (.ref a), .val (.ref b), .val (.int (Int32.ofNat o)), .val (.int (Int32.ofNat len)), .val .null, .val (.ref s.heap.size)] [.int 0, .ref a])) := g11
  obtain ⟨T13, X13, p13, bl13, sl13, st13⟩ := X11.finit hexec hown (wk W (.fieldLink "java/lang/String" 15 "java/lang/String" "coder" "B")) (Or.inr ⟨_, (wk W (.laysFinal "java/lang/String" "java/lang/String" "coder" "B"))⟩) (Or.inl ⟨rfl, hnm⟩) f2 (Or.inl rfl) hB11 (t := .byte) (by decide +kernel) rfl (g := (mkF m 48 #[.val (.ref a), .val (.ref b), .val (.int (Int32.ofNat o)), .val (.int (Int32.ofNat len)), .val .null, .val (.ref s.heap.size)] [.int 0, .ref a])) rfl (rest := []) rfl (hb hbytes d48)
  have c14 : Steps p.tables e below (s₁.setTop (entryFrame m #[.ref a, .ref b, .int (Int32.ofNat o), .int (Int32.ofNat len), .null] 6)) (T13.setTop (mkF m 54 #[.val (.ref a), .val (.ref b), .val (.int (Int32.ofNat o)), .val (.int (Int32.ofNat len)), .val .null, .val (.ref s.heap.size)] [.ref s.heap.size, .ref a])) := (c12.trans (st13 _ (Steps.refl _))).trans (by
    refine XS.aloadN X13.here hexec rfl (hb hbytes d51) rfl rfl ?_
    refine XS.aload X13.here hexec rfl (hb hbytes d52) rfl rfl ?_
    exact Steps.refl _)
  obtain ⟨T15, X15, p15, bl15, sl15, st15⟩ := X13.finit hexec hown (wk W (.fieldLink "java/lang/String" 9 "java/lang/String" "value" "[B")) (Or.inr ⟨_, (wk W (.laysFinal "java/lang/String" "java/lang/String" "value" "[B"))⟩) (Or.inl ⟨rfl, hnm⟩) f1 (Or.inl rfl) bl13 (t := (.array .byte)) (by decide +kernel) rfl (g := (mkF m 54 #[.val (.ref a), .val (.ref b), .val (.int (Int32.ofNat o)), .val (.int (Int32.ofNat len)), .val .null, .val (.ref s.heap.size)] [.ref s.heap.size, .ref a])) rfl (rest := []) rfl (hb hbytes d54)
  have c16 : Steps p.tables e below (s₁.setTop (entryFrame m #[.ref a, .ref b, .int (Int32.ofNat o), .int (Int32.ofNat len), .null] 6)) (T15.setTop (mkF m 57 #[.val (.ref a), .val (.ref b), .val (.int (Int32.ofNat o)), .val (.int (Int32.ofNat len)), .val .null, .val (.ref s.heap.size)] [])) := c14.trans (st15 _ (Steps.refl _))
  have ap := apart (Or.inr ⟨_, (wk W (.laysFinal "java/lang/String" "java/lang/String" "value" "[B"))⟩) (Or.inr ⟨_, (wk W (.laysFinal "java/lang/String" "java/lang/String" "coder" "B"))⟩) f1 f2 (t₁ := .array .byte) (t₂ := .byte) (by decide +kernel) (by decide +kernel) (by decide)
  have al := X8.warmed.alike.symm.trans X15.warmed.alike
  have n7 : T11.heap[s.heap.size]? = some N := by rw [q11]; exact n1.1
  exact ⟨T15, none, _, _, _, X15, by simp, rfl, by omega, (fun _ => rfl), ⟨rfl, _, N, bl15, ((Same.refl D _).set _ (by simp)).set _ (by simp), sl15, (Cell.slots_setSlot_ne _ ap).trans sl13, n1.keep al (p15.other hne (p13.other hne n7)), n2, by rw [al.findClass]; exact n3, n4, n5, fun y c h1 h2 => p15.other h1 (p13.other h1 (by rw [q11]; exact n6 y c h2)), by rw [p15.2.2, p13.2.2, q11]; exact z8⟩, fun fs hl => c16.trans (X15.returnOut hexec hret (hb hbytes d57) hl)⟩
end New4
namespace New1
def yN : MethodName := ⟨"java/lang/String", "<init>", "([C)V"⟩
abbrev yB : ByteArray := jdk_42_method_3_code
theorem d0 : decode yB 0 = .ok (.aload_n 0, 1) := by decide +kernel
theorem d1 : decode yB 1 = .ok (.aload_n 1, 1) := by decide +kernel
theorem d2 : decode yB 2 = .ok (.iconst 0, 1) := by decide +kernel
theorem d3 : decode yB 3 = .ok (.aload_n 1, 1) := by decide +kernel
theorem d4 : decode yB 4 = .ok (.arraylength, 1) := by decide +kernel
theorem d5 : decode yB 5 = .ok (.aconst_null, 1) := by decide +kernel
theorem d6 : decode yB 6 = .ok (.invokespecial 27, 3) := by decide +kernel
theorem d9 : decode yB 9 = .ok (.return_, 1) := by decide +kernel
def site : List Cond := [New4.tab] ++ initW "java/lang/String" 27 New4.yN
def tab : Cond := tabOf yN yB 2 none site
def P (a : Addr) (D : Cell) (fV fC : Field) (b : Addr) (A : Cell) (z : Int32) (args : Array Value) (s : State) : Prop := args = #[.ref a, .ref b] ∧ Blank "java/lang/String" a D s ∧ Found "java/lang/String" "value" "[B" fV s ∧ Found "java/lang/String" "coder" "B" fC s ∧ Ch b A s ∧ StaticIs s "java/lang/String" "COMPACT_STRINGS" "Z" (.int z) ∧ ¬ z = 0 ∧ 0 < A.slots.size ∧ A.slots.size ≤ 536870912 ∧ ∀ i, i < A.slots.size → ¬ 255 < cv A i
def E (a : Addr) (D : Cell) (fV fC : Field) (A : Cell) (r : Option Value) (s u : State) : Prop := Got a D fV fC A 0 A.slots.size r s u
/-- new String(chars), not empty, no char above 255: a Latin-1 String of their low bytes -/
theorem law (l : Launch) (a : Addr) (D : Cell) (fV fC : Field) (b : Addr) (A : Cell) (z : Int32) : Law l yN 2 1 3 52 yB 2 none site (P a D fV fC b A z) (E a D fV fC A) [⟨a, fC.slot⟩, ⟨a, fV.slot⟩] 1 A.slots.size := by
  refine Law.of_walk (plainFor_of_name (by decide +kernel)) (by decide +kernel) (by decide +kernel) (by decide) (fun _ _ h => by rw [h.1]; rfl) (fun _ U U' hal hh h => ⟨h.1, h.2.1.mv hal hh, h.2.2.1.al hal, h.2.2.2.1.al hal, h.2.2.2.2.1.mv hal hh, h.2.2.2.2.2.1.there hal hh, h.2.2.2.2.2.2⟩) (fun r U U' V V' h1 hal h2 h => Got.mv r U U' V V' h1 hal h2 h) ?_
  intro p e s m args below meth c s₁ X0 hexec hbytes hml hret hlk hnm hown hh0 W hP
  obtain ⟨rfl, hB, f1, f2, hA, s1, hz, l0, l2, hp⟩ := hP
  have c1 : Steps p.tables e below (s₁.setTop (entryFrame m #[.ref a, .ref b] 2)) (s₁.setTop (mkF m 0 #[.val (.ref a), .val (.ref b)] [])) := entry rfl
  have c2 : Steps p.tables e below (s₁.setTop (entryFrame m #[.ref a, .ref b] 2)) (s₁.setTop (mkF m 6 #[.val (.ref a), .val (.ref b)] [.null, .int (Int32.ofNat A.slots.size), .int 0, .ref b, .ref a])) := c1.trans (by
    refine XS.aloadN X0.here hexec rfl (hb hbytes d0) rfl rfl ?_
    refine XS.aloadN X0.here hexec rfl (hb hbytes d1) rfl rfl ?_
    refine iconstV X0.here hexec rfl 0 (hb hbytes d2) (by decide) ?_
    refine XS.aloadN X0.here hexec rfl (hb hbytes d3) rfl rfl ?_
    refine X0.alen hexec (hA.1.mv X0.warmed.alike hh0) rfl rfl (hb hbytes d4) ?_
    refine XS.aconstNull X0.here hexec rfl (hb hbytes d5) ?_
    exact Steps.refl _)
  obtain ⟨v3, T3, X3, E3, g3⟩ := X0.callN hexec (New4.law l a D fV fC b A z 0 A.slots.size) rfl hown (wks W (initW "java/lang/String" 27 New4.yN)) (W New4.tab (by simp only [site, List.mem_cons, List.mem_append, true_or, or_true])) (W := 0) (Nat.le_of_ble_eq_true rfl) (Nat.le_of_ble_eq_true rfl) (Nat.le_refl _) (by show 0 + A.slots.size ≤ A.slots.size; omega) (g := (mkF m 6 #[.val (.ref a), .val (.ref b)] [.null, .int (Int32.ofNat A.slots.size), .int (Int32.ofNat 0), .ref b, .ref a])) rfl (by rw [hml]; rfl) c2 (argsL := [.ref b, .int (Int32.ofNat 0), .int (Int32.ofNat A.slots.size), .null]) (rest := []) rfl rfl (by show 2 * 0 + 0 ≤ _; decide) (hb hbytes d6) (⟨rfl, hB.mv X0.warmed.alike hh0, f1.al X0.warmed.alike, f2.al X0.warmed.alike, hA.mv X0.warmed.alike hh0, s1.there X0.warmed.alike hh0, hz, l0, by omega, l2, fun i hi => by rw [Nat.zero_add]; exact hp i hi⟩)
  have e0 := Got.mv _ s₁ s _ _ hh0.symm (Vm.Alike.refl _) rfl E3
  obtain rfl := e0.1
  have c4 : Steps p.tables e below (s₁.setTop (entryFrame m #[.ref a, .ref b] 2)) (T3.setTop (mkF m 9 #[.val (.ref a), .val (.ref b)] [])) := g3
  exact ⟨T3, none, _, _, _, X3, by simp, rfl, by omega, (fun _ => rfl), e0, fun fs hl => c4.trans (X3.returnOut hexec hret (hb hbytes d9) hl)⟩
theorem pays {l : Launch} {R : Room} {p : Program} {e : Env} {below : List Frame} {s : State} {sargs : Array Value} {len W : Nat} (a : Addr) (D : Cell) (fV fC : Field) (b : Addr) (A : Cell) (z : Int32) (htab : tab.before sargs s = true) (hfr : 4 ≤ R.frames) (hlo : W + 65 ≤ R.locals) :
    Back l R p e below s sargs yN len W (fun A₁ a₁ => A₁.cells + 1 ≤ R.cells ∧ A₁.slots + A.slots.size ≤ R.slots ∧ P a D fV fC b A z a₁ A₁.U) (fun A₁ _ v₁ B₁ => E a D fV fC A v₁ A₁.U B₁.U ∧ B₁.locs = A₁.locs ++ [⟨a, fC.slot⟩, ⟨a, fV.slot⟩] ∧ B₁.cells = A₁.cells + 1 ∧ B₁.slots = A₁.slots + A.slots.size) :=
  (law l a D fV fC b A z).pays htab hfr (by omega)
end New1
/-- the byte, read back as charAt reads it, is the char -/
theorem lo8_mask {x : Int32} (h0 : ¬ x < 0) (h1 : ¬ 255 < x) : lo8 x &&& 255 = x := by
  have t : ∀ k : Fin 256, lo8 (Int32.ofNat k.val) &&& 255 = Int32.ofNat k.val := by decide +kernel
  rw [Int32.lt_iff_toInt_lt] at h0 h1
  have e0 : (0 : Int32).toInt = 0 := rfl
  have e1 : (255 : Int32).toInt = 255 := rfl
  obtain ⟨k, hk⟩ : ∃ k : Nat, x.toInt = k := ⟨x.toInt.toNat, by omega⟩
  have hx : x = Int32.ofNat k := Int32.toInt_inj.mp (by rw [hk, Int32.toInt_ofNat_small (by omega)])
  rw [hx]
  exact t ⟨k, by omega⟩
end StrChars
namespace StrChars.Road
open Jvm Sem ClassFile Op Lib Jvm.Stand Jvm.Free Jvm.Free.XT
open Jvm.Lib.Cold (StaticIs)
abbrev ST : String := "java/lang/String"
/-- every table word that New1's law asks, flat -/
abbrev words : List Jvm.Cond := [.code New1.yN New1.yB 2 none, .initialized ST, .methodLink ST 27 New4.yN, .instanceMethod New4.yN,
  .code New4.yN New4.yB 6 none, .fieldLink ST 38 ST "COMPACT_STRINGS" "Z", .laysFinal ST ST "value" "[B", .fieldLink ST 9 ST "value" "[B", .laysFinal ST ST "coder" "B", .fieldLink ST 15 ST "coder" "B",
  .methodLink ST 1 Lib.objectInit, .instanceMethod Lib.objectInit, .code Lib.objectInit ⟨#[0xb1]⟩ 1 none, .methodLink ST 177 Cmp3.yN, .static Cmp3.yN, .methodLink ST 47 CodL.yN, .static CodL.yN,
  .code Cmp3.yN Cmp3.yB 6 (some (.array .byte)), .initialized U16, .arrayClass .byte, .methodLink U16 115 Cmp5.yN, .static Cmp5.yN, .code Cmp5.yN Cmp5.yB 7 (some .int), .code CodL.yN CodL.yB 2 (some .byte)]
theorem tab_of {a : Array Value} {s : State} (h : ∀ w ∈ words, w.before a s = true) : New1.tab.before a s = true := by
  have h5 : Cmp5.tab.before a s = true := unparts (wk h (.code Cmp5.yN Cmp5.yB 7 (some .int))) (wks h (.initialized Cmp5.yN.cls :: Cmp5.site))
  have hc : CodL.tab.before a s = true := unparts (wk h (.code CodL.yN CodL.yB 2 (some .byte))) (wks h (.initialized CodL.yN.cls :: CodL.site))
  have q5 : ∀ w ∈ Cmp5.tab :: words, w.before a s = true := fun w hw => (List.mem_cons.mp hw).elim (fun e => e ▸ h5) (h w)
  have h3 : Cmp3.tab.before a s = true := unparts (wk q5 (.code Cmp3.yN Cmp3.yB 6 (some (.array .byte)))) (wks q5 (.initialized Cmp3.yN.cls :: Cmp3.site))
  have q3 : ∀ w ∈ Cmp3.tab :: CodL.tab :: words, w.before a s = true := fun w hw => (List.mem_cons.mp hw).elim (fun e => e ▸ h3) fun hw => (List.mem_cons.mp hw).elim (fun e => e ▸ hc) (h w)
  have h4 : New4.tab.before a s = true := unparts (wk q3 (.code New4.yN New4.yB 6 none)) (wks q3 (.initialized New4.yN.cls :: New4.site))
  have q4 : ∀ w ∈ New4.tab :: words, w.before a s = true := fun w hw => (List.mem_cons.mp hw).elim (fun e => e ▸ h4) (h w)
  exact unparts (wk q4 (.code New1.yN New1.yB 2 none)) (wks q4 (.initialized New1.yN.cls :: New1.site))
/-- the words ride from the start Z to the walk's own state -/
theorem moved {Z s : State} {a0 args : Array Value} (hZ : Z.Warmed39 s.vm) (hw : ∀ d ∈ words, d.before a0 Z = true) : ∀ d ∈ words, d.before args s = true := fun d hd => by
  have q := hw d hd
  have t : ∀ d ∈ words, d = .arrayClass .byte ∨ (d.onTables && d.keepsFace) = true := by decide +kernel
  rcases t d hd with rfl | t
  · exact RoadKit.mvA hZ q
  · exact RoadKit.mv hZ q t
/-- WHAT COMES BACK, over the tables of the start Z: h the heap at the call, h' behind it -/
def Q (Z : State) (x : Addr) (A : Cell) (h : Heap) (v : Option Value) (h' : Heap) (L : List Loc) : Prop := v = none ∧ (∀ y ∈ L, y.base = x) ∧ RoadKit.Keep h h' [x] ∧ h'.size = h.size + 1 ∧ RoadKit.Exa Z h' x ST ∧ RoadKit.Fld Z h' x ST "value" "[B" (.ref h.size) ∧ RoadKit.Fld Z h' x ST "coder" "B" (.int 0) ∧
  (∃ V : Cell, RoadKit.Arr Z h' h.size V .byte ∧ V.vm = .none ∧ Z.vm.findClass "[B" = some V.cls ∧ V.slots.size = A.slots.size ∧ ∀ j, j < A.slots.size → V.slots[j]? = some (.int (lo8 (cv A j)))) ∧
  ∀ (O n d : String) (w : Value), RoadKit.Fld Z h x O n d w → RoadKit.slotOf Z O n d ≠ RoadKit.slotOf Z ST "value" "[B" → RoadKit.slotOf Z O n d ≠ RoadKit.slotOf Z ST "coder" "B" → RoadKit.Fld Z h' x O n d w
/-- **new String(chars) AT A CALL, IN THE ROAD'S FORM**: for specialBack behind newO: x the fresh String, b the char[] with the cell A -/
theorem back {p : Program} {l : Launch} {e : Env} {R : Room} {s : State} {args : Array Value} {below : List Frame} {len W : Nat} {Z : State} {a0 : Array Value} {h : Heap} (hZ : Z.Warmed39 s.vm) (hw : ∀ d ∈ words, d.before a0 Z = true) {kI : Nat} (wi : (Jvm.Cond.instantiable ST kI).before a0 Z = true)
    {x b : Addr} {A : Cell} {z : Int32} {v0 c0 : Value} (E : RoadKit.Exa Z h x ST) (V : RoadKit.Fld Z h x ST "value" "[B" v0) (C : RoadKit.Fld Z h x ST "coder" "B" c0) (K : RoadKit.Arr Z h b A .char) (hty : Typed .char A) (S : RoadKit.Sta Z h ST "COMPACT_STRINGS" "Z" (.int z)) (hz : ¬ z = 0)
    (l0 : 0 < A.slots.size) (l2 : A.slots.size ≤ 536870912) (hp : ∀ i, i < A.slots.size → ¬ 255 < cv A i) (hfr : 4 ≤ R.frames) (hlo : W + 65 ≤ R.locals) :
    Back l R p e below s args New1.yN len W (fun P a => a = #[.ref x, .ref b] ∧ P.U.heap = h ∧ P.cells + 1 ≤ R.cells ∧ P.slots + A.slots.size ≤ R.slots)
      (fun P _ v B => ∃ L, Q Z x A h v B.U.heap L ∧ B.locs = P.locs ++ L ∧ B.cells = P.cells + 1 ∧ B.slots = P.slots + A.slots.size) := by
  intro m meth c P g ig mk a X hg hsize hdg hW hn hp'
  obtain ⟨rfl, rfl, r1, r2⟩ := hp'
  have al : Z.vm.Alike P.U.vm := hZ.alike.trans X.warmed.alike
  obtain ⟨D, cfV, kV, iV, fV, hD, gV, stV, knV, obV, asV, slV⟩ := id V
  obtain ⟨D', cfC, kC, iC, fC, hD', gC, stC, -, -, asC, slC⟩ := id C
  cases hD.symm.trans hD'
  obtain ⟨D2, kD, e1, e2, e3, e4, e5⟩ := id E
  cases hD.symm.trans e1
  obtain ⟨c2, k2, i1, i2, i3, -⟩ := Cond.instantiable_spec wi
  cases e2.symm.trans i1
  cases e3.symm.trans i2
  obtain ⟨kU, u1, u2⟩ := al.2.2 _ _ e3
  have hB : Blank ST x D P.U := ⟨hD, ⟨knV, fun q hq => by rw [hq] at obV; cases obV⟩, by rw [al.findClass]; exact e2, kU, u1, by rw [u2]; exact i3, by rw [u2]; exact e5 i3⟩
  have F1 : Found ST "value" "[B" fV P.U := ⟨SBG.found_only al ⟨cfV, kV, iV, gV⟩, stV⟩
  have F2 : Found ST "coder" "B" fC P.U := ⟨SBG.found_only al ⟨cfC, kC, iC, gC⟩, stC⟩
  have hA : Ch b A P.U := ⟨⟨K.1, State.isArrayOf_alike al K.2.1, K.2.2, by omega⟩, hty⟩
  have hS : StaticIs P.U ST "COMPACT_STRINGS" "Z" (.int z) := by
    obtain ⟨cfS, iS, kS, fS, st, cS, t1, t2, t3, t4, t5, t6, t7⟩ := S
    exact StaticIs.there (s := { Z with heap := P.U.heap }) ⟨cfS, iS, kS, fS, st, cS, t1, t2, t3, t4, t5, (fun q => by rw [q] at t6; cases t6), t7⟩ al rfl
  obtain ⟨v, B, X', ⟨⟨hv, E', V', q1, q2, q3, q4, q5, q6, q7, q8, q9, q10, q11⟩, hl, hc, hs⟩, st⟩ := New1.pays x D fV fC b A z (tab_of (moved hZ hw)) hfr hlo m meth c P g ig mk _ X hg hsize hdg hW hn ⟨r1, r2, rfl, hB, F1, F2, hA, hS, hz, l0, l2, hp⟩
  have al' : Z.vm.Alike B.U.vm := hZ.alike.trans X'.warmed.alike
  have hsz : E'.slots.size = D.slots.size := by
    obtain ⟨-, -, -, kB, w1, w2, w3⟩ := q1
    obtain ⟨kB', y1, y2⟩ := al'.2.2 _ _ e3
    rw [q2.2.1] at w1
    cases w1.symm.trans y1
    rw [w3, e5 i3, y2]
  refine ⟨v, B, X', ⟨_, ⟨hv, ?_, ⟨by omega, fun y cy hy hn' => q10 y cy (by simpa using hn') hy, fun y cy hy => ?_⟩, q11, ⟨E', _, q1.1, by rw [q2.2.1]; exact e2, by rw [q2.2.1]; exact e3, by rw [q2.1]; exact obV, fun _ => by rw [hsz]; exact e5 i3⟩,
    ⟨E', cfV, kV, iV, fV, q1.1, gV, stV, by rw [q2.1]; exact knV, by rw [q2.1]; exact obV, by rw [q2.2.1]; exact asV, q3⟩, ⟨E', cfC, kC, iC, fC, q1.1, gC, stC, by rw [q2.1]; exact knV, by rw [q2.1]; exact obV, by rw [q2.2.1]; exact asC, q4⟩,
    ⟨V', ⟨q5.1, State.isArrayOf_alike al'.symm q5.2.1, q5.2.2.1⟩, q6, by rw [← al'.findClass]; exact q7, q8, fun j hj => by have := q9 j hj; rwa [Nat.zero_add] at this⟩, fun O n d w F n1 n2 => ?_⟩, hl, hc, hs⟩, st⟩
  · intro y hy
    simp only [List.mem_cons, List.not_mem_nil, or_false] at hy
    rcases hy with rfl | rfl <;> rfl
  · by_cases q : y = x
    · subst q
      cases hD.symm.trans hy
      exact ⟨E', q1.1, q2.2.1, q2.1, hsz⟩
    · exact ⟨cy, q10 y cy q hy, rfl, rfl, rfl⟩
  · obtain ⟨D3, cf, k, i, f, g1, g2, g3, g4, g5, g6, g7⟩ := F
    cases hD.symm.trans g1
    simp only [RoadKit.slotOf, g2, gV, gC, Option.map_some, Option.getD_some] at n1 n2
    exact ⟨E', cf, k, i, f, q1.1, g2, g3, by rw [q2.1]; exact g4, by rw [q2.1]; exact g5, by rw [q2.2.1]; exact g6, by rw [q2.2.2 f.slot (by simp [n1, n2])]; exact g7⟩
end StrChars.Road
namespace StrChars.Road
open Jvm Sem ClassFile Op Lib Jvm.Stand Jvm.Free Jvm.Free.XT
/-- WHAT COMES BACK, the byte[] as a list of values -/
def QA (Z : State) (x : Addr) (zn : Int32) (cs : List Int32) (h : Heap) (v : Option Value) (h' : Heap) (L : List Loc) : Prop := v = none ∧ (∀ y ∈ L, y.base = x) ∧ RoadKit.Keep h h' [x] ∧ h'.size = h.size + 1 ∧ RoadKit.Exa Z h' x ST ∧ RoadKit.Fld Z h' x ST "value" "[B" (.ref h.size) ∧ RoadKit.Fld Z h' x ST "coder" "B" (.int 0) ∧
  (∃ kb, Z.vm.findClass "[B" = some kb ∧ RoadKit.Arv Z h' h.size kb .byte zn (cs.map fun c => .int (lo8 c)) (.int 0)) ∧
  ∀ (O n d : String) (w : Value), RoadKit.Fld Z h x O n d w → RoadKit.slotOf Z O n d ≠ RoadKit.slotOf Z ST "value" "[B" → RoadKit.slotOf Z O n d ≠ RoadKit.slotOf Z ST "coder" "B" → RoadKit.Fld Z h' x O n d w
/-- **new String(chars) AT A CALL, THE ARRAYS AS LISTS**: the char[] at b holds cs, not empty, no char above 255 -/
theorem backArv {p : Program} {l : Launch} {e : Env} {R : Room} {s : State} {args : Array Value} {below : List Frame} {len W : Nat} {Z : State} {a0 : Array Value} {h : Heap} (hZ : Z.Warmed39 s.vm) (hw : ∀ d ∈ words, d.before a0 Z = true) {kI : Nat} (wi : (Jvm.Cond.instantiable ST kI).before a0 Z = true)
    {x b : Addr} {k : ClassId} {zn z : Int32} {cs : List Int32} {dv v0 c0 : Value} (E : RoadKit.Exa Z h x ST) (V : RoadKit.Fld Z h x ST "value" "[B" v0) (C : RoadKit.Fld Z h x ST "coder" "B" c0) (K : RoadKit.Arv Z h b k .char zn (cs.map Value.int) dv) (S : RoadKit.Sta Z h ST "COMPACT_STRINGS" "Z" (.int z)) (hz : ¬ z = 0)
    (hlen : zn.toNatClampNeg = cs.length) (h0 : 0 < cs.length) (hbig : cs.length ≤ 536870912) (hall : ∀ c ∈ cs, ¬ 255 < c) (hfr : 4 ≤ R.frames) (hlo : W + 65 ≤ R.locals) :
    Back l R p e below s args New1.yN len W (fun P a => a = #[.ref x, .ref b] ∧ P.U.heap = h ∧ P.cells + 1 ≤ R.cells ∧ P.slots + cs.length ≤ R.slots)
      (fun P _ v B => ∃ L, QA Z x zn cs h v B.U.heap L ∧ B.locs = P.locs ++ L ∧ B.cells = P.cells + 1 ∧ B.slots = P.slots + cs.length) := by
  obtain ⟨A, K1, K2, K3, K4, K5, K6⟩ := K
  have e : A.slots.size = cs.length := K3.trans hlen
  have hat : ∀ (i : Nat) (hi : i < cs.length), A.slots[i]? = some (.int cs[i]) := fun i hi => by rw [K5 i (by omega)]; simp [List.getD_eq_getElem?_getD, hi]
  have hcv : ∀ (i : Nat) (hi : i < cs.length), cv A i = cs[i] := fun i hi => by unfold cv; rw [hat i hi]
  have hty : Typed .char A := fun i v hv => by
    have hi : i < A.slots.size := (Array.getElem?_eq_some_iff.mp hv).1
    have q := K5 i hi
    rw [hv] at q
    rw [Option.some.inj q]
    exact K6 i hi
  refine Back.mono (back hZ hw wi E V C K1 hty S hz (by omega) (by omega) (fun i hi => by rw [hcv i (by omega)]; exact hall _ (List.getElem_mem _)) hfr hlo) (fun P a hp => ⟨hp.1, hp.2.1, hp.2.2.1, by rw [e]; exact hp.2.2.2⟩) (fun P a v B hp hq => ?_)
  obtain ⟨L, ⟨q1, q2, q3, q4, q5, q6, q7, ⟨V', v1, v2, v3, v4, v5⟩, q9⟩, hl, hc, hs⟩ := hq
  refine ⟨L, ⟨q1, q2, q3, q4, q5, q6, q7, ⟨V'.cls, v3, V', v1, rfl, by rw [v4, e, hlen], K4, fun i hi => ?_, fun i hi => ?_⟩, q9⟩, hl, hc, by rw [hs, e]⟩
  · have hi' : i < cs.length := by omega
    rw [v5 i (by omega), hcv i hi']; simp [List.getD_eq_getElem?_getD, hi']
  · have hi' : i < cs.length := by omega
    simp only [List.getD_eq_getElem?_getD, List.getElem?_map, List.getElem?_eq_getElem hi', Option.map_some, Option.getD_some]
    exact fits_lo8 _
end StrChars.Road
namespace StrChars.Road
open Jvm Sem ClassFile Op Lib Jvm.Stand Jvm.Free Jvm.Free.XT
/-- WHAT COMES BACK, in the writer's own shape -/
def QV (Z : State) (x : Addr) (N : Int32) (bs : List Int32) (h : Heap) (n0 : Nat) (v : Option Value) (h' : Heap) (L : List Loc) : Prop := v = none ∧ RoadKit.Fr n0 L ∧ RoadKit.Keep h h' [x] ∧ RoadKit.Exa Z h' x ST ∧ RoadKit.Fld Z h' x ST "coder" "B" (.int 0) ∧
  ∃ (t : Addr) (kb : ClassId), n0 ≤ t ∧ h.size ≤ t ∧ ¬ t = x ∧ RoadKit.Fld Z h' x ST "value" "[B" (.ref t) ∧ RoadKit.Arv Z h' t kb .byte N (bs.map Value.int) (.int 0)
/-- **new String(chars) AT A CALL, FOR THE WRITER**: a char[] of n known ints, each 0 to 255 -/
theorem backV {p : Program} {l : Launch} {e : Env} {R : Room} {s : State} {args : Array Value} {below : List Frame} {len W : Nat} {Z : State} {a0 : Array Value} {h : Heap} (hZ : Z.Warmed39 s.vm) (hw : ∀ d ∈ words, d.before a0 Z = true) {kI : Nat} (wi : (Jvm.Cond.instantiable ST kI).before a0 Z = true)
    {x b : Addr} {kC : ClassId} {cs bs : List Int32} {d v0 c0 : Value} {z N : Int32} {n n0 : Nat} (hx0 : n0 ≤ x) (hh0 : n0 ≤ h.size) (E : RoadKit.Exa Z h x ST) (V : RoadKit.Fld Z h x ST "value" "[B" v0) (C : RoadKit.Fld Z h x ST "coder" "B" c0) (K : RoadKit.Arv Z h b kC .char N (cs.map Value.int) d) (S : RoadKit.Sta Z h ST "COMPACT_STRINGS" "Z" (.int z)) (hz : ¬ z = 0)
    (hn : cs.length = n) (hN : N = Int32.ofNat n) (l0 : 0 < n) (l2 : n ≤ 4000) (hp : ∀ c ∈ cs, ¬ c < 0 ∧ ¬ (255 : Int32) < c) (hb : bs = cs.map (fun c => c.toInt8.toInt32)) (hfr : 4 ≤ R.frames) (hlo : W + 65 ≤ R.locals) :
    Back l R p e below s args (⟨"java/lang/String", "<init>", "([C)V"⟩ : MethodName) len W (fun P a => a = #[.ref x, .ref b] ∧ P.U.heap = h ∧ P.cells + 1 ≤ R.cells ∧ P.slots + n ≤ R.slots)
      (fun P _ v B => ∃ L, QV Z x N bs h n0 v B.U.heap L ∧ B.locs = P.locs ++ L ∧ B.cells = P.cells + 1 ∧ B.slots = P.slots + n) := by
  subst hn hN hb
  refine Back.mono (backArv hZ hw wi E V C K S hz (n32 (by omega)) l0 (by omega) (fun c hc => (hp c hc).2) hfr hlo) (fun P a hp => hp) (fun P a v B hp hq => ?_)
  obtain ⟨L, ⟨q1, q2, q3, q4, q5, q6, q7, ⟨kb, v1, v2⟩, q9⟩, hl, hc, hs⟩ := hq
  exact ⟨L, ⟨q1, fun y hy => by rw [q2 y hy]; exact hx0, q3, q5, q7, h.size, kb, hh0, Nat.le_refl _, Nat.ne_of_gt E.lt, q6, by rw [List.map_map]; exact v2⟩, hl, hc, hs⟩
end StrChars.Road
namespace StrChars
open Jvm Sem ClassFile Op Lib Jvm.Stand Jvm.Free.XT Jvm.Free.ALB Jvm.Free.JM Jvm.Free
open Jvm.Lib.Cold (StaticIs)
def hi8 (x : Int32) : Int32 := lo8 (x >>> ((8 : Int32) &&& 31))
/-- what StringUTF16.getChar makes of two bytes -/
def pairCh (u v : Int32) : Int32 := (((u &&& 255) <<< ((0 : Int32) &&& 31)) ||| ((v &&& 255) <<< ((8 : Int32) &&& 31))).toUInt32.toUInt16.toUInt32.toInt32
theorem shr0 (c : Int32) : c >>> ((0 : Int32) &&& 31) = c := by
  have e : ((0 : Int32) &&& 31) = 0 := by decide
  rw [e]
  apply Int32.toBitVec_inj.mp
  rw [Int32.toBitVec_shiftRight]
  have e1 : ((0 : Int32).toBitVec.smod 32) = 0#32 := by decide
  rw [e1, BitVec.sshiftRight_eq']
  exact BitVec.sshiftRight_zero
theorem lo8_and (x : Int32) : (lo8 x &&& 255).toBitVec.toNat = x.toBitVec.toNat % 256 := by
  have h : (lo8 x).toBitVec = (x.toBitVec.signExtend 8).signExtend 32 := by rw [lo8, Int8.toBitVec_toInt32, Int32.toBitVec_toInt8]
  rw [Int32.toBitVec_and, BitVec.toNat_and, h]
  have e : ((x.toBitVec.signExtend 8).signExtend 32).toNat % 256 = x.toBitVec.toNat % 256 := by
    rw [BitVec.toNat_signExtend]
    have hlt := x.toBitVec.isLt
    simp only [BitVec.toNat_setWidth, BitVec.toNat_signExtend]
    split <;> split <;> omega
  rw [← e]
  exact Nat.and_two_pow_sub_one_eq_mod _ 8
theorem pair_says {c : Int32} (h0 : ¬ c < 0) (h1 : ¬ 65535 < c) : pairCh (lo8 c) (hi8 c) = c := by
  rw [Int32.lt_iff_toInt_lt] at h0 h1
  have e0 : (0 : Int32).toInt = 0 := rfl
  have e1 : (65535 : Int32).toInt = 65535 := rfl
  have hc : c.toInt = c.toBitVec.toNat := by
    have := c.toBitVec.isLt
    have e : c.toInt = c.toBitVec.toInt := rfl
    rw [e] at h0 h1
    rw [e]
    rw [BitVec.toInt_eq_toNat_cond] at h0 h1 ⊢
    split at h0 <;> split <;> omega
  have hn : c.toBitVec.toNat < 65536 := by omega
  have a1 := lo8_and c
  have a2 : (hi8 c &&& 255).toBitVec.toNat = c.toBitVec.toNat / 256 := by
    rw [hi8, lo8_and]
    have e : ((8 : Int32) &&& 31) = 8 := by decide
    rw [e, Int32.toBitVec_shiftRight]
    have e2 : ((8 : Int32).toBitVec.smod 32) = 8#32 := by decide
    rw [e2, BitVec.sshiftRight_eq', BitVec.toNat_sshiftRight_of_msb_false (by rw [BitVec.msb_eq_false_iff_two_mul_lt]; omega)]
    show c.toBitVec.toNat >>> 8 % 256 = _
    rw [Nat.shiftRight_eq_div_pow]
    omega
  unfold pairCh
  apply Int32.toBitVec_inj.mp
  apply BitVec.eq_of_toNat_eq
  have f0 : ((0 : Int32) &&& 31) = 0 := by decide
  have f8 : ((8 : Int32) &&& 31) = 8 := by decide
  rw [f0, f8]
  have g : (((lo8 c &&& 255) <<< (0 : Int32)) ||| ((hi8 c &&& 255) <<< (8 : Int32))).toBitVec.toNat = c.toBitVec.toNat := by
    rw [Int32.toBitVec_or, Int32.toBitVec_shiftLeft, Int32.toBitVec_shiftLeft]
    have s0 : ((0 : Int32).toBitVec.smod 32) = 0#32 := by decide
    have s8 : ((8 : Int32).toBitVec.smod 32) = 8#32 := by decide
    rw [s0, s8, BitVec.toNat_or]
    simp only [BitVec.shiftLeft_eq', BitVec.toNat_shiftLeft, a1, a2]
    show (c.toBitVec.toNat % 256) <<< 0 % 2 ^ 32 ||| (c.toBitVec.toNat / 256) <<< 8 % 2 ^ 32 = _
    rw [Nat.shiftLeft_zero, Nat.mod_eq_of_lt (show c.toBitVec.toNat % 256 < 2 ^ 32 by omega), Nat.mod_eq_of_lt (show (c.toBitVec.toNat / 256) <<< 8 < 2 ^ 32 by rw [Nat.shiftLeft_eq]; omega), Nat.or_comm, ← Nat.shiftLeft_add_eq_or_of_lt (by omega), Nat.shiftLeft_eq]
    omega
  show BitVec.toNat (((((lo8 c &&& 255) <<< (0 : Int32)) ||| ((hi8 c &&& 255) <<< (8 : Int32))).toBitVec.setWidth 16).setWidth 32) = _
  rw [BitVec.toNat_setWidth, BitVec.toNat_setWidth, g]
  omega
end StrChars
namespace StrChars
open Jvm Sem ClassFile Op Lib Jvm.Stand Jvm.Free.XT Jvm.Free.ALB Jvm.Free.JM Jvm.Free
open Jvm.Lib.Cold (StaticIs)
theorem shr1 {n : Nat} (h : 2 * n < 2 ^ 31) : Int32.ofNat (2 * n) >>> ((1 : Int32) &&& 31) = Int32.ofNat n := by
  have e : ((1 : Int32) &&& 31) = 1 := by decide
  rw [e]
  apply Int32.toBitVec_inj.mp
  rw [Int32.toBitVec_shiftRight]
  have e1 : ((1 : Int32).toBitVec.smod 32) = 1#32 := by decide
  have hm : (BitVec.ofNat 32 (2 * n)).toNat = 2 * n := by rw [BitVec.toNat_ofNat, Nat.mod_eq_of_lt (by omega)]
  rw [e1, BitVec.sshiftRight_eq']
  apply BitVec.eq_of_toNat_eq
  show ((BitVec.ofNat 32 (2 * n)).sshiftRight 1).toNat = (BitVec.ofNat 32 n).toNat
  rw [BitVec.toNat_sshiftRight_of_msb_false (by rw [BitVec.msb_eq_false_iff_two_mul_lt, hm]; omega), hm, BitVec.toNat_ofNat, Nat.shiftRight_eq_div_pow]
  omega
/-- charAt's cast of a byte read back -/
def chr8 (u : Int32) : Int32 := (u &&& 255).toUInt32.toUInt16.toUInt32.toInt32
theorem chr8_lo8 {c : Int32} (h0 : ¬ c < 0) (h1 : ¬ 255 < c) : chr8 (lo8 c) = c := by
  have t : ∀ k : Fin 256, (Int32.ofNat k.val).toUInt32.toUInt16.toUInt32.toInt32 = Int32.ofNat k.val := by decide +kernel
  unfold chr8
  rw [lo8_mask h0 h1]
  rw [Int32.lt_iff_toInt_lt] at h0 h1
  have e0 : (0 : Int32).toInt = 0 := rfl
  have e1 : (255 : Int32).toInt = 255 := rfl
  obtain ⟨k, hk⟩ : ∃ k : Nat, c.toInt = k := ⟨c.toInt.toNat, by omega⟩
  have hx : c = Int32.ofNat k := Int32.toInt_inj.mp (by rw [hk, Int32.toInt_ofNat_small (by omega)])
  rw [hx]
  exact t ⟨k, by omega⟩
theorem narrow_ch {c : Int32} (h0 : ¬ c < 0) (h1 : ¬ 65535 < c) : narrow .char (.int c) = .int c := by
  have q : narrow .char (.int (pairCh (lo8 c) (hi8 c))) = .int (pairCh (lo8 c) (hi8 c)) := narrow_c _
  rwa [pair_says h0 h1] at q
/-- the array's cell V codes the n chars f 0 .. f (n - 1) by the coder cd, as the JDK does: coder 1 just where some char is above 255 -/
def Cod (cd : Int32) (n : Nat) (f : Nat → Int32) (V : Cell) : Prop := (cd = 0 ∧ V.slots.size = n ∧ ∀ j, j < n → V.slots[j]? = some (.int (lo8 (f j))) ∧ ¬ 255 < f j) ∨ (cd = 1 ∧ V.slots.size = 2 * n ∧ (∀ j, j < n → V.slots[2 * j]? = some (.int (lo8 (f j))) ∧ V.slots[2 * j + 1]? = some (.int (hi8 (f j)))) ∧ ∃ j, j < n ∧ 255 < f j)
theorem Cod.cd {cd : Int32} {n : Nat} {f : Nat → Int32} {V : Cell} (h : Cod cd n f V) : cd = 0 ∨ cd = 1 := h.imp (fun q => q.1) fun q => q.1
theorem Cod.len {cd : Int32} {n : Nat} {f : Nat → Int32} {V : Cell} (h : Cod cd n f V) (hs : V.slots.size < 2 ^ 31) : Int32.ofNat V.slots.size >>> (cd &&& 31) = Int32.ofNat n := by
  rcases h with ⟨rfl, h, -⟩ | ⟨rfl, h, -⟩
  · rw [shr0, h]
  · rw [h, shr1 (by omega)]
/-- **x is a String of the n chars f 0 .. f (n - 1)**, Latin-1 or UTF-16; its array at t has the cell V -/
def Txt (x t : Addr) (V : Cell) (cd : Int32) (n : Nat) (f : Nat → Int32) (U : State) : Prop := Exact "java/lang/String" x U ∧ Has x "java/lang/String" "value" "[B" (.ref t) U ∧ Has x "java/lang/String" "coder" "B" (.int cd) U ∧ XT.Arr .byte t V U ∧ Cod cd n f V ∧ ∀ j, j < n → ¬ f j < 0 ∧ ¬ 65535 < f j
theorem Txt.mv {x t : Addr} {V : Cell} {cd : Int32} {n : Nat} {f : Nat → Int32} {U U' : State} (h : Txt x t V cd n f U) (hal : U.vm.Alike U'.vm) (hh : U'.heap = U.heap) : Txt x t V cd n f U' := ⟨h.1.mv hal hh, h.2.1.mv hal hh, h.2.2.1.mv hal hh, h.2.2.2.1.mv hal hh, h.2.2.2.2⟩
namespace Cdr
def yN : MethodName := ⟨"java/lang/String", "coder", "()B"⟩
abbrev yB : ByteArray := jdk_42_method_152_code
theorem d0 : decode yB 0 = .ok (.getstatic 38, 3) := by decide +kernel
theorem d3 : decode yB 3 = .ok (.ifCond (.eq) 10, 3) := by decide +kernel
theorem d6 : decode yB 6 = .ok (.aload_n 0, 1) := by decide +kernel
theorem d7 : decode yB 7 = .ok (.getfield 15, 3) := by decide +kernel
theorem d10 : decode yB 10 = .ok (.goto 4, 3) := by decide +kernel
theorem d14 : decode yB 14 = .ok (.ireturn, 1) := by decide +kernel
def site : List Cond := [.fieldLink "java/lang/String" 38 "java/lang/String" "COMPACT_STRINGS" "Z", .fieldLink "java/lang/String" 15 "java/lang/String" "coder" "B"]
def tab : Cond := tabOf yN yB 1 (some .byte) site
def P (x : Addr) (cd z : Int32) (args : Array Value) (s : State) : Prop := args = #[.ref x] ∧ Has x "java/lang/String" "coder" "B" (.int cd) s ∧ (cd = 0 ∨ cd = 1) ∧ StaticIs s "java/lang/String" "COMPACT_STRINGS" "Z" (.int z) ∧ ¬ z = 0
def E (cd : Int32) (r : Option Value) (s u : State) : Prop := XT.PureE (some (.int cd)) r s u
theorem law (l : Launch) (x : Addr) (cd z : Int32) : Law l yN 1 0 0 0 yB 1 (some .byte) site (P x cd z) (E cd) [] 0 0 := by
  refine Law.of_walk (plainFor_of_name (by decide +kernel)) (by decide +kernel) (by decide +kernel) (by decide) (fun _ _ h => by rw [h.1]; rfl) (fun _ U U' hal hh h => ⟨h.1, h.2.1.mv hal hh, h.2.2.1, h.2.2.2.1.there hal hh, h.2.2.2.2⟩) (fun r U U' V V' h1 hal h2 h => XT.PureE.mv r U U' V V' h1 hal h2 h) ?_
  intro p e s m args below meth c s₁ X0 hexec hbytes hml hret hlk hnm hown hh0 W hP
  obtain ⟨rfl, hx, hc, s1, hz⟩ := hP
  have c1 : Steps p.tables e below (s₁.setTop (entryFrame m #[.ref x] 1)) (s₁.setTop (mkF m 0 #[.val (.ref x)] [])) := entry rfl
  obtain ⟨T2, X2, q2, st2⟩ := X0.sget hexec hown (wk W (.fieldLink "java/lang/String" 38 "java/lang/String" "COMPACT_STRINGS" "Z")) s1 (fun _ _ h => by rw [hh0]; exact h) (g := (mkF m 0 #[.val (.ref x)] [])) rfl (hb hbytes d0)
  have hh2 := q2.trans hh0
  have c3 : Steps p.tables e below (s₁.setTop (entryFrame m #[.ref x] 1)) (T2.setTop (mkF m 7 #[.val (.ref x)] [.ref x])) := (c1.trans (st2 _ (Steps.refl _))).trans (by
    refine XS.ifNo X2.here hexec rfl (hb hbytes d3) rfl (i0_eq_f hz) ?_
    refine XS.aloadN X2.here hexec rfl (hb hbytes d6) rfl rfl ?_
    exact Steps.refl _)
  obtain ⟨T4, X4, q4, st4⟩ := X2.hget hexec hown (wk W (.fieldLink "java/lang/String" 15 "java/lang/String" "coder" "B")) (hx.mv X2.warmed.alike hh2) (g := (mkF m 7 #[.val (.ref x)] [.ref x])) rfl (rest := []) rfl (hb hbytes d7)
  have c5 : Steps p.tables e below (s₁.setTop (entryFrame m #[.ref x] 1)) (T4.setTop (mkF m 14 #[.val (.ref x)] [.int cd])) := (c3.trans (st4 _ (Steps.refl _))).trans (by
    refine XS.goto X4.here hexec rfl (pc0 := 10) rfl (hb hbytes d10) (by decide) rfl ?_
    exact Steps.refl _)
  exact ⟨T4, some (.int cd), _, _, _, X4, rfl, rfl, rfl, (fun h => by cases h), ⟨rfl, q4.trans hh2⟩, fun fs hl => c5.trans (X4.ireturnOut hexec hret (by rcases hc with rfl | rfl <;> rfl) (Or.inr (Or.inr (Or.inl rfl))) (hb hbytes d14) hl)⟩
end Cdr
namespace Len
def yN : MethodName := ⟨"java/lang/String", "length", "()I"⟩
abbrev yB : ByteArray := jdk_42_method_54_code
theorem d0 : decode yB 0 = .ok (.aload_n 0, 1) := by decide +kernel
theorem d1 : decode yB 1 = .ok (.getfield 9, 3) := by decide +kernel
theorem d4 : decode yB 4 = .ok (.arraylength, 1) := by decide +kernel
theorem d5 : decode yB 5 = .ok (.aload_n 0, 1) := by decide +kernel
theorem d6 : decode yB 6 = .ok (.invokevirtual 335, 3) := by decide +kernel
theorem d9 : decode yB 9 = .ok (.ishr, 1) := by decide +kernel
theorem d10 : decode yB 10 = .ok (.ireturn, 1) := by decide +kernel
def site : List Cond := [.fieldLink "java/lang/String" 9 "java/lang/String" "value" "[B", Cdr.tab] ++ virtW "java/lang/String" 335 "java/lang/String" Cdr.yN Cdr.yN
def tab : Cond := tabOf yN yB 1 (some .int) site
def P (x t : Addr) (V : Cell) (cd : Int32) (n : Nat) (f : Nat → Int32) (z : Int32) (args : Array Value) (s : State) : Prop := args = #[.ref x] ∧ Txt x t V cd n f s ∧ StaticIs s "java/lang/String" "COMPACT_STRINGS" "Z" (.int z) ∧ ¬ z = 0
def E (n : Nat) (r : Option Value) (s u : State) : Prop := XT.PureE (some (.int (Int32.ofNat n))) r s u
/-- length() of a String of n chars, in either coding -/
theorem law (l : Launch) (x t : Addr) (V : Cell) (cd : Int32) (n : Nat) (f : Nat → Int32) (z : Int32) : Law l yN 1 0 1 13 yB 1 (some .int) site (P x t V cd n f z) (E n) [] 0 0 := by
  refine Law.of_walk (plainFor_of_name (by decide +kernel)) (by decide +kernel) (by decide +kernel) (by decide) (fun _ _ h => by rw [h.1]; rfl) (fun _ U U' hal hh h => ⟨h.1, h.2.1.mv hal hh, h.2.2.1.there hal hh, h.2.2.2⟩) (fun r U U' V V' h1 hal h2 h => XT.PureE.mv r U U' V V' h1 hal h2 h) ?_
  intro p e s m args below meth c s₁ X0 hexec hbytes hml hret hlk hnm hown hh0 W hP
  obtain ⟨rfl, hx, s1, hz⟩ := hP
  have v31 := hx.2.2.2.1.2.2.2
  have c1 : Steps p.tables e below (s₁.setTop (entryFrame m #[.ref x] 1)) (s₁.setTop (mkF m 1 #[.val (.ref x)] [.ref x])) := Steps.trans (entry rfl) (by
    show Steps p.tables e below (s₁.setTop (mkF m 0 #[.val (.ref x)] [])) _
    refine XS.aloadN X0.here hexec rfl (hb hbytes d0) rfl rfl ?_
    exact Steps.refl _)
  obtain ⟨T2, X2, q2, st2⟩ := X0.hget hexec hown (wk W (.fieldLink "java/lang/String" 9 "java/lang/String" "value" "[B")) (hx.mv X0.warmed.alike hh0).2.1 (g := (mkF m 1 #[.val (.ref x)] [.ref x])) rfl (rest := []) rfl (hb hbytes d1)
  have hh2 := q2.trans hh0
  have hx2 := hx.mv X2.warmed.alike hh2
  have c3 : Steps p.tables e below (s₁.setTop (entryFrame m #[.ref x] 1)) (T2.setTop (mkF m 6 #[.val (.ref x)] [.ref x, .int (Int32.ofNat V.slots.size)])) := (c1.trans (st2 _ (Steps.refl _))).trans (by
    refine X2.alen hexec hx2.2.2.2.1 rfl rfl (hb hbytes d4) ?_
    refine XS.aloadN X2.here hexec rfl (hb hbytes d5) rfl rfl ?_
    exact Steps.refl _)
  obtain ⟨v4, T4, X4, E4, g4⟩ := X2.callV hexec (Cdr.law l x cd z) hown (wks W (virtW "java/lang/String" 335 "java/lang/String" Cdr.yN Cdr.yN)) rfl (by decide) (wk W Cdr.tab) (W := 1) (Nat.le_of_ble_eq_true rfl) (Nat.le_of_ble_eq_true rfl) (Nat.le_refl _) (Nat.le_refl _) (hx2.1.fc X2.warmed.alike) hx2.1.is (g := (mkF m 6 #[.val (.ref x)] [.ref x, .int (Int32.ofNat V.slots.size)])) rfl (by rw [hml]; rfl) c3 (argsL := []) (rest := [.int (Int32.ofNat V.slots.size)]) rfl rfl (by show 2 * 0 + (1 + 0) ≤ _; decide) (hb hbytes d6) (⟨rfl, hx2.2.2.1, hx.2.2.2.2.1.cd, s1.there X2.warmed.alike hh2, hz⟩)
  obtain ⟨rfl, q4⟩ := E4
  have c5 : Steps p.tables e below (s₁.setTop (entryFrame m #[.ref x] 1)) (T4.setTop (mkF m 10 #[.val (.ref x)] [.int (Int32.ofNat V.slots.size >>> (cd &&& 31))])) := Steps.trans g4 (by
    refine ishr X4.here hexec rfl (hb hbytes d9) rfl ?_
    exact Steps.refl _)
  rw [hx.2.2.2.2.1.len v31] at c5
  exact ⟨T4, some (.int (Int32.ofNat n)), _, _, _, X4, rfl, rfl, rfl, (fun h => by cases h), ⟨rfl, q4.trans hh2⟩, fun fs hl => c5.trans (X4.ireturnOut hexec hret rfl (Or.inl rfl) (hb hbytes d10) hl)⟩
theorem pays {l : Launch} {R : Room} {p : Program} {e : Env} {below : List Frame} {s : State} {sargs : Array Value} {len W : Nat} (x t : Addr) (V : Cell) (cd : Int32) (n : Nat) (f : Nat → Int32) (z : Int32) (htab : tab.before sargs s = true) (hfr : 2 ≤ R.frames) (hlo : W + 25 ≤ R.locals) :
    Back l R p e below s sargs yN len W (fun A₁ a₁ => A₁.cells + 0 ≤ R.cells ∧ A₁.slots + 0 ≤ R.slots ∧ P x t V cd n f z a₁ A₁.U) (fun A₁ _ v₁ B₁ => E n v₁ A₁.U B₁.U ∧ B₁.locs = A₁.locs ++ [] ∧ B₁.cells = A₁.cells + 0 ∧ B₁.slots = A₁.slots + 0) :=
  (law l x t V cd n f z).pays htab hfr (by omega)
end Len
namespace IsL
def yN : MethodName := ⟨"java/lang/String", "isLatin1", "()Z"⟩
abbrev yB : ByteArray := jdk_42_method_154_code
theorem d0 : decode yB 0 = .ok (.getstatic 38, 3) := by decide +kernel
theorem d3 : decode yB 3 = .ok (.ifCond (.eq) 14, 3) := by decide +kernel
theorem d6 : decode yB 6 = .ok (.aload_n 0, 1) := by decide +kernel
theorem d7 : decode yB 7 = .ok (.getfield 15, 3) := by decide +kernel
theorem d10 : decode yB 10 = .ok (.ifCond (.ne) 7, 3) := by decide +kernel
theorem d13 : decode yB 13 = .ok (.iconst 1, 1) := by decide +kernel
theorem d14 : decode yB 14 = .ok (.goto 4, 3) := by decide +kernel
theorem d17 : decode yB 17 = .ok (.iconst 0, 1) := by decide +kernel
theorem d18 : decode yB 18 = .ok (.ireturn, 1) := by decide +kernel
def site : List Cond := [.fieldLink "java/lang/String" 38 "java/lang/String" "COMPACT_STRINGS" "Z", .fieldLink "java/lang/String" 15 "java/lang/String" "coder" "B"]
def tab : Cond := tabOf yN yB 1 (some .boolean) site
def P (x : Addr) (cd z : Int32) (args : Array Value) (s : State) : Prop := args = #[.ref x] ∧ Has x "java/lang/String" "coder" "B" (.int cd) s ∧ (cd = 0 ∨ cd = 1) ∧ StaticIs s "java/lang/String" "COMPACT_STRINGS" "Z" (.int z) ∧ ¬ z = 0
def E (cd : Int32) (r : Option Value) (s u : State) : Prop := XT.PureE (some (.int (1 - cd))) r s u
theorem law (l : Launch) (x : Addr) (cd z : Int32) : Law l yN 1 0 0 0 yB 1 (some .boolean) site (P x cd z) (E cd) [] 0 0 := by
  refine Law.of_walk (plainFor_of_name (by decide +kernel)) (by decide +kernel) (by decide +kernel) (by decide) (fun _ _ h => by rw [h.1]; rfl) (fun _ U U' hal hh h => ⟨h.1, h.2.1.mv hal hh, h.2.2.1, h.2.2.2.1.there hal hh, h.2.2.2.2⟩) (fun r U U' V V' h1 hal h2 h => XT.PureE.mv r U U' V V' h1 hal h2 h) ?_
  intro p e s m args below meth c s₁ X0 hexec hbytes hml hret hlk hnm hown hh0 W hP
  obtain ⟨rfl, hx, hc, s1, hz⟩ := hP
  have c1 : Steps p.tables e below (s₁.setTop (entryFrame m #[.ref x] 1)) (s₁.setTop (mkF m 0 #[.val (.ref x)] [])) := entry rfl
  obtain ⟨T2, X2, q2, st2⟩ := X0.sget hexec hown (wk W (.fieldLink "java/lang/String" 38 "java/lang/String" "COMPACT_STRINGS" "Z")) s1 (fun _ _ h => by rw [hh0]; exact h) (g := (mkF m 0 #[.val (.ref x)] [])) rfl (hb hbytes d0)
  have hh2 := q2.trans hh0
  have c3 : Steps p.tables e below (s₁.setTop (entryFrame m #[.ref x] 1)) (T2.setTop (mkF m 7 #[.val (.ref x)] [.ref x])) := (c1.trans (st2 _ (Steps.refl _))).trans (by
    refine XS.ifNo X2.here hexec rfl (hb hbytes d3) rfl (i0_eq_f hz) ?_
    refine XS.aloadN X2.here hexec rfl (hb hbytes d6) rfl rfl ?_
    exact Steps.refl _)
  obtain ⟨T4, X4, q4, st4⟩ := X2.hget hexec hown (wk W (.fieldLink "java/lang/String" 15 "java/lang/String" "coder" "B")) (hx.mv X2.warmed.alike hh2) (g := (mkF m 7 #[.val (.ref x)] [.ref x])) rfl (rest := []) rfl (hb hbytes d7)
  have c5 : Steps p.tables e below (s₁.setTop (entryFrame m #[.ref x] 1)) (T4.setTop (mkF m 10 #[.val (.ref x)] [.int cd])) := c3.trans (st4 _ (Steps.refl _))
  have c6 : Steps p.tables e below (s₁.setTop (entryFrame m #[.ref x] 1)) (T4.setTop (mkF m 18 #[.val (.ref x)] [.int (1 - cd)])) := by
    rcases hc with rfl | rfl
    · exact c5.trans (by
        refine XS.ifNo X4.here hexec rfl (hb hbytes d10) rfl (i0_ne_f rfl) ?_
        refine iconstV X4.here hexec rfl 1 (hb hbytes d13) (by decide) ?_
        refine XS.goto X4.here hexec rfl (pc0 := 14) rfl (hb hbytes d14) (by decide) rfl ?_
        exact Steps.refl _)
    · exact c5.trans (by
        refine XS.ifYes X4.here hexec rfl (pc0 := 10) rfl (hb hbytes d10) rfl (i0_ne_t (by decide)) (by decide) rfl ?_
        refine iconstV X4.here hexec rfl 0 (hb hbytes d17) (by decide) ?_
        exact Steps.refl _)
  exact ⟨T4, some (.int (1 - cd)), _, _, _, X4, rfl, rfl, rfl, (fun h => by cases h), ⟨rfl, q4.trans hh2⟩, fun fs hl => c6.trans (X4.ireturnOut hexec hret (by rcases hc with rfl | rfl <;> rfl) (Or.inr (Or.inl rfl)) (hb hbytes d18) hl)⟩
end IsL
namespace LChA
def yN : MethodName := ⟨"java/lang/StringLatin1", "charAt", "([BI)C"⟩
abbrev yB : ByteArray := jdk_43_method_2_code
theorem d0 : decode yB 0 = .ok (.iload_n 1, 1) := by decide +kernel
theorem d1 : decode yB 1 = .ok (.aload_n 0, 1) := by decide +kernel
theorem d2 : decode yB 2 = .ok (.arraylength, 1) := by decide +kernel
theorem d3 : decode yB 3 = .ok (.invokestatic 9, 3) := by decide +kernel
theorem d6 : decode yB 6 = .ok (.aload_n 0, 1) := by decide +kernel
theorem d7 : decode yB 7 = .ok (.iload_n 1, 1) := by decide +kernel
theorem d8 : decode yB 8 = .ok (.baload, 1) := by decide +kernel
theorem d9 : decode yB 9 = .ok (.sipush 255, 3) := by decide +kernel
theorem d12 : decode yB 12 = .ok (.iand, 1) := by decide +kernel
theorem d13 : decode yB 13 = .ok (.i2c, 1) := by decide +kernel
theorem d14 : decode yB 14 = .ok (.ireturn, 1) := by decide +kernel
def site : List Cond := [JO.Str_checkIndex.tab] ++ staticW "java/lang/StringLatin1" 9 JO.Str_checkIndex.yN
def tab : Cond := tabOf yN yB 2 (some .char) site
def P (t : Addr) (V : Cell) (i : Nat) (u : Int32) (fm : Value) (args : Array Value) (s : State) : Prop := args = #[.ref t, .int (Int32.ofNat i)] ∧ XT.Arr .byte t V s ∧ V.slots[i]? = some (.int u) ∧ (StaticIs s "jdk/internal/util/Preconditions" "SIOOBE_FORMATTER" "Ljava/util/function/BiFunction;" fm ∧ fm.isRef = true)
def E (u : Int32) (r : Option Value) (s w : State) : Prop := XT.PureE (some (.int (chr8 u))) r s w
theorem law (l : Launch) (t : Addr) (V : Cell) (i : Nat) (u : Int32) (fm : Value) : Law l yN 2 2 2 27 yB 2 (some .char) site (P t V i u fm) (E u) [] 0 0 := by
  refine Law.of_walk (plainFor_of_name (by decide +kernel)) (by decide +kernel) (by decide +kernel) (by decide) (fun _ _ h => by rw [h.1]; rfl) (fun _ U U' hal hh h => ⟨h.1, h.2.1.mv hal hh, h.2.2.1, h.2.2.2.1.there hal hh, h.2.2.2.2⟩) (fun r U U' V V' h1 hal h2 h => XT.PureE.mv r U U' V V' h1 hal h2 h) ?_
  intro p e s m args below meth c s₁ X0 hexec hbytes hml hret hlk hnm hown hh0 W hP
  obtain ⟨rfl, hV, hu, s1, rf⟩ := hP
  have v31 := hV.2.2.2
  have hi : i < V.slots.size := (Array.getElem?_eq_some_iff.mp hu).1
  have c1 : Steps p.tables e below (s₁.setTop (entryFrame m #[.ref t, .int (Int32.ofNat i)] 2)) (s₁.setTop (mkF m 0 #[.val (.ref t), .val (.int (Int32.ofNat i))] [])) := entry rfl
  have c2 : Steps p.tables e below (s₁.setTop (entryFrame m #[.ref t, .int (Int32.ofNat i)] 2)) (s₁.setTop (mkF m 3 #[.val (.ref t), .val (.int (Int32.ofNat i))] [.int (Int32.ofNat V.slots.size), .int (Int32.ofNat i)])) := c1.trans (by
    refine XS.iloadN X0.here hexec rfl (hb hbytes d0) rfl ?_
    refine XS.aloadN X0.here hexec rfl (hb hbytes d1) rfl rfl ?_
    refine X0.alen hexec (hV.mv X0.warmed.alike hh0) rfl rfl (hb hbytes d2) ?_
    exact Steps.refl _)
  obtain ⟨v3, T3, X3, E3, g3⟩ := X0.callS hexec (JO.Str_checkIndex.law l (Int32.ofNat i) (Int32.ofNat V.slots.size) fm) hown (wks W (staticW "java/lang/StringLatin1" 9 JO.Str_checkIndex.yN)) (wk W JO.Str_checkIndex.tab) (W := 0) (Nat.le_of_ble_eq_true rfl) (Nat.le_of_ble_eq_true rfl) (Nat.le_refl _) (Nat.le_refl _) (g := (mkF m 3 #[.val (.ref t), .val (.int (Int32.ofNat i))] [.int (Int32.ofNat V.slots.size), .int (Int32.ofNat i)])) rfl (by rw [hml]; rfl) c2 (argsL := [.int (Int32.ofNat i), .int (Int32.ofNat V.slots.size)]) (rest := []) rfl rfl (by show 2 * 0 + 0 ≤ _; decide) (hb hbytes d3) (⟨rfl, rf, s1.there X0.warmed.alike hh0, Int32.ofNat_not_neg (by omega), lt32 v31 hi⟩)
  obtain ⟨rfl, q3⟩ := E3
  have hh3 := q3.trans hh0
  have c4 : Steps p.tables e below (s₁.setTop (entryFrame m #[.ref t, .int (Int32.ofNat i)] 2)) (T3.setTop (mkF m 14 #[.val (.ref t), .val (.int (Int32.ofNat i))] [.int (chr8 u)])) := Steps.trans g3 (by
    refine XS.aloadN X3.here hexec rfl (hb hbytes d6) rfl rfl ?_
    refine XS.iloadN X3.here hexec rfl (hb hbytes d7) rfl ?_
    refine X3.aget hexec (hV.mv X3.warmed.alike hh3) rfl hu rfl rfl (hb hbytes d8) ?_
    refine sipushV X3.here hexec rfl 255 (hb hbytes d9) (by decide) ?_
    refine XS.iand X3.here hexec rfl (hb hbytes d12) rfl ?_
    refine i2c X3.here hexec rfl (hb hbytes d13) rfl ?_
    exact Steps.refl _)
  exact ⟨T3, some (.int (chr8 u)), _, _, _, X3, rfl, rfl, rfl, (fun h => by cases h), ⟨rfl, hh3⟩, fun fs hl => c4.trans (X3.ireturnOut hexec hret (narrow_c _) (Or.inr (Or.inr (Or.inr (Or.inl rfl)))) (hb hbytes d14) hl)⟩
end LChA
end StrChars
namespace StrChars.Road
open Jvm Sem ClassFile Op Lib Jvm.Stand Jvm.Free Jvm.Free.XT
open Jvm.Lib.Cold (StaticIs)
theorem consq {a : Array Value} {s : State} {c : Jvm.Cond} {L : List Jvm.Cond} (h0 : c.before a s = true) (h : ∀ w ∈ L, w.before a s = true) : ∀ w ∈ c :: L, w.before a s = true := fun w hw => (List.mem_cons.mp hw).elim (fun e => e ▸ h0) (h w)
/-- the words of String.length(), either coding -/
abbrev wordsLen : List Jvm.Cond := [.code Len.yN Len.yB 1 (some .int), .initialized ST, .fieldLink ST 9 ST "value" "[B", .fieldLink ST 38 ST "COMPACT_STRINGS" "Z", .fieldLink ST 15 ST "coder" "B", .code Cdr.yN Cdr.yB 1 (some .byte), .methodLink ST 335 Cdr.yN, .declares Cdr.yN, .selects ST Cdr.yN Cdr.yN, .instanceMethod Cdr.yN]
theorem tabLen_of {a : Array Value} {s : State} (h : ∀ w ∈ wordsLen, w.before a s = true) : Len.tab.before a s = true := by
  have hc : Cdr.tab.before a s = true := unparts (wk h (.code Cdr.yN Cdr.yB 1 (some .byte))) (wks h (.initialized Cdr.yN.cls :: Cdr.site))
  have q := consq hc h
  exact unparts (wk q (.code Len.yN Len.yB 1 (some .int))) (wks q (.initialized Len.yN.cls :: Len.site))
theorem movedLen {Z s : State} {a0 args : Array Value} (hZ : Z.Warmed39 s.vm) (hw : ∀ d ∈ wordsLen, d.before a0 Z = true) : ∀ d ∈ wordsLen, d.before args s = true := fun d hd => by
  have q := hw d hd
  have t : ∀ d ∈ wordsLen, d = .arrayClass .byte ∨ (d.onTables && d.keepsFace) = true := by decide +kernel
  rcases t d hd with rfl | t
  · exact RoadKit.mvA hZ q
  · exact RoadKit.mv hZ q t
/-- the bytes of the chars cs, low before high -/
def wideBytes : List Int32 → List Value
  | [] => []
  | c :: cs => .int (lo8 c) :: .int (hi8 c) :: wideBytes cs
theorem wide_lo (d : Value) : ∀ (cs : List Int32) (j : Nat), j < cs.length → (wideBytes cs).getD (2 * j) d = .int (lo8 (cs.getD j 0))
  | [], j, h => absurd h (Nat.not_lt_zero j)
  | c :: cs, 0, _ => rfl
  | c :: cs, j + 1, h => by
    have q := wide_lo d cs j (by simpa using h)
    rw [show 2 * (j + 1) = 2 * j + 1 + 1 from by omega]
    simpa [wideBytes] using q
theorem wide_hi (d : Value) : ∀ (cs : List Int32) (j : Nat), j < cs.length → (wideBytes cs).getD (2 * j + 1) d = .int (hi8 (cs.getD j 0))
  | [], j, h => absurd h (Nat.not_lt_zero j)
  | c :: cs, 0, _ => rfl
  | c :: cs, j + 1, h => by
    have q := wide_hi d cs j (by simpa using h)
    rw [show 2 * (j + 1) + 1 = 2 * j + 1 + 1 + 1 from by omega]
    simpa [wideBytes] using q
theorem low_at (d : Value) (cs : List Int32) (j : Nat) (h : j < cs.length) : (cs.map fun c => Value.int (lo8 c)).getD j d = .int (lo8 (cs.getD j 0)) := by
  simp [List.getD_eq_getElem?_getD, h]
/-- an array of N2 bytes vs codes the chars cs by the coder cd -/
def CodA (cs : List Int32) (cd N2 : Int32) (vs : List Value) : Prop := (cd = 0 ∧ N2 = Int32.ofNat cs.length ∧ vs = (cs.map fun c => Value.int (lo8 c)) ∧ ∀ c ∈ cs, ¬ 255 < c) ∨ (cd = 1 ∧ N2 = Int32.ofNat (2 * cs.length) ∧ vs = wideBytes cs ∧ ∃ c ∈ cs, 255 < c)
theorem CodA.cod {cs : List Int32} {cd N2 : Int32} {vs : List Value} {V : Cell} (h : CodA cs cd N2 vs) (hn : 2 * cs.length < 2 ^ 31) (hs : V.slots.size = N2.toNatClampNeg) (hv : RoadKit.Has V vs (.int 0)) : Cod cd cs.length (fun j => cs.getD j 0) V := by
  rcases h with ⟨rfl, rfl, rfl, h⟩ | ⟨rfl, rfl, rfl, c, hc, hw⟩
  · rw [n32 (by omega)] at hs
    exact Or.inl ⟨rfl, hs, fun j hj => ⟨by rw [hv j (by omega), low_at _ _ _ hj], by
      have e : cs.getD j 0 = cs[j] := by simp [List.getD_eq_getElem?_getD, hj]
      show ¬ 255 < cs.getD j 0
      rw [e]; exact h _ (List.getElem_mem _)⟩⟩
  · rw [n32 (by omega)] at hs
    obtain ⟨j, hj, rfl⟩ := List.getElem_of_mem hc
    exact Or.inr ⟨rfl, hs, fun j hj => ⟨by rw [hv _ (by omega), wide_lo _ _ _ hj], by rw [hv _ (by omega), wide_hi _ _ _ hj]⟩, j, hj, by
      have e : cs.getD j 0 = cs[j] := by simp [List.getD_eq_getElem?_getD, hj]
      show 255 < cs.getD j 0
      rw [e]; exact hw⟩
/-- an object of exactly java/lang/String, its two fields found: as the laws ask it -/
theorem strObj {Z U : State} {a0 : Array Value} {kI : Nat} (wi : (Jvm.Cond.instantiable ST kI).before a0 Z = true) (al : Z.vm.Alike U.vm) {x : Addr} {v0 c0 : Value} (E : RoadKit.Exa Z U.heap x ST) (V : RoadKit.Fld Z U.heap x ST "value" "[B" v0) (C : RoadKit.Fld Z U.heap x ST "coder" "B" c0) :
    ∃ (D : Cell) (fV fC : Field), Blank ST x D U ∧ Found ST "value" "[B" fV U ∧ Found ST "coder" "B" fC U ∧ D.slots[fV.slot]? = some v0 ∧ D.slots[fC.slot]? = some c0 ∧ RoadKit.slotOf Z ST "value" "[B" = fV.slot ∧ RoadKit.slotOf Z ST "coder" "B" = fC.slot := by
  obtain ⟨D, cfV, kV, iV, fV, hD, gV, stV, knV, obV, asV, slV⟩ := V
  obtain ⟨D', cfC, kC, iC, fC, hD', gC, stC, -, -, asC, slC⟩ := C
  cases hD.symm.trans hD'
  obtain ⟨D2, kD, e1, e2, e3, e4, e5⟩ := E
  cases hD.symm.trans e1
  obtain ⟨c2, k2, i1, i2, i3, -⟩ := Cond.instantiable_spec wi
  cases e2.symm.trans i1
  cases e3.symm.trans i2
  obtain ⟨kU, u1, u2⟩ := al.2.2 _ _ e3
  exact ⟨D, fV, fC, ⟨hD, ⟨knV, fun q hq => by rw [hq] at obV; cases obV⟩, by rw [al.findClass]; exact e2, kU, u1, by rw [u2]; exact i3, by rw [u2]; exact e5 i3⟩, ⟨SBG.found_only al ⟨cfV, kV, iV, gV⟩, stV⟩, ⟨SBG.found_only al ⟨cfC, kC, iC, gC⟩, stC⟩, slV, slC, by simp [RoadKit.slotOf, gV], by simp [RoadKit.slotOf, gC]⟩
theorem sta_is {Z U : State} (al : Z.vm.Alike U.vm) {C n d : String} {v : Value} (S : RoadKit.Sta Z U.heap C n d v) : StaticIs U C n d v := by
  obtain ⟨cfS, iS, kS, fS, st, cS, t1, t2, t3, t4, t5, t6, t7⟩ := S
  exact StaticIs.there (s := { Z with heap := U.heap }) ⟨cfS, iS, kS, fS, st, cS, t1, t2, t3, t4, t5, (fun q => by rw [q] at t6; cases t6), t7⟩ al rfl
/-- **length() OF SUCH A STRING** -/
theorem lenW {p : Program} {l : Launch} {e : Env} {R : Room} {s : State} {args : Array Value} {below : List Frame} {len W : Nat} {Z : State} {a0 : Array Value} {h : Heap} (hZ : Z.Warmed39 s.vm) (hw : ∀ d ∈ wordsLen, d.before a0 Z = true) {kI : Nat} (wi : (Jvm.Cond.instantiable ST kI).before a0 Z = true)
    {x t : Addr} {kb : ClassId} {cs : List Int32} {cd N2 z : Int32} {vs : List Value} (E : RoadKit.Exa Z h x ST) (V : RoadKit.Fld Z h x ST "value" "[B" (.ref t)) (C : RoadKit.Fld Z h x ST "coder" "B" (.int cd)) (K : RoadKit.Arv Z h t kb .byte N2 vs (.int 0)) (hc : CodA cs cd N2 vs) (hb : ∀ c ∈ cs, ¬ c < 0 ∧ ¬ (65535 : Int32) < c)
    (S : RoadKit.Sta Z h ST "COMPACT_STRINGS" "Z" (.int z)) (hz : ¬ z = 0) (l2 : cs.length ≤ 4000) (hfr : 2 ≤ R.frames) (hlo : W + 25 ≤ R.locals) :
    Back l R p e below s args (⟨"java/lang/String", "length", "()I"⟩ : MethodName) len W (fun P a => a = #[.ref x] ∧ P.U.heap = h ∧ P.cells + 0 ≤ R.cells ∧ P.slots + 0 ≤ R.slots)
      (fun P _ v B => ∃ L, (v = some (.int (Int32.ofNat cs.length)) ∧ L = [] ∧ B.U.heap = h) ∧ B.locs = P.locs ++ L ∧ B.cells = P.cells + 0 ∧ B.slots = P.slots + 0) := by
  obtain ⟨A, K1, K2, K3, K4, K5, K6⟩ := K
  have hcod := hc.cod (by omega) K3 K5
  intro m meth c P g ig mk a X hg hsize hdg hW hn hp'
  obtain ⟨rfl, rfl, r1, r2⟩ := hp'
  have al : Z.vm.Alike P.U.vm := hZ.alike.trans X.warmed.alike
  obtain ⟨D, fV, fC, hB, F1, F2, g1, g2, -, -⟩ := strObj wi al E V C
  have hx : Txt x t A cd cs.length (fun j => cs.getD j 0) P.U := ⟨⟨_, hB.2.2.1, D, hB.1, rfl, by cases q : D.vm <;> first | rfl | exact absurd q (hB.2.1.2 _)⟩, Has.of hB F1 g1, Has.of hB F2 g2, ⟨K1.1, State.isArrayOf_alike al K1.2.1, K1.2.2, by rcases hcod with ⟨-, q, -⟩ | ⟨-, q, -⟩ <;> omega⟩, hcod, fun j hj => by
    have e : cs.getD j 0 = cs[j] := by simp [List.getD_eq_getElem?_getD, hj]
    show ¬ cs.getD j 0 < 0 ∧ ¬ 65535 < cs.getD j 0
    rw [e]; exact hb _ (List.getElem_mem _)⟩
  obtain ⟨v, B, X', ⟨⟨hv, hh⟩, hl, hk, hs⟩, st⟩ := Len.pays x t A cd cs.length (fun j => cs.getD j 0) z (tabLen_of (movedLen hZ hw)) hfr hlo m meth c P g ig mk _ X hg hsize hdg hW hn ⟨r1, r2, rfl, hx, sta_is al S, hz⟩
  exact ⟨v, B, X', ⟨[], ⟨hv, rfl, hh⟩, hl, hk, hs⟩, st⟩
end StrChars.Road
namespace StrChars.Road
open Jvm Sem ClassFile Op Lib Jvm.Stand Jvm.Free Jvm.Free.XT
open Jvm.Lib.Cold (StaticIs)
/-- the road's facts of a String, as the laws ask it -/
theorem txt_of {Z U : State} {a0 : Array Value} {kI : Nat} (wi : (Jvm.Cond.instantiable ST kI).before a0 Z = true) (al : Z.vm.Alike U.vm) {x t : Addr} {kb : ClassId} {cs : List Int32} {cd N2 : Int32} {vs : List Value} (E : RoadKit.Exa Z U.heap x ST) (V : RoadKit.Fld Z U.heap x ST "value" "[B" (.ref t)) (C : RoadKit.Fld Z U.heap x ST "coder" "B" (.int cd)) (K : RoadKit.Arv Z U.heap t kb .byte N2 vs (.int 0)) (hc : CodA cs cd N2 vs) (hb : ∀ c ∈ cs, ¬ c < 0 ∧ ¬ (65535 : Int32) < c) (l2 : cs.length ≤ 4000) :
    ∃ A, Txt x t A cd cs.length (fun j => cs.getD j 0) U := by
  obtain ⟨A, K1, K2, K3, K4, K5, K6⟩ := K
  have hcod := hc.cod (by omega) K3 K5
  obtain ⟨D, fV, fC, hB, F1, F2, g1, g2, -, -⟩ := strObj wi al E V C
  exact ⟨A, ⟨_, hB.2.2.1, D, hB.1, rfl, by cases q : D.vm <;> first | rfl | exact absurd q (hB.2.1.2 _)⟩, Has.of hB F1 g1, Has.of hB F2 g2, ⟨K1.1, State.isArrayOf_alike al K1.2.1, K1.2.2, by rcases hcod with ⟨-, q, -⟩ | ⟨-, q, -⟩ <;> omega⟩, hcod, fun j hj => by
    have e : cs.getD j 0 = cs[j] := by simp [List.getD_eq_getElem?_getD, hj]
    show ¬ cs.getD j 0 < 0 ∧ ¬ 65535 < cs.getD j 0
    rw [e]; exact hb _ (List.getElem_mem _)⟩
end StrChars.Road
namespace StrChars
open Jvm Sem ClassFile Op Lib Jvm.Stand Jvm.Free.XT Jvm.Free.ALB Jvm.Free.JM Jvm.Free
open Jvm.Lib.Cold (StaticIs)
namespace ChN
def yN : MethodName := ⟨"java/lang/String", "charAt", "(I)C"⟩
abbrev yB : ByteArray := jdk_42_method_56_code
theorem d0 : decode yB 0 = .ok (.aload_n 0, 1) := by decide +kernel
theorem d1 : decode yB 1 = .ok (.invokevirtual 492, 3) := by decide +kernel
theorem d4 : decode yB 4 = .ok (.ifCond (.eq) 12, 3) := by decide +kernel
theorem d7 : decode yB 7 = .ok (.aload_n 0, 1) := by decide +kernel
theorem d8 : decode yB 8 = .ok (.getfield 9, 3) := by decide +kernel
theorem d11 : decode yB 11 = .ok (.iload_n 1, 1) := by decide +kernel
theorem d12 : decode yB 12 = .ok (.invokestatic 495, 3) := by decide +kernel
theorem d15 : decode yB 15 = .ok (.ireturn, 1) := by decide +kernel
def site : List Cond := [.fieldLink "java/lang/String" 9 "java/lang/String" "value" "[B", IsL.tab, LChA.tab] ++ virtW "java/lang/String" 492 "java/lang/String" IsL.yN IsL.yN ++ staticW "java/lang/String" 495 LChA.yN
def tab : Cond := tabOf yN yB 2 (some .char) site
def P (x t : Addr) (V : Cell) (n : Nat) (f : Nat → Int32) (z : Int32) (fm : Value) (i : Nat) (args : Array Value) (s : State) : Prop := args = #[.ref x, .int (Int32.ofNat i)] ∧ Txt x t V 0 n f s ∧ i < n ∧ StaticIs s "java/lang/String" "COMPACT_STRINGS" "Z" (.int z) ∧ ¬ z = 0 ∧ StaticIs s "jdk/internal/util/Preconditions" "SIOOBE_FORMATTER" "Ljava/util/function/BiFunction;" fm ∧ fm.isRef = true
def E (f : Nat → Int32) (i : Nat) (r : Option Value) (s u : State) : Prop := XT.PureE (some (.int (f i))) r s u
/-- charAt(i) of a Latin-1 String of n chars, i < n: f i -/
theorem law (l : Launch) (x t : Addr) (V : Cell) (n : Nat) (f : Nat → Int32) (z : Int32) (fm : Value) (i : Nat) : Law l yN 2 1 3 40 yB 2 (some .char) site (P x t V n f z fm i) (E f i) [] 0 0 := by
  refine Law.of_walk (plainFor_of_name (by decide +kernel)) (by decide +kernel) (by decide +kernel) (by decide) (fun _ _ h => by rw [h.1]; rfl) (fun _ U U' hal hh h => ⟨h.1, h.2.1.mv hal hh, h.2.2.1, h.2.2.2.1.there hal hh, h.2.2.2.2.1, h.2.2.2.2.2.1.there hal hh, h.2.2.2.2.2.2⟩) (fun r U U' V V' h1 hal h2 h => XT.PureE.mv r U U' V V' h1 hal h2 h) ?_
  intro p e s m args below meth c s₁ X0 hexec hbytes hml hret hlk hnm hown hh0 W hP
  obtain ⟨rfl, hx, hi, s1, hz, s3, rf⟩ := hP
  have v31 := hx.2.2.2.1.2.2.2
  have hr := hx.2.2.2.2.2 i hi
  have hx0 := hx.mv X0.warmed.alike hh0
  have c1 : Steps p.tables e below (s₁.setTop (entryFrame m #[.ref x, .int (Int32.ofNat i)] 2)) (s₁.setTop (mkF m 1 #[.val (.ref x), .val (.int (Int32.ofNat i))] [.ref x])) := Steps.trans (entry rfl) (by
    show Steps p.tables e below (s₁.setTop (mkF m 0 #[.val (.ref x), .val (.int (Int32.ofNat i))] [])) _
    refine XS.aloadN X0.here hexec rfl (hb hbytes d0) rfl rfl ?_
    exact Steps.refl _)
  obtain ⟨v2, T2, X2, E2, g2⟩ := X0.callV hexec (IsL.law l x 0 z) hown (wks W (virtW "java/lang/String" 492 "java/lang/String" IsL.yN IsL.yN)) rfl (by decide) (wk W IsL.tab) (W := 0) (Nat.le_of_ble_eq_true rfl) (Nat.le_of_ble_eq_true rfl) (Nat.le_refl _) (Nat.le_refl _) (hx0.1.fc X0.warmed.alike) hx0.1.is (g := (mkF m 1 #[.val (.ref x), .val (.int (Int32.ofNat i))] [.ref x])) rfl (by rw [hml]; rfl) c1 (argsL := []) (rest := []) rfl rfl (by show 2 * 0 + 0 ≤ _; decide) (hb hbytes d1) (⟨rfl, hx0.2.2.1, hx.2.2.2.2.1.cd, s1.there X0.warmed.alike hh0, hz⟩)
  obtain ⟨rfl, q2⟩ := E2
  have hh2 := q2.trans hh0
  have hx2 := hx.mv X2.warmed.alike hh2
  obtain ⟨-, k1, k2⟩ | ⟨k0, -⟩ := hx.2.2.2.2.1
  · have c3 : Steps p.tables e below (s₁.setTop (entryFrame m #[.ref x, .int (Int32.ofNat i)] 2)) (T2.setTop (mkF m 8 #[.val (.ref x), .val (.int (Int32.ofNat i))] [.ref x])) := Steps.trans g2 (by
      refine XS.ifNo X2.here hexec rfl (hb hbytes d4) rfl (i0_eq_f (by decide)) ?_
      refine XS.aloadN X2.here hexec rfl (hb hbytes d7) rfl rfl ?_
      exact Steps.refl _)
    obtain ⟨T4, X4, q4, st4⟩ := X2.hget hexec hown (wk W (.fieldLink "java/lang/String" 9 "java/lang/String" "value" "[B")) hx2.2.1 (g := (mkF m 8 #[.val (.ref x), .val (.int (Int32.ofNat i))] [.ref x])) rfl (rest := []) rfl (hb hbytes d8)
    have hh4 := q4.trans hh2
    have c5 : Steps p.tables e below (s₁.setTop (entryFrame m #[.ref x, .int (Int32.ofNat i)] 2)) (T4.setTop (mkF m 12 #[.val (.ref x), .val (.int (Int32.ofNat i))] [.int (Int32.ofNat i), .ref t])) := (c3.trans (st4 _ (Steps.refl _))).trans (by
      refine XS.iloadN X4.here hexec rfl (hb hbytes d11) rfl ?_
      exact Steps.refl _)
    obtain ⟨v6, T6, X6, E6, g6⟩ := X4.callS hexec (LChA.law l t V i (lo8 (f i)) fm) hown (wks W (staticW "java/lang/String" 495 LChA.yN)) (wk W LChA.tab) (W := 0) (Nat.le_of_ble_eq_true rfl) (Nat.le_of_ble_eq_true rfl) (Nat.le_refl _) (Nat.le_refl _) (g := (mkF m 12 #[.val (.ref x), .val (.int (Int32.ofNat i))] [.int (Int32.ofNat i), .ref t])) rfl (by rw [hml]; rfl) c5 (argsL := [.ref t, .int (Int32.ofNat i)]) (rest := []) rfl rfl (by show 2 * 0 + 0 ≤ _; decide) (hb hbytes d12) (⟨rfl, hx.2.2.2.1.mv X4.warmed.alike hh4, (k2 i hi).1, s3.there X4.warmed.alike hh4, rf⟩)
    obtain ⟨rfl, q6⟩ := E6
    rw [chr8_lo8 hr.1 (k2 i hi).2] at g6
    exact ⟨T6, some (.int (f i)), _, _, _, X6, rfl, rfl, rfl, (fun h => by cases h), ⟨rfl, q6.trans hh4⟩, fun fs hl => Steps.trans g6 (X6.ireturnOut hexec hret (narrow_ch hr.1 hr.2) (Or.inr (Or.inr (Or.inr (Or.inl rfl)))) (hb hbytes d15) hl)⟩
  · exact absurd k0 (by decide)
theorem pays {l : Launch} {R : Room} {p : Program} {e : Env} {below : List Frame} {s : State} {sargs : Array Value} {len W : Nat} (x t : Addr) (V : Cell) (n : Nat) (f : Nat → Int32) (z : Int32) (fm : Value) (i : Nat) (htab : tab.before sargs s = true) (hfr : 4 ≤ R.frames) (hlo : W + 53 ≤ R.locals) :
    Back l R p e below s sargs yN len W (fun A₁ a₁ => A₁.cells + 0 ≤ R.cells ∧ A₁.slots + 0 ≤ R.slots ∧ P x t V n f z fm i a₁ A₁.U) (fun A₁ _ v₁ B₁ => E f i v₁ A₁.U B₁.U ∧ B₁.locs = A₁.locs ++ [] ∧ B₁.cells = A₁.cells + 0 ∧ B₁.slots = A₁.slots + 0) :=
  (law l x t V n f z fm i).pays htab hfr (by omega)
end ChN
end StrChars
namespace StrChars.Road
open Jvm Sem ClassFile Op Lib Jvm.Stand Jvm.Free Jvm.Free.XT
open Jvm.Lib.Cold (StaticIs)
/-- the words of String.charAt(int), the Latin-1 road alone -/
abbrev wordsChN : List Jvm.Cond := [.code ChN.yN ChN.yB 2 (some .char), .initialized ST, .fieldLink ST 9 ST "value" "[B", .fieldLink ST 38 ST "COMPACT_STRINGS" "Z", .fieldLink ST 15 ST "coder" "B", .code IsL.yN IsL.yB 1 (some .boolean), .methodLink ST 492 IsL.yN, .declares IsL.yN, .selects ST IsL.yN IsL.yN, .instanceMethod IsL.yN,
  .methodLink ST 495 LChA.yN, .static LChA.yN, .code LChA.yN LChA.yB 2 (some .char), .initialized "java/lang/StringLatin1", .methodLink "java/lang/StringLatin1" 9 JO.Str_checkIndex.yN, .static JO.Str_checkIndex.yN, .code JO.Str_checkIndex.yN JO.Str_checkIndex.yB 2 none,
  .fieldLink ST 1053 "jdk/internal/util/Preconditions" "SIOOBE_FORMATTER" "Ljava/util/function/BiFunction;", .methodLink ST 1059 JC.PreCheck.yN, .static JC.PreCheck.yN, .code JC.PreCheck.yN JC.PreCheck.yB 3 (some .int), .initialized "jdk/internal/util/Preconditions"]
theorem tabChN_of {a : Array Value} {s : State} (h : ∀ w ∈ wordsChN, w.before a s = true) : ChN.tab.before a s = true := by
  have hp : JC.PreCheck.tab.before a s = true := unparts (wk h (.code JC.PreCheck.yN JC.PreCheck.yB 3 (some .int))) (wks h (.initialized JC.PreCheck.yN.cls :: JC.PreCheck.site))
  have qk := consq hp h
  have hk : JO.Str_checkIndex.tab.before a s = true := unparts (wk qk (.code JO.Str_checkIndex.yN JO.Str_checkIndex.yB 2 none)) (wks qk (.initialized JO.Str_checkIndex.yN.cls :: JO.Str_checkIndex.site))
  have ql := consq hk h
  have hl : LChA.tab.before a s = true := unparts (wk ql (.code LChA.yN LChA.yB 2 (some .char))) (wks ql (.initialized LChA.yN.cls :: LChA.site))
  have hi : IsL.tab.before a s = true := unparts (wk h (.code IsL.yN IsL.yB 1 (some .boolean))) (wks h (.initialized IsL.yN.cls :: IsL.site))
  have q := consq hi (consq hl h)
  exact unparts (wk q (.code ChN.yN ChN.yB 2 (some .char))) (wks q (.initialized ChN.yN.cls :: ChN.site))
theorem movedChN {Z s : State} {a0 args : Array Value} (hZ : Z.Warmed39 s.vm) (hw : ∀ d ∈ wordsChN, d.before a0 Z = true) : ∀ d ∈ wordsChN, d.before args s = true := fun d hd => by
  have t : ∀ d ∈ wordsChN, (d.onTables && d.keepsFace) = true := by decide +kernel
  exact RoadKit.mv hZ (hw d hd) (t d hd)
/-- **charAt(i) OF A LATIN-1 STRING**, i < n: the char -/
theorem chN {p : Program} {l : Launch} {e : Env} {R : Room} {s : State} {args : Array Value} {below : List Frame} {len W : Nat} {Z : State} {a0 : Array Value} {h : Heap} (hZ : Z.Warmed39 s.vm) (hw : ∀ d ∈ wordsChN, d.before a0 Z = true) {kI : Nat} (wi : (Jvm.Cond.instantiable ST kI).before a0 Z = true)
    {x t : Addr} {kb : ClassId} {cs : List Int32} {N2 z : Int32} {vs : List Value} {fm : Value} {i : Nat} {j : Int32} (E : RoadKit.Exa Z h x ST) (V : RoadKit.Fld Z h x ST "value" "[B" (.ref t)) (C : RoadKit.Fld Z h x ST "coder" "B" (.int 0)) (K : RoadKit.Arv Z h t kb .byte N2 vs (.int 0)) (hc : CodA cs 0 N2 vs) (hb : ∀ c ∈ cs, ¬ c < 0 ∧ ¬ (65535 : Int32) < c)
    (S : RoadKit.Sta Z h ST "COMPACT_STRINGS" "Z" (.int z)) (hz : ¬ z = 0) (F : RoadKit.Sta Z h "jdk/internal/util/Preconditions" "SIOOBE_FORMATTER" "Ljava/util/function/BiFunction;" fm) (rf : fm.isRef = true) (l2 : cs.length ≤ 4000) (hi : i < cs.length) (hj : j = Int32.ofNat i) (hfr : 4 ≤ R.frames) (hlo : W + 53 ≤ R.locals) :
    Back l R p e below s args (⟨"java/lang/String", "charAt", "(I)C"⟩ : MethodName) len W (fun P a => a = #[.ref x, .int j] ∧ P.U.heap = h ∧ P.cells + 0 ≤ R.cells ∧ P.slots + 0 ≤ R.slots)
      (fun P _ v B => ∃ L, (v = some (.int (cs.getD i 0)) ∧ L = [] ∧ B.U.heap = h) ∧ B.locs = P.locs ++ L ∧ B.cells = P.cells + 0 ∧ B.slots = P.slots + 0) := by
  subst hj
  intro m meth c P g ig mk a X hg hsize hdg hW hn hp'
  obtain ⟨rfl, rfl, r1, r2⟩ := hp'
  have al : Z.vm.Alike P.U.vm := hZ.alike.trans X.warmed.alike
  obtain ⟨A, hx⟩ := txt_of wi al E V C K hc hb l2
  obtain ⟨v, B, X', ⟨⟨hv, hh⟩, hl, hk, hs⟩, st⟩ := ChN.pays x t A cs.length (fun j => cs.getD j 0) z fm i (tabChN_of (movedChN hZ hw)) hfr hlo m meth c P g ig mk _ X hg hsize hdg hW hn ⟨r1, r2, rfl, hx, hi, sta_is al S, hz, sta_is al F, rf⟩
  exact ⟨v, B, X', ⟨[], ⟨hv, rfl, hh⟩, hl, hk, hs⟩, st⟩
/-- what backV says of its String, as the contracts of this text ask it: cs's low bytes, coder 0 -/
theorem codOf {cs : List Int32} {n : Nat} (hn : cs.length = n) (hb : ∀ c ∈ cs, ¬ 255 < c) : CodA cs 0 (Int32.ofNat n) ((cs.map lo8).map Value.int) := Or.inl ⟨rfl, by rw [hn], by simp [List.map_map, Function.comp_def], hb⟩
end StrChars.Road
end Jvm.Pilot.@@N@@
namespace Jvm.Pilot.@@N@@
open Jvm Jvm.ClassFile Sem Op Lib Jvm.Free Jvm.Stand Jvm.LawKit Jvm.RoadKit Bundle Jvm.Pilot.@@N@@.Jvm.D
section OwnKit
variable {p : Program} {l : Launch} {e : Env} {R : Room} {s : State} {m : MethodId} {args : Array Value} {below : List Frame} {meth : Method} {c : Code} {T T' : State} {Z : State} {a0 : Array Value} {h h' h2 : Heap} {k n k' n' : Nat} {Φ : Outcome → State → Prop} {Q : Option Value → Heap → Prop}
theorem nle {a b : Nat} (h : Nat.ble a b = true) : a ≤ b := Nat.le_of_ble_eq_true h
/-- from here the run returns, and what it leaves is as Φ says -/
def Ends (p : Program) (e : Env) (below : List Frame) (Φ : Outcome → State → Prop) (T : State) (f : JFrame) : Prop :=
  ∃ s₂ o, Steps p.tables e below (T.setTop f) s₂ ∧ s₂.status = .running ∧ Ended s₂ below o ∧ Φ o s₂
theorem Ends.go {f f' : JFrame} (st : ∀ t, Steps p.tables e below (T'.setTop f') t → Steps p.tables e below (T.setTop f) t) (K : Ends p e below Φ T' f') : Ends p e below Φ T f := by
  obtain ⟨s₂, o, h1, h2⟩ := K; exact ⟨s₂, o, st _ h1, h2⟩
theorem Ends.mono {f : JFrame} {Ψ : Outcome → State → Prop} (K : Ends p e below Φ T f) (q : ∀ o u, Φ o u → Ψ o u) : Ends p e below Ψ T f := by
  obtain ⟨s₂, o, h1, h2, h3, h4⟩ := K; exact ⟨s₂, o, h1, h2, h3, q _ _ h4⟩
/-- where a walk stands -/
def Now (p : Program) (l : Launch) (e : Env) (R : Room) (s : State) (m : MethodId) (args : Array Value) (below : List Frame) (meth : Method) (c : Code) (Z : State) (T : State) (h : Heap) (k n : Nat) : Prop :=
  ∃ locs, Stand p l e R s m args below meth c T locs k n ∧ T.heap = h ∧ Fr Z.heap.size locs ∧ Ext Z.heap s.heap
theorem Now.here (N : Now p l e R s m args below meth c Z T h k n) : At T m c below := by obtain ⟨_, X, _⟩ := N; exact X.here
theorem Now.ext (N : Now p l e R s m args below meth c Z T h k n) : Ext Z.heap h := by
  obtain ⟨L, X, eT, F, q⟩ := N
  obtain ⟨-, h1, -, -, -, h2⟩ := X.same
  have h1 : s.heap.size ≤ T.heap.size := h1
  subst eT
  refine ⟨Nat.le_trans q.1 h1, fun a cl hc => ?_⟩
  have hlt : a < Z.heap.size := (Array.getElem?_eq_some_iff.mp hc).1
  obtain ⟨c', e1, e2, e3, e4⟩ := h2 a cl (q.2 a cl hc)
  have e5 : c'.slots = cl.slots := Array.ext_getElem? fun i => e4 i fun hm => absurd hlt (Nat.not_lt.mpr (F _ hm))
  have e6 : c' = cl := by rw [e2, e5]
  rw [← e6]; exact e1
theorem Now.le (N : Now p l e R s m args below meth c Z T h k n) : Z.heap.size ≤ h.size := N.ext.1
theorem Now.le0 (N : Now p l e R s m args below meth c Z T h k n) : s.heap.size ≤ h.size := by
  obtain ⟨_, X, eT, _, q⟩ := N
  have r : s.heap.size ≤ T.heap.size := X.same.2.1
  rw [eT] at r; exact r
theorem Now.mono (N : Now p l e R s m args below meth c Z T h k n) (hk : k ≤ k') (hn : n ≤ n') : Now p l e R s m args below meth c Z T h k' n' := by
  obtain ⟨L, X, r⟩ := N; exact ⟨L, X.more hk hn, r⟩
/-- what a narrow contract promises -/
def PhiN (Z s : State) (Q : Option Value → Heap → Prop) (K N : Nat) : Outcome → State → Prop := fun o u => ∃ v L, o = .returned v ∧ (Q v u.heap ∧ Fr Z.heap.size L) ∧ FrameEnd s o u L K N
def MetN (l : Launch) (Z : State) (y : MethodName) (bytes : ByteArray) (maxL : Nat) (ret : Option FieldType) (ws : List Jvm.Cond) (rm : Room) (as' : Array Value) (h : Heap) (Q : Option Value → Heap → Prop) : Prop :=
  MetFree l y (head1 (Jvm.Cond.code y bytes maxL ret :: ws) rm) (fun a U => a = as' ∧ Z.Warmed39 U.vm ∧ U.heap = h) (fun _ _ _ _ _ => True) (fun _ U o U' => ∃ v L, o = .returned v ∧ (Q v U'.heap ∧ Fr Z.heap.size L) ∧ FrameEnd U o U' L rm.cells rm.slots)
theorem metN {y : MethodName} {bytes : ByteArray} {maxL : Nat} {ret : Option FieldType} {ws : List Jvm.Cond} {rm : Room} {as' : Array Value} {Ls : Array Slot} (hpl : plainFor y = true) (hn0 : Ext Z.heap h) (ef : ∀ m, entryFrame m as' maxL = mkF m 0 Ls [])
    (walk : ∀ (p : Program) (e : Env) (s : State) (m : MethodId) (below : List Frame) (meth : Method) (c : Code) (T : State), p.tables.exec = Jvm.exec → c.code = bytes → c.maxLocals = maxL → meth.sig.returnType = ret → meth.locks = false → s.vm.findClass y.cls = some m.cls → meth.name = y.name → Z.Warmed39 s.vm →
      Now p l e rm s m as' below meth c Z T h 0 0 → Ends p e below (PhiN Z s Q rm.cells rm.slots) T (mkF m 0 Ls [])) : MetN l Z y bytes maxL ret ws rm as' h Q := by
  refine MetFree.of_bodySF hpl hisR ?_
  intro p e s m args below meth c s₁ Bd hml0 hP hK
  obtain ⟨rfl, hZ, hh⟩ := hP
  have e0 : s₁.heap = h := by rw [← hh, Bd.state]; rfl
  have W := walk p e s m below meth c s₁ Bd.exec Bd.bytes hml0 Bd.returns Bd.notSynchronized (findClass_of_methodNamed Bd.named) (name_of_methodNamed Bd.named Bd.method).1 hZ ⟨[], Stand.of_body Bd, e0, Fr.nil _, hh ▸ hn0⟩
  rw [← ef] at W
  exact W
/-- the end of a narrow walk -/
theorem endN {v : Option Value} {f : JFrame} {K M : Nat} (N : Now p l e R s m args below meth c Z T h k n) (hlocks : meth.locks = false) (hv : meth.sig.returnType = none → v = none)
    (st : ∀ (locs : List Loc), Stand p l e R s m args below meth c T locs k n → ∀ fs, (∀ (f : JFrame) (acts : List Action), f.method = m → f.locked = none → f.entered = [] → (doReturn e (T.setTop f) acts v).1 = T.setFrames fs) → Steps p.tables e below (T.setTop f) (T.setFrames fs)) (hQ : Q v h) (hk : k ≤ K) (hn : n ≤ M) :
    Ends p e below (PhiN Z s Q K M) T f := by
  obtain ⟨L, X, eT, F, _⟩ := N
  obtain ⟨fs, hr, hrun, hended, hW, hsame⟩ := X.leave hv hlocks
  refine ⟨_, _, st L X fs hr, hrun, hended, _, L, rfl, ⟨?_, F⟩, ⟨_, rfl⟩, hW, hsame.mono hk hn⟩
  show Q v T.heap
  rw [eT]; exact hQ
section Ret
variable {pc : Nat} {Ls : Array Slot} {rest : List Value} {K M : Nat}
theorem retI {z : Int32} (N : Now p l e R s m args below meth c Z T h k n) (hx : p.tables.exec = Jvm.exec) (hlocks : meth.locks = false) (hret : meth.sig.returnType = some .int) (hd : decode c.code pc = .ok (.ireturn, 1)) (hQ : Q (some (.int z)) h) (hk : k ≤ K) (hn : n ≤ M) :
    Ends p e below (PhiN Z s Q K M) T (mkF m pc Ls (.int z :: rest)) :=
  endN N hlocks (fun q => by rw [hret] at q; cases q) (fun L X fs hr => retOut X hx hret rfl (Or.inl ⟨rfl, Or.inl rfl, z, rfl⟩) hd hr) hQ hk hn
theorem retJ {z : Int64} (N : Now p l e R s m args below meth c Z T h k n) (hx : p.tables.exec = Jvm.exec) (hlocks : meth.locks = false) (hret : meth.sig.returnType = some .long) (hd : decode c.code pc = .ok (.lreturn, 1)) (hQ : Q (some (.long z)) h) (hk : k ≤ K) (hn : n ≤ M) :
    Ends p e below (PhiN Z s Q K M) T (mkF m pc Ls (.long z :: rest)) :=
  endN N hlocks (fun q => by rw [hret] at q; cases q) (fun L X fs hr => retOut X hx hret rfl (Or.inr (Or.inl ⟨rfl, rfl, z, rfl⟩)) hd hr) hQ hk hn
theorem retA {v : Value} {t : FieldType} (N : Now p l e R s m args below meth c Z T h k n) (hx : p.tables.exec = Jvm.exec) (hlocks : meth.locks = false) (hret : meth.sig.returnType = some t) (ht : t.isReference = true) (hv : v.isRef = true) (hd : decode c.code pc = .ok (.areturn, 1)) (hQ : Q (some v) h) (hk : k ≤ K) (hn : n ≤ M) :
    Ends p e below (PhiN Z s Q K M) T (mkF m pc Ls (v :: rest)) :=
  endN N hlocks (fun q => by rw [hret] at q; cases q) (fun L X fs hr => retOut X hx hret (by cases v <;> first | (cases hv; done) | (cases t <;> first | (cases ht; done) | rfl)) (Or.inr (Or.inr (Or.inr (Or.inr ⟨rfl, ht, hv⟩)))) hd hr) hQ hk hn
theorem retZ {z : Int32} {t : FieldType} (N : Now p l e R s m args below meth c Z T h k n) (hx : p.tables.exec = Jvm.exec) (hlocks : meth.locks = false) (hret : meth.sig.returnType = some t) (ht : t = .boolean ∨ t = .byte ∨ t = .char ∨ t = .short) (hd : decode c.code pc = .ok (.ireturn, 1)) (hQ : Q (some (.int (nar t z))) h) (hk : k ≤ K) (hn : n ≤ M) :
    Ends p e below (PhiN Z s Q K M) T (mkF m pc Ls (.int z :: rest)) :=
  endN N hlocks (fun q => by rw [hret] at q; cases q) (fun L X fs hr => retN X hx hret ht hd hr) hQ hk hn
theorem retV (N : Now p l e R s m args below meth c Z T h k n) (hx : p.tables.exec = Jvm.exec) (hlocks : meth.locks = false) (hret : meth.sig.returnType = none) (hd : decode c.code pc = .ok (.return_, 1)) (hQ : Q none h) (hk : k ≤ K) (hn : n ≤ M) :
    Ends p e below (PhiN Z s Q K M) T (mkF m pc Ls []) :=
  endN N hlocks (fun _ => rfl) (fun L X fs hr => X.returnOut hx hret hd hr) hQ hk hn
end Ret
section Heap
variable {pc : Nat} {Ls : Array Slot} {st rest : List Value}
theorem gIrem {x y : Int32} {t : State} (N : Now p l e R s m args below meth c Z T h k n) (hx : p.tables.exec = Jvm.exec) (hd : decode c.code pc = .ok (.irem, 1)) (hy : y ≠ 0)
    (q : Steps p.tables e below (T.setTop (mkF m (pc + 1) Ls (.int (x % y) :: rest))) t) : Steps p.tables e below (T.setTop (mkF m pc Ls (.int y :: .int x :: rest))) t := by
  obtain ⟨L, X, _⟩ := N
  exact iremM X hx (g := mkF m pc Ls (.int y :: .int x :: rest)) rfl hd rfl hy q
/-- new C -/
theorem gNew {own C : String} {index q : Nat} (N : Now p l e R s m args below meth c Z T h k n) (hx : p.tables.exec = Jvm.exec) (hZ : Z.Warmed39 s.vm) (hown : s.vm.findClass own = some m.cls)
    (w : (Jvm.Cond.classLink own index C).before a0 Z = true) (wi : (Jvm.Cond.instantiable C q).before a0 Z = true) (wz : (Jvm.Cond.initialized C).before a0 Z = true) (hd : decode c.code pc = .ok (.new index, 3)) (hc : k + 1 ≤ R.cells) (hl : n + q ≤ R.slots)
    (K : ∀ T' h' a, a = h.size → Now p l e R s m args below meth c Z T' h' (k + 1) (n + q) → Ext h h' → Exa Z h' a C → (∀ {O nm d : String} {ty : FieldType}, Laid Z a0 C O nm d → parseFieldDescriptor d = some ty → Fld Z h' a O nm d (defaultValue ty)) → Ends p e below Φ T' (mkF m (pc + 3) Ls (.ref a :: st))) :
    Ends p e below Φ T (mkF m pc Ls st) := by
  obtain ⟨L, X, eT, F, hn0⟩ := N
  obtain ⟨T1, h1, X1, e1, E1, A1, D1, -, st1⟩ := newO X hx hZ hown w wi wz eT (g := mkF m pc Ls st) rfl hd hc hl
  exact Ends.go st1 (K T1 h1 h.size rfl ⟨L, X1, e1, F, hn0⟩ E1 A1 D1)
/-- newarray -/
theorem gArr {aty : ArrayType} {z : Int32} (cap : Nat) (N : Now p l e R s m args below meth c Z T h k n) (hx : p.tables.exec = Jvm.exec) (hZ : Z.Warmed39 s.vm) (w : (Jvm.Cond.arrayClass (newarray.typeOf aty)).before a0 Z = true) (hd : decode c.code pc = .ok (.newarray aty, 2)) (hz : ¬ z < 0)
    (hcap : z.toNatClampNeg ≤ cap) (hb : cap * 8 ≤ 536870912) (hc : k + 1 ≤ R.cells) (hl : n + cap ≤ R.slots)
    (K : ∀ T' h' a kA, a = h.size → Now p l e R s m args below meth c Z T' h' (k + 1) (n + cap) → Ext h h' → Arv Z h' a kA (newarray.typeOf aty) z [] (defaultValue (newarray.typeOf aty)) → Ends p e below Φ T' (mkF m (pc + 2) Ls (.ref a :: rest))) :
    Ends p e below Φ T (mkF m pc Ls (.int z :: rest)) := by
  obtain ⟨L, X, eT, F, hn0⟩ := N
  obtain ⟨T1, h1, kA, X1, e1, E1, A1, st1⟩ := newP X hx hZ w eT (g := mkF m pc Ls (.int z :: rest)) rfl hd rfl hz hcap hb hc hl
  exact Ends.go st1 (K T1 h1 h.size kA rfl ⟨L, X1, e1, F, hn0⟩ E1 (Arv.new A1 hz))
/-- castore into a known array -/
theorem gStC {a : Addr} {kA : ClassId} {z j x : Int32} {vs : List Value} {d : Value} (i : Nat) (N : Now p l e R s m args below meth c Z T h k n) (hx : p.tables.exec = Jvm.exec) (hZ : Z.Warmed39 s.vm) (V : Arv Z h a kA .char z vs d) (ha : Z.heap.size ≤ a) (hj : ¬ j < 0 ∧ j < z) (hi : j.toNatClampNeg = i) (hil : i < vs.length) (hd : decode c.code pc = .ok (.castore, 1))
    (K : ∀ T' h', Now p l e R s m args below meth c Z T' h' k n → Wr h h' a j.toNatClampNeg (.int (nar .char x)) → Arv Z h' a kA .char z (vs.set i (.int (nar .char x))) d → Ends p e below Φ T' (mkF m (pc + 1) Ls rest)) :
    Ends p e below Φ T (mkF m pc Ls (.int x :: .int j :: .ref a :: rest)) := by
  obtain ⟨L, X, eT, F, hn0⟩ := N
  obtain ⟨cl, A, q, S, M, H, U⟩ := V
  obtain ⟨T1, h1, X1, e1, W1, st1⟩ := stC X hx hZ eT A (j := j) (x := x) (inb_of S hj) (g := mkF m pc Ls (.int x :: .int j :: .ref a :: rest)) rfl rfl hd
  exact Ends.go st1 (K T1 h1 ⟨_, X1, e1, Fr.snoc X1 F ha, hn0⟩ W1 (Arv.set A q S M H U (fits_nar_char _) W1 i hi hil))
/-- getfield -/
theorem gGet {own R0 O nm d host : String} {index : Nat} {a : Addr} {v : Value} (N : Now p l e R s m args below meth c Z T h k n) (hx : p.tables.exec = Jvm.exec) (hZ : Z.Warmed39 s.vm) (hown : s.vm.findClass own = some m.cls)
    (w : (Jvm.Cond.fieldLink own index R0 nm d).before a0 Z = true ∨ (Jvm.Cond.fieldLinkNest own index R0 nm d host).before a0 Z = true) (via : Via Z R0 O nm d) (Fv : Fld Z h a O nm d v) (hd : decode c.code pc = .ok (.getfield index, 3))
    (K : ∀ T', Now p l e R s m args below meth c Z T' h k n → Ends p e below Φ T' (mkF m (pc + 3) Ls (v :: rest))) :
    Ends p e below Φ T (mkF m pc Ls (.ref a :: rest)) := by
  obtain ⟨L, X, eT, F, hn0⟩ := N
  obtain ⟨T1, X1, e1, st1⟩ := getF X hx hZ hown w via eT Fv (g := mkF m pc Ls (.ref a :: rest)) rfl rfl hd
  exact Ends.go st1 (K T1 ⟨_, X1, e1, F, hn0⟩)
/-- putfield -/
theorem gPut {own R0 O nm d host C : String} {index kk : Nat} {ty : FieldType} {a : Addr} {v old : Value} (N : Now p l e R s m args below meth c Z T h k n) (hx : p.tables.exec = Jvm.exec) (hZ : Z.Warmed39 s.vm) (hown : s.vm.findClass own = some m.cls)
    (w : (Jvm.Cond.fieldLink own index R0 nm d).before a0 Z = true ∨ (Jvm.Cond.fieldLinkNest own index R0 nm d host).before a0 Z = true) (via : Via Z R0 O nm d) (Fv : Fld Z h a O nm d old) (E : Exa Z h a C) (ha : Z.heap.size ≤ a)
    (L0 : (Jvm.Cond.lays C O nm d).before a0 Z = true ∨ ((Jvm.Cond.laysFinal C O nm d).before a0 Z = true ∧ own = O ∧ meth.name = "<init>")) (wi : (Jvm.Cond.instantiable C kk).before a0 Z = true) (hty : parseFieldDescriptor d = some ty) (hnr : narrow ty v = v) (hf : fits ty v = true) (hd : decode c.code pc = .ok (.putfield index, 3))
    (K : ∀ T' h', Now p l e R s m args below meth c Z T' h' k n → Wr h h' a (RoadKit.slotOf Z O nm d) v → Fld Z h' a O nm d v → Exa Z h' a C → Ends p e below Φ T' (mkF m (pc + 3) Ls rest)) :
    Ends p e below Φ T (mkF m pc Ls (v :: .ref a :: rest)) := by
  obtain ⟨L, X, eT, F, hn0⟩ := N
  obtain ⟨T1, h1, X1, e1, W1, st1⟩ := putF X hx hZ hown w via eT Fv E L0 wi hty hnr hf (g := mkF m pc Ls (v :: .ref a :: rest)) rfl rfl hd
  exact Ends.go st1 (K T1 h1 ⟨_, X1, e1, Fr.snoc X1 F ha, hn0⟩ W1 (Fv.same W1) (E.wr W1))
/-- getstatic -/
theorem gSta {own R0 O nm d : String} {index : Nat} {v : Value} (N : Now p l e R s m args below meth c Z T h k n) (hx : p.tables.exec = Jvm.exec) (hZ : Z.Warmed39 s.vm) (hown : s.vm.findClass own = some m.cls)
    (w : (Jvm.Cond.fieldLink own index R0 nm d).before a0 Z = true) (via : Via Z R0 O nm d) (Fv : Sta Z h O nm d v) (hd : decode c.code pc = .ok (.getstatic index, 3))
    (K : ∀ T', Now p l e R s m args below meth c Z T' h k n → Ends p e below Φ T' (mkF m (pc + 3) Ls (v :: st))) :
    Ends p e below Φ T (mkF m pc Ls st) := by
  obtain ⟨L, X, eT, F, hn0⟩ := N
  obtain ⟨T1, X1, e1, st1⟩ := getS (host := "") X hx hZ hown w via eT Fv (g := mkF m pc Ls st) rfl hd
  exact Ends.go st1 (K T1 ⟨_, X1, e1, F, hn0⟩)
/-- Object.<init> -/
theorem gInitO {own : String} {index : Nat} {a : Addr} (W : Nat) (N : Now p l e R s m args below meth c Z T h k n) (hx : p.tables.exec = Jvm.exec) (hZ : Z.Warmed39 s.vm) (hown : s.vm.findClass own = some m.cls)
    (w1 : (Jvm.Cond.methodLink own index Lib.objectInit).before a0 Z = true) (w2 : (Jvm.Cond.instanceMethod Lib.objectInit).before a0 Z = true) (w3 : (Jvm.Cond.code Lib.objectInit ⟨#[0xb1]⟩ 1 none).before a0 Z = true) (hd : decode c.code pc = .ok (.invokespecial index, 3)) (hsize : Ls.size = c.maxLocals) (hf : 1 ≤ R.frames) (hW : (rest.map fun v => v.category).sum ≤ W) (hl : W + 12 ≤ R.locals)
    (K : ∀ T', Now p l e R s m args below meth c Z T' h k n → Ends p e below Φ T' (mkF m (pc + 3) Ls rest)) :
    Ends p e below Φ T (mkF m pc Ls (.ref a :: rest)) := by
  obtain ⟨L, X, eT, F, hn0⟩ := N
  obtain ⟨T1, X1, e1, st1⟩ := initO X hx hZ hown w1 w2 w3 eT (g := mkF m pc Ls (.ref a :: rest)) rfl hsize rfl hd hf (W := W) (by show 2 * 0 + _ ≤ _; omega) hl
  exact Ends.go st1 (K T1 ⟨_, X1, e1, F, hn0⟩)
/-- ldc of an int -/
theorem gLdcI {own : String} {index : Nat} {v : Int32} (N : Now p l e R s m args below meth c Z T h k n) (hx : p.tables.exec = Jvm.exec) (hZ : Z.Warmed39 s.vm) (hown : s.vm.findClass own = some m.cls) (w : (Jvm.Cond.constant own index v).before a0 Z = true) (hd : decode c.code pc = .ok (.ldc index, 2))
    (K : Ends p e below Φ T (mkF m (pc + 2) Ls (.int v :: st))) : Ends p e below Φ T (mkF m pc Ls st) := by
  obtain ⟨L, X, eT, F, hn0⟩ := N
  exact Ends.go (fun t q => X.ldcI hx hown (mv hZ w) (g := mkF m pc Ls st) rfl hd q) K
theorem gLdcJ {own : String} {index : Nat} {v : Int64} (N : Now p l e R s m args below meth c Z T h k n) (hx : p.tables.exec = Jvm.exec) (hZ : Z.Warmed39 s.vm) (hown : s.vm.findClass own = some m.cls) (w : (Jvm.Cond.constantLong own index v).before a0 Z = true) (hd : decode c.code pc = .ok (.ldc2_w index, 3))
    (K : Ends p e below Φ T (mkF m (pc + 3) Ls (.long v :: st))) : Ends p e below Φ T (mkF m pc Ls st) := by
  obtain ⟨L, X, eT, F, hn0⟩ := N
  exact Ends.go (fun t q => X.ldc2J hx hown (mv hZ w) (g := mkF m pc Ls st) rfl hd q) K
/-- arraylength -/
theorem gLen {a : Addr} {kA : ClassId} {ty : FieldType} {z : Int32} {vs : List Value} {d : Value} (N : Now p l e R s m args below meth c Z T h k n) (hx : p.tables.exec = Jvm.exec) (hZ : Z.Warmed39 s.vm) (V : Arv Z h a kA ty z vs d) (hd : decode c.code pc = .ok (.arraylength, 1))
    (K : Ends p e below Φ T (mkF m (pc + 1) Ls (.int z :: rest))) : Ends p e below Φ T (mkF m pc Ls (.ref a :: rest)) := by
  obtain ⟨L, X, eT, F, hn0⟩ := N
  obtain ⟨cl, A, q, S, M, H, U⟩ := V
  rw [← len_of S M] at K
  exact Ends.go (fun t q => X.arraylength hx (by rw [eT]; exact A.1) (State.isArrayOf_alike hZ.alike A.2.1) (g := mkF m pc Ls (.ref a :: rest)) rfl rfl hd t q) K
theorem gLdC {a : Addr} {kA : ClassId} {z j : Int32} {vs : List Value} {d v : Value} (N : Now p l e R s m args below meth c Z T h k n) (hx : p.tables.exec = Jvm.exec) (hZ : Z.Warmed39 s.vm) (V : Arv Z h a kA .char z vs d) (hj : ¬ j < 0 ∧ j < z) (hv : vs.getD j.toNatClampNeg d = v) (hd : decode c.code pc = .ok (.caload, 1))
    (K : Ends p e below Φ T (mkF m (pc + 1) Ls (v :: rest))) : Ends p e below Φ T (mkF m pc Ls (.int j :: .ref a :: rest)) := by
  obtain ⟨L, X, eT, F, hn0⟩ := N
  obtain ⟨cl, A, q, S, M, H, U⟩ := V
  exact Ends.go (fun t q => X.caload hx (by rw [eT]; exact A.1) (State.isArrayOf_alike hZ.alike A.2.1) A.2.2 (inb_of S hj) (H.at (inb_of S hj) hv) (g := mkF m pc Ls (.int j :: .ref a :: rest)) rfl rfl hd t q) K
theorem gLdJ {a : Addr} {kA : ClassId} {z j : Int32} {vs : List Value} {d v : Value} (N : Now p l e R s m args below meth c Z T h k n) (hx : p.tables.exec = Jvm.exec) (hZ : Z.Warmed39 s.vm) (V : Arv Z h a kA .long z vs d) (hj : ¬ j < 0 ∧ j < z) (hv : vs.getD j.toNatClampNeg d = v) (hd : decode c.code pc = .ok (.laload, 1))
    (K : Ends p e below Φ T (mkF m (pc + 1) Ls (v :: rest))) : Ends p e below Φ T (mkF m pc Ls (.int j :: .ref a :: rest)) := by
  obtain ⟨L, X, eT, F, hn0⟩ := N
  obtain ⟨cl, A, q, S, M, H, U⟩ := V
  exact Ends.go (fun t q => X.laload hx (by rw [eT]; exact A.1) (State.isArrayOf_alike hZ.alike A.2.1) A.2.2 (inb_of S hj) (H.at (inb_of S hj) hv) (g := mkF m pc Ls (.int j :: .ref a :: rest)) rfl rfl hd t q) K
theorem gLdB {a : Addr} {kA : ClassId} {z j : Int32} {vs : List Value} {d v : Value} (N : Now p l e R s m args below meth c Z T h k n) (hx : p.tables.exec = Jvm.exec) (hZ : Z.Warmed39 s.vm) (V : Arv Z h a kA .byte z vs d) (hj : ¬ j < 0 ∧ j < z) (hv : vs.getD j.toNatClampNeg d = v) (hd : decode c.code pc = .ok (.baload, 1))
    (K : Ends p e below Φ T (mkF m (pc + 1) Ls (v :: rest))) : Ends p e below Φ T (mkF m pc Ls (.int j :: .ref a :: rest)) := by
  obtain ⟨L, X, eT, F, hn0⟩ := N
  obtain ⟨cl, A, q, S, M, H, U⟩ := V
  exact Ends.go (fun t q => X.baloadBytes hx (by rw [eT]; exact A.1) (State.isArrayOf_alike hZ.alike A.2.1) A.2.2 (inb_of S hj) (H.at (inb_of S hj) hv) (g := mkF m pc Ls (.int j :: .ref a :: rest)) rfl rfl hd t q) K
theorem gLdI {a : Addr} {kA : ClassId} {z j : Int32} {vs : List Value} {d v : Value} (N : Now p l e R s m args below meth c Z T h k n) (hx : p.tables.exec = Jvm.exec) (hZ : Z.Warmed39 s.vm) (V : Arv Z h a kA .int z vs d) (hj : ¬ j < 0 ∧ j < z) (hv : vs.getD j.toNatClampNeg d = v) (hd : decode c.code pc = .ok (.iaload, 1))
    (K : Ends p e below Φ T (mkF m (pc + 1) Ls (v :: rest))) : Ends p e below Φ T (mkF m pc Ls (.int j :: .ref a :: rest)) := by
  obtain ⟨L, X, eT, F, hn0⟩ := N
  obtain ⟨cl, A, q, S, M, H, U⟩ := V
  exact Ends.go (fun t q => X.iaload hx (by rw [eT]; exact A.1) (State.isArrayOf_alike hZ.alike A.2.1) A.2.2 (inb_of S hj) (H.at (inb_of S hj) hv) (g := mkF m pc Ls (.int j :: .ref a :: rest)) rfl rfl hd t q) K
theorem gLdA {a : Addr} {kA : ClassId} {ty : FieldType} {z j : Int32} {vs : List Value} {d v : Value} (N : Now p l e R s m args below meth c Z T h k n) (hx : p.tables.exec = Jvm.exec) (hZ : Z.Warmed39 s.vm) (V : Arv Z h a kA ty z vs d) (hty : ty.isReference = true) (hj : ¬ j < 0 ∧ j < z) (hv : vs.getD j.toNatClampNeg d = v) (hd : decode c.code pc = .ok (.aaload, 1))
    (K : Ends p e below Φ T (mkF m (pc + 1) Ls (v :: rest))) : Ends p e below Φ T (mkF m pc Ls (.int j :: .ref a :: rest)) := by
  obtain ⟨L, X, eT, F, hn0⟩ := N
  obtain ⟨cl, A, q, S, M, H, U⟩ := V
  exact Ends.go (fun t q => X.aaload hx (by rw [eT]; exact A.1) (State.isArrayOf_alike hZ.alike A.2.1) hty A.2.2 (inb_of S hj) (H.at (inb_of S hj) hv) (g := mkF m pc Ls (.int j :: .ref a :: rest)) rfl rfl hd t q) K
/-- checkcast, instanceof: yes; of null -/
theorem gCast {own K0 : String} {index : Nat} {a : Addr} (N : Now p l e R s m args below meth c Z T h k n) (hx : p.tables.exec = Jvm.exec) (hZ : Z.Warmed39 s.vm) (hown : s.vm.findClass own = some m.cls) (w : (Jvm.Cond.classLink own index K0).before a0 Z = true) (I : Ins Z h a K0 true) (hd : decode c.code pc = .ok (.checkcast index, 3))
    (K : ∀ T', Now p l e R s m args below meth c Z T' h k n → Ends p e below Φ T' (mkF m (pc + 3) Ls (.ref a :: rest))) : Ends p e below Φ T (mkF m pc Ls (.ref a :: rest)) := by
  obtain ⟨L, X, eT, F, hn0⟩ := N
  obtain ⟨T1, X1, e1, st1⟩ := castY X hx hZ hown w eT I (g := mkF m pc Ls (.ref a :: rest)) rfl rfl hd
  exact Ends.go st1 (K T1 ⟨_, X1, e1, F, hn0⟩)
theorem gInst {own K0 : String} {index : Nat} {a : Addr} (N : Now p l e R s m args below meth c Z T h k n) (hx : p.tables.exec = Jvm.exec) (hZ : Z.Warmed39 s.vm) (hown : s.vm.findClass own = some m.cls) (w : (Jvm.Cond.classLink own index K0).before a0 Z = true) (I : Ins Z h a K0 true) (hd : decode c.code pc = .ok (.instanceof index, 3))
    (K : ∀ T', Now p l e R s m args below meth c Z T' h k n → Ends p e below Φ T' (mkF m (pc + 3) Ls (.int 1 :: rest))) : Ends p e below Φ T (mkF m pc Ls (.ref a :: rest)) := by
  obtain ⟨L, X, eT, F, hn0⟩ := N
  obtain ⟨T1, X1, e1, st1⟩ := instY X hx hZ hown w eT I (g := mkF m pc Ls (.ref a :: rest)) rfl rfl hd
  exact Ends.go st1 (K T1 ⟨_, X1, e1, F, hn0⟩)
theorem gCastN {index : Nat} (N : Now p l e R s m args below meth c Z T h k n) (hx : p.tables.exec = Jvm.exec) (hd : decode c.code pc = .ok (.checkcast index, 3)) (K : Ends p e below Φ T (mkF m (pc + 3) Ls (.null :: rest))) : Ends p e below Φ T (mkF m pc Ls (.null :: rest)) := by
  obtain ⟨L, X, eT, F, hn0⟩ := N
  exact Ends.go (X.checkcastNull hx (g := mkF m pc Ls (.null :: rest)) rfl rfl hd) K
theorem gInstN {index : Nat} (N : Now p l e R s m args below meth c Z T h k n) (hx : p.tables.exec = Jvm.exec) (hd : decode c.code pc = .ok (.instanceof index, 3)) (K : Ends p e below Φ T (mkF m (pc + 3) Ls (.int 0 :: rest))) : Ends p e below Φ T (mkF m pc Ls (.null :: rest)) := by
  obtain ⟨L, X, eT, F, hn0⟩ := N
  exact Ends.go (X.instanceofNull hx (g := mkF m pc Ls (.null :: rest)) rfl rfl hd) K
end Heap
section Calls
variable {pc : Nat} {Ls : Array Slot} {st rest argsL : List Value} {own : String} {index W k1 n1 : Nat} {y : MethodName} {Pre : Pt → Array Value → Prop}
/-- what a payer gives back, as Back's Post -/
abbrev PostN (Q : Option Value → Heap → List Loc → Prop) (k1 n1 : Nat) : Pt → Array Value → Option Value → Pt → Prop := fun A _ v B => ∃ L, Q v B.U.heap L ∧ B.locs = A.locs ++ L ∧ B.cells = A.cells + k1 ∧ B.slots = A.slots + n1
abbrev PreN (R : Room) (as' : Array Value) (h : Heap) (k1 n1 : Nat) : Pt → Array Value → Prop := fun A a => a = as' ∧ A.U.heap = h ∧ A.cells + k1 ≤ R.cells ∧ A.slots + n1 ≤ R.slots
variable {Qc : Option Value → Heap → List Loc → Prop}
/-- a static call -/
theorem gStatic {bytes : ByteArray} {maxL : Nat} {ret : Option FieldType} (N : Now p l e R s m args below meth c Z T h k n) (hx : p.tables.exec = Jvm.exec) (hZ : Z.Warmed39 s.vm) (hown : s.vm.findClass own = some m.cls)
    (w1 : (Jvm.Cond.methodLink own index y).before a0 Z = true) (w2 : (Jvm.Cond.static y).before a0 Z = true) (w3 : (Jvm.Cond.initialized y.cls).before a0 Z = true) (w4 : (Jvm.Cond.code y bytes maxL ret).before a0 Z = true) (hy : y.cls ≠ "java/lang/invoke/MethodHandle" ∧ y.cls ≠ "java/lang/invoke/VarHandle")
    (B : Back l R p e below s args y 3 W (PreN R argsL.toArray h k1 n1) (PostN Qc k1 n1)) (hd : decode c.code pc = .ok (.invokestatic index, 3)) (hst : st = argsL.reverse ++ rest) (hsize : Ls.size = c.maxLocals) (hlen : ∀ sig, parseMethodDescriptor y.desc = some sig → argsL.length = sig.parameters.length) (hW : (rest.map fun v => v.category).sum ≤ W)
    (hc : k + k1 ≤ R.cells) (hs : n + n1 ≤ R.slots) (hQ : ∀ v h' L, Qc v h' L → Fr Z.heap.size L)
    (K : ∀ v T' h' L, Now p l e R s m args below meth c Z T' h' (k + k1) (n + n1) → Qc v h' L → Ends p e below Φ T' (mkF m (pc + 3) Ls (v.toList ++ rest))) :
    Ends p e below Φ T (mkF m pc Ls st) := by
  obtain ⟨L, X, eT, F, hn0⟩ := N
  obtain ⟨v, _, ⟨T1, L1, q1, q2⟩, -, X1, ⟨Lc, hq, l1, y1, z1⟩, st1⟩ := Jvm.LawKit.callS X hx (y := y) hown (mvT hZ w1) (mvT hZ w2) (mvT hZ w3) (mvT hZ w4) hy B (g := mkF m pc Ls st) rfl hsize (argsL := argsL) (rest := rest) hlen hst (by show 2 * 0 + _ ≤ _; omega) hd (fun _ _ => ⟨rfl, eT, hc, hs⟩)
  dsimp only [Pt.U, Pt.locs, Pt.cells, Pt.slots] at X1 l1 y1 z1 st1 hq
  subst l1 y1 z1
  have q := hQ _ _ _ hq
  exact Ends.go st1 (K v T1 _ Lc ⟨_, X1, rfl, Fr.app F q, hn0⟩ hq)
/-- a constructor -/
theorem gSpecial {bytes : ByteArray} {maxL : Nat} {a : Addr} (hy1 : y.name = "<init>") (N : Now p l e R s m args below meth c Z T h k n) (hx : p.tables.exec = Jvm.exec) (hZ : Z.Warmed39 s.vm) (hown : s.vm.findClass own = some m.cls)
    (w1 : (Jvm.Cond.methodLink own index y).before a0 Z = true) (w2 : (Jvm.Cond.instanceMethod y).before a0 Z = true) (w4 : (Jvm.Cond.code y bytes maxL none).before a0 Z = true) (hy : y.cls ≠ "java/lang/invoke/MethodHandle" ∧ y.cls ≠ "java/lang/invoke/VarHandle")
    (B : Back l R p e below s args y 3 W (PreN R (.ref a :: argsL).toArray h k1 n1) (PostN Qc k1 n1)) (hd : decode c.code pc = .ok (.invokespecial index, 3)) (hst : st = argsL.reverse ++ .ref a :: rest) (hsize : Ls.size = c.maxLocals) (hlen : ∀ sig, parseMethodDescriptor y.desc = some sig → argsL.length = sig.parameters.length) (hW : (rest.map fun v => v.category).sum ≤ W)
    (hc : k + k1 ≤ R.cells) (hs : n + n1 ≤ R.slots) (hQ : ∀ v h' L, Qc v h' L → Fr Z.heap.size L)
    (K : ∀ v T' h' L, Now p l e R s m args below meth c Z T' h' (k + k1) (n + n1) → Qc v h' L → Ends p e below Φ T' (mkF m (pc + 3) Ls (v.toList ++ rest))) :
    Ends p e below Φ T (mkF m pc Ls st) := by
  obtain ⟨L, X, eT, F, hn0⟩ := N
  obtain ⟨v, _, ⟨T1, L1, q1, q2⟩, -, X1, ⟨Lc, hq, l1, y1, z1⟩, st1⟩ := X.specialBack hx (y := y) hy1 hown (mvT hZ w1) (mvT hZ w2) (mvT hZ w4) hy B (g := mkF m pc Ls st) rfl hsize (Steps.refl _) (a := a) (argsL := argsL) (rest := rest) hlen hst (by show 2 * 0 + _ ≤ _; omega) hd (fun _ _ => ⟨rfl, eT, hc, hs⟩)
  dsimp only [Pt.U, Pt.locs, Pt.cells, Pt.slots] at X1 l1 y1 z1 st1 hq
  subst l1 y1 z1
  have q := hQ _ _ _ hq
  exact Ends.go (fun t r => st1.trans r) (K v T1 _ Lc ⟨_, X1, rfl, Fr.app F q, hn0⟩ hq)
/-- an instance method -/
theorem gVirtual {C : String} {z : MethodName} {b : Addr} (N : Now p l e R s m args below meth c Z T h k n) (hx : p.tables.exec = Jvm.exec) (hZ : Z.Warmed39 s.vm) (hown : s.vm.findClass own = some m.cls)
    (w1 : (Jvm.Cond.methodLink own index y).before a0 Z = true) (w2 : (Jvm.Cond.declares y).before a0 Z = true) (w3 : (Jvm.Cond.selects C y z).before a0 Z = true) (w4 : (Jvm.Cond.instanceMethod z).before a0 Z = true) (hy : y.cls ≠ "java/lang/invoke/MethodHandle" ∧ y.cls ≠ "java/lang/invoke/VarHandle")
    (hnf : NotFace s y) (E : Exa Z h b C)
    (B : Back l R p e below s args z 3 W (PreN R (.ref b :: argsL).toArray h k1 n1) (PostN Qc k1 n1)) (hd : decode c.code pc = .ok (.invokevirtual index, 3)) (hst : st = argsL.reverse ++ .ref b :: rest) (hsize : Ls.size = c.maxLocals) (hlen : ∀ sig, parseMethodDescriptor y.desc = some sig → argsL.length = sig.parameters.length) (hW : (rest.map fun v => v.category).sum ≤ W)
    (hc : k + k1 ≤ R.cells) (hs : n + n1 ≤ R.slots) (hQ : ∀ v h' L, Qc v h' L → Fr Z.heap.size L)
    (K : ∀ v T' h' L, Now p l e R s m args below meth c Z T' h' (k + k1) (n + n1) → Qc v h' L → Ends p e below Φ T' (mkF m (pc + 3) Ls (v.toList ++ rest))) :
    Ends p e below Φ T (mkF m pc Ls st) := by
  obtain ⟨L, X, eT, F, hn0⟩ := N
  obtain ⟨cq, kq, qa, qb, qc⟩ := isOf hZ eT E
  obtain ⟨v, _, ⟨T1, L1, q1, q2⟩, -, X1, ⟨Lc, hq, l1, y1, z1⟩, st1⟩ := X.virtualBack hx (y := y) (z := z) hown (mvT hZ w1) (mvT hZ w2) hnf (mvT hZ w3) (mvT hZ w4) hy B qa qc (g := mkF m pc Ls st) rfl hsize (Steps.refl _) (argsL := argsL) (rest := rest) hlen hst (by show 2 * 0 + _ ≤ _; omega) hd (fun _ _ => ⟨rfl, eT, hc, hs⟩)
  dsimp only [Pt.U, Pt.locs, Pt.cells, Pt.slots] at X1 l1 y1 z1 st1 hq
  subst l1 y1 z1
  have q := hQ _ _ _ hq
  exact Ends.go (fun t r => st1.trans r) (K v T1 _ Lc ⟨_, X1, rfl, Fr.app F q, hn0⟩ hq)
/-- a private instance method, by invokevirtual -/
theorem gPrivate {bytes : ByteArray} {maxL : Nat} {ret : Option FieldType} {b : Addr} {C : String} (N : Now p l e R s m args below meth c Z T h k n) (hx : p.tables.exec = Jvm.exec) (hZ : Z.Warmed39 s.vm) (hown : s.vm.findClass own = some m.cls)
    (w1 : (Jvm.Cond.methodLink own index y).before a0 Z = true) (w2 : (Jvm.Cond.instanceMethod y).before a0 Z = true) (w3 : (Jvm.Cond.selects y.cls y y).before a0 Z = true) (w4 : (Jvm.Cond.privateMethod y).before a0 Z = true) (w5 : (Jvm.Cond.code y bytes maxL ret).before a0 Z = true) (hy : y.cls ≠ "java/lang/invoke/MethodHandle" ∧ y.cls ≠ "java/lang/invoke/VarHandle")
    (E : Exa Z h b C)
    (B : Back l R p e below s args y 3 W (PreN R (.ref b :: argsL).toArray h k1 n1) (PostN Qc k1 n1)) (hd : decode c.code pc = .ok (.invokevirtual index, 3)) (hst : st = argsL.reverse ++ .ref b :: rest) (hsize : Ls.size = c.maxLocals) (hlen : ∀ sig, parseMethodDescriptor y.desc = some sig → argsL.length = sig.parameters.length) (hW : (rest.map fun v => v.category).sum ≤ W)
    (hc : k + k1 ≤ R.cells) (hs : n + n1 ≤ R.slots) (hQ : ∀ v h' L, Qc v h' L → Fr Z.heap.size L)
    (K : ∀ v T' h' L, Now p l e R s m args below meth c Z T' h' (k + k1) (n + n1) → Qc v h' L → Ends p e below Φ T' (mkF m (pc + 3) Ls (v.toList ++ rest))) :
    Ends p e below Φ T (mkF m pc Ls st) := by
  obtain ⟨L, X, eT, F, hn0⟩ := N
  obtain ⟨cell, hce, hob⟩ := E.cell
  obtain ⟨v, _, ⟨T1, L1, q1, q2⟩, -, X1, ⟨Lc, hq, l1, y1, z1⟩, st1⟩ := X.privateBack hx (y := y) hown (mvT hZ w1) (mvT hZ w2) (mvT hZ w3) (Cond.privateMethod_at (args := args) (mvP hZ w4)) (mvT hZ w5) hy B (g := mkF m pc Ls st) rfl hsize (Steps.refl _) (by rw [eT]; exact hce) hob (argsL := argsL) (rest := rest) hlen hst (by show 2 * 0 + _ ≤ _; omega) hd (fun _ _ => ⟨rfl, eT, hc, hs⟩)
  dsimp only [Pt.U, Pt.locs, Pt.cells, Pt.slots] at X1 l1 y1 z1 st1 hq
  subst l1 y1 z1
  have q := hQ _ _ _ hq
  exact Ends.go (fun t r => st1.trans r) (K v T1 _ Lc ⟨_, X1, rfl, Fr.app F q, hn0⟩ hq)
/-- an interface method -/
theorem gFace {C : String} {count : Nat} {z : MethodName} {b : Addr} (N : Now p l e R s m args below meth c Z T h k n) (hx : p.tables.exec = Jvm.exec) (hZ : Z.Warmed39 s.vm) (hown : s.vm.findClass own = some m.cls)
    (w1 : (Jvm.Cond.methodLink own index y).before a0 Z = true) (w2 : (Jvm.Cond.declares y).before a0 Z = true) (w3 : (Jvm.Cond.interfaceMethod y.cls y.cls y.name y.desc).before args s = true) (w4 : (Jvm.Cond.selects C y z).before a0 Z = true) (w5 : (Jvm.Cond.instanceMethod z).before a0 Z = true) (w6 : (Jvm.Cond.publicMethod z).before a0 Z = true) (w7 : (Jvm.Cond.unhidden C y.name y.desc).before a0 Z = true) (w8 : (Jvm.Cond.castable C y.cls).before a0 Z = true)
    (hy : y.cls ≠ "java/lang/invoke/MethodHandle" ∧ y.cls ≠ "java/lang/invoke/VarHandle") (E : Exa Z h b C)
    (B : Back l R p e below s args z 5 W (PreN R (.ref b :: argsL).toArray h k1 n1) (PostN Qc k1 n1)) (hd : decode c.code pc = .ok (.invokeinterface index count, 5)) (hst : st = argsL.reverse ++ .ref b :: rest) (hsize : Ls.size = c.maxLocals) (hlen : ∀ sig, parseMethodDescriptor y.desc = some sig → argsL.length = sig.parameters.length) (hW : (rest.map fun v => v.category).sum ≤ W)
    (hc : k + k1 ≤ R.cells) (hs : n + n1 ≤ R.slots) (hQ : ∀ v h' L, Qc v h' L → Fr Z.heap.size L)
    (K : ∀ v T' h' L, Now p l e R s m args below meth c Z T' h' (k + k1) (n + n1) → Qc v h' L → Ends p e below Φ T' (mkF m (pc + 5) Ls (v.toList ++ rest))) :
    Ends p e below Φ T (mkF m pc Ls st) := by
  obtain ⟨L, X, eT, F, hn0⟩ := N
  obtain ⟨cq, kq, qa, qb, qc⟩ := isOf hZ eT E
  obtain ⟨v, _, ⟨T1, L1, q1, q2⟩, -, X1, ⟨Lc, hq, l1, y1, z1⟩, st1⟩ := X.interfaceBack hx (xi := y) (y := z) hown (mvT hZ w1) (mvT hZ w2) w3 (mvT hZ w4) (mvT hZ w5) (mvT hZ w6) (mvT hZ w7) (mvT hZ w8) hy B qa qb qc (g := mkF m pc Ls st) rfl hsize (Steps.refl _) (argsL := argsL) (rest := rest) hlen hst (by show 2 * 0 + _ ≤ _; omega) hd (fun _ _ => ⟨rfl, eT, hc, hs⟩)
  dsimp only [Pt.U, Pt.locs, Pt.cells, Pt.slots] at X1 l1 y1 z1 st1 hq
  subst l1 y1 z1
  have q := hQ _ _ _ hq
  exact Ends.go (fun t r => st1.trans r) (K v T1 _ Lc ⟨_, X1, rfl, Fr.app F q, hn0⟩ hq)
/-- a contract as a payer -/
theorem MetN.back {bytes : ByteArray} {maxL : Nat} {ret : Option FieldType} {rm : Room} {len : Nat} {as' : Array Value} (hM : MetN l Z y bytes maxL ret [] rm as' h Q)
    (hZ : Z.Warmed39 s.vm) (wc : (Jvm.Cond.code y bytes maxL ret).before a0 Z = true) (wz : (Jvm.Cond.initialized y.cls).before a0 Z = true) (hf : rm.frames + 1 ≤ R.frames) (hl : W + (maxL + 11) + rm.locals ≤ R.locals) :
    Back l R p e below s args y len W (PreN R as' h rm.cells rm.slots) (PostN (fun v h' L => Q v h' ∧ Fr Z.heap.size L) rm.cells rm.slots) := backOf (Q := fun v h' L => Q v h' ∧ Fr Z.heap.size L) hM hZ wc wz hf hl
end Calls
end OwnKit
end Jvm.Pilot.@@N@@
namespace Jvm.Pilot.@@N@@
open Jvm Jvm.ClassFile Sem Op Lib Jvm.Free Jvm.Stand Jvm.LawKit Jvm.RoadKit Bundle Jvm.Pilot.@@N@@.Jvm.D
section OwnStr
variable {p : Program} {l : Launch} {e : Env} {R : Room} {s : State} {m : MethodId} {args : Array Value} {below : List Frame} {meth : Method} {c : Code} {T T' : State} {Z : State} {a0 : Array Value} {h h' h2 : Heap} {k n k' n' : Nat} {Φ : Outcome → State → Prop} {cs ds : List Int32} {a b : Addr}
/-- a String whose chars are cs, all below 256 -/
def Str (Z : State) (h : Heap) (a : Addr) (cs : List Int32) : Prop :=
  Exa Z h a "java/lang/String" ∧ Fld Z h a "java/lang/String" "coder" "B" (.int 0) ∧ (∃ t kb, Fld Z h a "java/lang/String" "value" "[B" (.ref t) ∧ Arv Z h t kb .byte (Int32.ofNat cs.length) ((cs.map fun c => c.toInt8.toInt32).map Value.int) (.int 0)) ∧ (∀ c ∈ cs, ¬ c < 0 ∧ ¬ (255 : Int32) < c) ∧ cs.length ≤ 4000
theorem Str.ext (S : Str Z h a cs) (E : Ext h h') : Str Z h' a cs := by
  obtain ⟨h1, h2, ⟨t, kb, h3, h4⟩, h5⟩ := S
  exact ⟨h1.ext E, h2.ext E, ⟨t, kb, h3.ext E, h4.ext E⟩, h5⟩
theorem Str.lt (S : Str Z h a cs) : a < h.size := S.1.lt
theorem up16 (h : ∀ c ∈ cs, ¬ c < 0 ∧ ¬ (255 : Int32) < c) : ∀ c ∈ cs, ¬ c < 0 ∧ ¬ (65535 : Int32) < c := fun c hc => ⟨(h c hc).1, fun q => (h c hc).2 (by rw [Int32.lt_iff_toInt_lt] at q ⊢; have e1 : (65535 : Int32).toInt = 65535 := rfl; have e2 : (255 : Int32).toInt = 255 := rfl; omega)⟩
/-- the two statics that String's methods read -/
def Jdk (Z : State) : Prop := (∃ z, Sta Z Z.heap "java/lang/String" "COMPACT_STRINGS" "Z" (.int z) ∧ ¬ z = 0) ∧ ∃ fm, Sta Z Z.heap "jdk/internal/util/Preconditions" "SIOOBE_FORMATTER" "Ljava/util/function/BiFunction;" fm ∧ fm.isRef = true
theorem ext_keep {x : Addr} (E : Ext h h') (K : Keep h' h2 [x]) (hx : h.size ≤ x) : Ext h h2 := ⟨Nat.le_trans E.1 K.1, fun a c q => K.2.1 a c (E.2 a c q) fun z => by
  cases List.mem_singleton.mp z
  exact absurd (Array.getElem?_eq_some_iff.mp q).1 (Nat.not_lt.mpr hx)⟩
theorem ext_wr {x : Addr} {sl : Nat} {v : Value} (E : Ext h h') (W : Wr h' h2 x sl v) (hx : h.size ≤ x) : Ext h h2 := ext_keep E (Keep.of_wr W) hx
theorem ext_trans (E : Ext h h') (F : Ext h' h2) : Ext h h2 := ⟨Nat.le_trans E.1 F.1, fun a c q => F.2 a c (E.2 a c q)⟩
theorem ext_refl (h : Heap) : Ext h h := ⟨Nat.le_refl _, fun _ _ q => q⟩
/-- new String(char[]) -/
theorem strNew {x b : Addr} {kC : ClassId} {d v0 c0 : Value} {len W : Nat} (hZ : Z.Warmed39 s.vm) (hw : ∀ d ∈ tables_1, d.before a0 Z = true) (G : Jdk Z) (O : Ext Z.heap h) (hx0 : Z.heap.size ≤ x) (E : Exa Z h x "java/lang/String") (V : Fld Z h x "java/lang/String" "value" "[B" v0) (Cd : Fld Z h x "java/lang/String" "coder" "B" c0)
    (K : Arv Z h b kC .char (Int32.ofNat cs.length) (cs.map Value.int) d) (l0 : 0 < cs.length) (l2 : cs.length ≤ 4000) (hp : ∀ c ∈ cs, ¬ c < 0 ∧ ¬ (255 : Int32) < c) (hfr : 4 ≤ R.frames) (hlo : W + 65 ≤ R.locals) :
    Back l R p e below s args (⟨"java/lang/String", "<init>", "([C)V"⟩ : MethodName) len W (PreN R #[.ref x, .ref b] h 1 cs.length) (PostN (fun v h' L => v = none ∧ Keep h h' [x] ∧ Str Z h' x cs ∧ Fr Z.heap.size L) 1 cs.length) := by
  obtain ⟨⟨z, S, hz⟩, -⟩ := G
  refine Back.mono (StrChars.Road.backV (W := W) hZ (fun d hd => hw d ((by decide +kernel : ∀ d ∈ StrChars.Road.words, d ∈ tables_1) d hd)) (kI := 4) (hw _ (by decide +kernel)) (cs := cs) (bs := cs.map (fun c => c.toInt8.toInt32)) (n := cs.length) hx0 O.1 E V Cd K (S.ext O) hz rfl rfl l0 l2 hp rfl hfr hlo) (fun P a q => q) (fun P a v B q r => ?_)
  obtain ⟨L, ⟨q1, q2, q3, q4, q5, t, kb, -, -, -, q6, q7⟩, r1⟩ := r
  exact ⟨L, ⟨q1, q3, ⟨q4, q5, ⟨t, kb, q6, q7⟩, hp, l2⟩, q2⟩, r1⟩
theorem strLen {len W : Nat} (hZ : Z.Warmed39 s.vm) (hw : ∀ d ∈ tables_1, d.before a0 Z = true) (G : Jdk Z) (O : Ext Z.heap h) (S : Str Z h a cs) (hfr : 2 ≤ R.frames) (hlo : W + 25 ≤ R.locals) :
    Back l R p e below s args (⟨"java/lang/String", "length", "()I"⟩ : MethodName) len W (PreN R #[.ref a] h 0 0) (PostN (fun v h' L => v = some (.int (Int32.ofNat cs.length)) ∧ L = [] ∧ h' = h) 0 0) := by
  obtain ⟨⟨z, Sz, hz⟩, -⟩ := G
  obtain ⟨E, Cd, ⟨t, kb, V, K⟩, hp, l2⟩ := S
  exact StrChars.Road.lenW (W := W) hZ (fun d hd => hw d ((by decide +kernel : ∀ d ∈ StrChars.Road.wordsLen, d ∈ tables_1) d hd)) (kI := 4) (hw _ (by decide +kernel)) E V Cd K (StrChars.Road.codOf rfl (fun c hc => (hp c hc).2)) (up16 hp) (Sz.ext O) hz l2 hfr hlo
theorem strAt {len W : Nat} (hZ : Z.Warmed39 s.vm) (hw : ∀ d ∈ tables_1, d.before a0 Z = true) (G : Jdk Z) (O : Ext Z.heap h) (S : Str Z h a cs) {i : Nat} {j : Int32} (hi : i < cs.length) (hj : j = Int32.ofNat i) (hfr : 4 ≤ R.frames) (hlo : W + 53 ≤ R.locals) :
    Back l R p e below s args (⟨"java/lang/String", "charAt", "(I)C"⟩ : MethodName) len W (PreN R #[.ref a, .int j] h 0 0) (PostN (fun v h' L => v = some (.int (cs.getD i 0)) ∧ L = [] ∧ h' = h) 0 0) := by
  obtain ⟨⟨z, Sz, hz⟩, fm, Sf, hf⟩ := G
  obtain ⟨E, Cd, ⟨t, kb, V, K⟩, hp, l2⟩ := S
  exact StrChars.Road.chN (W := W) hZ (fun d hd => hw d ((by decide +kernel : ∀ d ∈ StrChars.Road.wordsChN, d ∈ tables_1) d hd)) (kI := 4) (hw _ (by decide +kernel)) E V Cd K (StrChars.Road.codOf rfl (fun c hc => (hp c hc).2)) (up16 hp) (Sz.ext O) hz (Sf.ext O) hf l2 hi hj hfr hlo
end OwnStr
end Jvm.Pilot.@@N@@
namespace Jvm.Pilot.@@N@@
open Jvm Jvm.ClassFile Sem Op Lib Jvm.Free Jvm.Stand Jvm.LawKit Jvm.RoadKit Bundle Jvm.Pilot.@@N@@.Jvm.D
theorem d2_0 : decode method_3_code 0 = .ok (.bipush 48, 2) := by decide +kernel
theorem d2_2 : decode method_3_code 2 = .ok (.iload_n 0, 1) := by decide +kernel
theorem d2_3 : decode method_3_code 3 = .ok (.iadd, 1) := by decide +kernel
theorem d2_4 : decode method_3_code 4 = .ok (.i2c, 1) := by decide +kernel
theorem d2_5 : decode method_3_code 5 = .ok (.ireturn, 1) := by decide +kernel
def f_d (p0 : Int32) : Int32 := (nar .char (nar .char ((48 : Int32) + p0)))
set_option maxRecDepth 65536 in
set_option maxHeartbeats 40000000 in
theorem rm2 (l : Launch) (Z : State) (a0 : Array Value) (hw : ∀ d ∈ tables_1, d.before a0 Z = true) (p0 : Int32) (h0 : Heap) (Z0 : Ext Z.heap h0) :
    MetN l Z (⟨"com/example/askel/askel/UidParseSectionPinLaw", "d", "(I)C"⟩ : MethodName) method_3_code 1 (some .char) [] ({ frames := 0, cells := 0, slots := 0, locals := 0 } : Room) #[(.int p0)] h0 (fun v h => v = some (.int (f_d p0)) ∧ h = h0) := by
  refine metN (by first | exact plainFor_of_name (by first | (simp [plainName, overriddenIn]; done) | decide +kernel) | decide +kernel) Z0 (Ls := #[.val (.int p0)]) (fun m => by first | (simp [entryFrame, mkF, argsToLocals, Value.category]; done) | rfl) ?_
  intro p e s m below meth c T0 hx hby hml hret hlk hown hnm hZ N0
  refine Ends.go (f' := (mkF m 2 #[.val (.int p0)] [(.int (48 : Int32))])) (fun t k => XS.bipush N0.here hx rfl (hb hby d2_0) k) ?_
  refine Ends.go (f' := (mkF m 3 #[.val (.int p0)] [(.int p0), (.int (48 : Int32))])) (fun t k => XS.iloadN N0.here hx rfl (hb hby d2_2) rfl k) ?_
  refine Ends.go (f' := (mkF m 4 #[.val (.int p0)] [(.int ((48 : Int32) + p0))])) (fun t k => XS.iadd N0.here hx rfl (hb hby d2_3) rfl k) ?_
  refine Ends.go (f' := (mkF m 5 #[.val (.int p0)] [(.int (nar .char ((48 : Int32) + p0)))])) (fun t k => XT.i2c N0.here hx rfl (hb hby d2_4) rfl k) ?_
  exact retZ N0 hx hlk hret (by simp) (hb hby d2_5) ⟨rfl, rfl⟩ (nle rfl) (nle rfl)
theorem d13_0 : decode jdk_29_method_69_code 0 = .ok (.iload_n 0, 1) := by decide +kernel
theorem d13_1 : decode jdk_29_method_69_code 1 = .ok (.iload_n 1, 1) := by decide +kernel
theorem d13_2 : decode jdk_29_method_69_code 2 = .ok (.if_icmp .gt 7, 3) := by decide +kernel
theorem d13_5 : decode jdk_29_method_69_code 5 = .ok (.iload_n 0, 1) := by decide +kernel
theorem d13_6 : decode jdk_29_method_69_code 6 = .ok (.goto 4, 3) := by decide +kernel
theorem d13_9 : decode jdk_29_method_69_code 9 = .ok (.iload_n 1, 1) := by decide +kernel
theorem d13_10 : decode jdk_29_method_69_code 10 = .ok (.ireturn, 1) := by decide +kernel
def f_min (p0 : Int32) (p1 : Int32) : Int32 := (if p1 < p0 then p1 else p0)
set_option maxRecDepth 65536 in
set_option maxHeartbeats 40000000 in
theorem rm13 (l : Launch) (Z : State) (a0 : Array Value) (hw : ∀ d ∈ tables_1, d.before a0 Z = true) (p0 : Int32) (p1 : Int32) (h0 : Heap) (Z0 : Ext Z.heap h0) :
    MetN l Z (⟨"java/lang/Math", "min", "(II)I"⟩ : MethodName) jdk_29_method_69_code 2 (some .int) [] ({ frames := 0, cells := 0, slots := 0, locals := 0 } : Room) #[(.int p0), (.int p1)] h0 (fun v h => v = some (.int (f_min p0 p1)) ∧ h = h0) := by
  refine metN (by first | exact plainFor_of_name (by first | (simp [plainName, overriddenIn]; done) | decide +kernel) | decide +kernel) Z0 (Ls := #[.val (.int p0), .val (.int p1)]) (fun m => by first | (simp [entryFrame, mkF, argsToLocals, Value.category]; done) | rfl) ?_
  intro p e s m below meth c T0 hx hby hml hret hlk hown hnm hZ N0
  refine Ends.go (f' := (mkF m 1 #[.val (.int p0), .val (.int p1)] [(.int p0)])) (fun t k => XS.iloadN N0.here hx rfl (hb hby d13_0) rfl k) ?_
  refine Ends.go (f' := (mkF m 2 #[.val (.int p0), .val (.int p1)] [(.int p1), (.int p0)])) (fun t k => XS.iloadN N0.here hx rfl (hb hby d13_1) rfl k) ?_
  by_cases c1 : p1 < p0
  · refine Ends.go (f' := (mkF m 9 #[.val (.int p0), .val (.int p1)] [])) (fun t k => XS.icmpYes N0.here hx rfl (pc0 := 2) (pc' := 9) rfl (hb hby d13_2) rfl (XT.ii_gt_t c1) (by decide) (by decide) k) ?_
    refine Ends.go (f' := (mkF m 10 #[.val (.int p0), .val (.int p1)] [(.int p1)])) (fun t k => XS.iloadN N0.here hx rfl (hb hby d13_9) rfl k) ?_
    exact retI N0 hx hlk hret (hb hby d13_10) ⟨by simp only [f_min, if_pos c1], rfl⟩ (nle rfl) (nle rfl)
  · refine Ends.go (f' := (mkF m 5 #[.val (.int p0), .val (.int p1)] [])) (fun t k => XS.icmpNo N0.here hx rfl (hb hby d13_2) rfl (XT.ii_gt_f c1) k) ?_
    refine Ends.go (f' := (mkF m 6 #[.val (.int p0), .val (.int p1)] [(.int p0)])) (fun t k => XS.iloadN N0.here hx rfl (hb hby d13_5) rfl k) ?_
    refine Ends.go (f' := (mkF m 10 #[.val (.int p0), .val (.int p1)] [(.int p0)])) (fun t k => XS.goto N0.here hx rfl (pc0 := 6) (pc' := 10) rfl (hb hby d13_6) (by decide) (by decide) k) ?_
    exact retI N0 hx hlk hret (hb hby d13_10) ⟨by simp only [f_min, if_neg c1], rfl⟩ (nle rfl) (nle rfl)
theorem nar_nar (x : Int32) : nar .char (nar .char x) = nar .char x := by simp only [nar, UInt32.toUInt32_toInt32, UInt16.toUInt16_toUInt32]
theorem nar_fd (x : Int32) : nar .char (f_d x) = f_d x := by simp only [f_d, nar_nar]
theorem fd_val {v : Int32} (h0 : 0 ≤ v.toInt) (h9 : v.toInt ≤ 9) : (f_d v).toInt = 48 + v.toInt := by
  have e : f_d v = nar .char ((48 : Int32) + v) := by simp only [f_d, nar_nar]
  have q := c_i2c ((48 : Int32) + v)
  have r := c_iadd (48 : Int32) v
  have r1 := rng32 ((48 : Int32) + v)
  have e48 : (48 : Int32).toInt = 48 := rfl
  have e2 : (nar .char ((48 : Int32) + v)).toInt = ((48 : Int32) + v).toUInt32.toUInt16.toUInt32.toInt32.toInt := rfl
  rw [e, e2]; omega
theorem fd_ok {v : Int32} (h : 0 ≤ v.toInt ∧ v.toInt ≤ 9) : ¬ f_d v < 0 ∧ ¬ (255 : Int32) < f_d v := by
  have q := fd_val h.1 h.2
  rw [Int32.lt_iff_toInt_lt, Int32.lt_iff_toInt_lt]
  have e0 : (0 : Int32).toInt = 0 := rfl
  have e2 : (255 : Int32).toInt = 255 := rfl
  omega
theorem dg0 {n : Int32} (hn : 0 ≤ n.toInt) : 0 ≤ (n % 10).toInt ∧ (n % 10).toInt ≤ 9 := by
  have q := (c_irem n 10 10 rfl).1 hn; omega
theorem dgk {n k : Int32} {d : Int} (hk : k.toInt = d) (h1 : k ≠ -1) (hd : 0 < d) (hn : 0 ≤ n.toInt) : 0 ≤ (n / k % 10).toInt ∧ (n / k % 10).toInt ≤ 9 := by
  have q := (c_idiv n k d hk h1).1 hn
  have r : 0 ≤ n.toInt / d := Int.ediv_nonneg hn (by omega)
  exact dg0 (by omega)
theorem hp_nil : ∀ c ∈ ([] : List Int32), ¬ c < 0 ∧ ¬ (255 : Int32) < c := fun _ q => nomatch q
theorem hp_cons {c : Int32} {cs : List Int32} (h : ¬ c < 0 ∧ ¬ (255 : Int32) < c) (r : ∀ c ∈ cs, ¬ c < 0 ∧ ¬ (255 : Int32) < c) : ∀ c' ∈ c :: cs, ¬ c' < 0 ∧ ¬ (255 : Int32) < c' := fun c' q => (List.mem_cons.mp q).elim (fun e => e ▸ h) (r c')
def spellCs (n len : Int32) : List Int32 := if len = 1 then [f_d (n % 10)] else if len = 2 then [f_d (n / 10 % 10), f_d (n % 10)] else if len = 3 then [f_d (n / 100 % 10), f_d (n / 10 % 10), f_d (n % 10)] else if len = 4 then [f_d (n / 1000 % 10), f_d (n / 100 % 10), f_d (n / 10 % 10), f_d (n % 10)] else [f_d (n / 10000 % 10), f_d (n / 1000 % 10), f_d (n / 100 % 10), f_d (n / 10 % 10), f_d (n % 10)]
theorem d1_0 : decode method_4_code 0 = .ok (.iload_n 0, 1) := by decide +kernel
theorem d1_1 : decode method_4_code 1 = .ok (.bipush 10, 2) := by decide +kernel
theorem d1_3 : decode method_4_code 3 = .ok (.irem, 1) := by decide +kernel
theorem d1_4 : decode method_4_code 4 = .ok (.istore_n 2, 1) := by decide +kernel
theorem d1_5 : decode method_4_code 5 = .ok (.iload_n 0, 1) := by decide +kernel
theorem d1_6 : decode method_4_code 6 = .ok (.bipush 10, 2) := by decide +kernel
theorem d1_8 : decode method_4_code 8 = .ok (.idiv, 1) := by decide +kernel
theorem d1_9 : decode method_4_code 9 = .ok (.bipush 10, 2) := by decide +kernel
theorem d1_11 : decode method_4_code 11 = .ok (.irem, 1) := by decide +kernel
theorem d1_12 : decode method_4_code 12 = .ok (.istore_n 3, 1) := by decide +kernel
theorem d1_13 : decode method_4_code 13 = .ok (.iload_n 0, 1) := by decide +kernel
theorem d1_14 : decode method_4_code 14 = .ok (.bipush 100, 2) := by decide +kernel
theorem d1_16 : decode method_4_code 16 = .ok (.idiv, 1) := by decide +kernel
theorem d1_17 : decode method_4_code 17 = .ok (.bipush 10, 2) := by decide +kernel
theorem d1_19 : decode method_4_code 19 = .ok (.irem, 1) := by decide +kernel
theorem d1_20 : decode method_4_code 20 = .ok (.istore 4, 2) := by decide +kernel
theorem d1_22 : decode method_4_code 22 = .ok (.iload_n 0, 1) := by decide +kernel
theorem d1_23 : decode method_4_code 23 = .ok (.sipush 1000, 3) := by decide +kernel
theorem d1_26 : decode method_4_code 26 = .ok (.idiv, 1) := by decide +kernel
theorem d1_27 : decode method_4_code 27 = .ok (.bipush 10, 2) := by decide +kernel
theorem d1_29 : decode method_4_code 29 = .ok (.irem, 1) := by decide +kernel
theorem d1_30 : decode method_4_code 30 = .ok (.istore 5, 2) := by decide +kernel
theorem d1_32 : decode method_4_code 32 = .ok (.iload_n 0, 1) := by decide +kernel
theorem d1_33 : decode method_4_code 33 = .ok (.sipush 10000, 3) := by decide +kernel
theorem d1_36 : decode method_4_code 36 = .ok (.idiv, 1) := by decide +kernel
theorem d1_37 : decode method_4_code 37 = .ok (.bipush 10, 2) := by decide +kernel
theorem d1_39 : decode method_4_code 39 = .ok (.irem, 1) := by decide +kernel
theorem d1_40 : decode method_4_code 40 = .ok (.istore 6, 2) := by decide +kernel
theorem d1_42 : decode method_4_code 42 = .ok (.iload_n 1, 1) := by decide +kernel
theorem d1_43 : decode method_4_code 43 = .ok (.iconst 1, 1) := by decide +kernel
theorem d1_44 : decode method_4_code 44 = .ok (.if_icmp .ne 21, 3) := by decide +kernel
theorem d1_47 : decode method_4_code 47 = .ok (.new 21, 3) := by decide +kernel
theorem d1_50 : decode method_4_code 50 = .ok (.dup, 1) := by decide +kernel
theorem d1_51 : decode method_4_code 51 = .ok (.iconst 1, 1) := by decide +kernel
theorem d1_52 : decode method_4_code 52 = .ok (.newarray .char, 2) := by decide +kernel
theorem d1_54 : decode method_4_code 54 = .ok (.dup, 1) := by decide +kernel
theorem d1_55 : decode method_4_code 55 = .ok (.iconst 0, 1) := by decide +kernel
theorem d1_56 : decode method_4_code 56 = .ok (.iload_n 2, 1) := by decide +kernel
theorem d1_57 : decode method_4_code 57 = .ok (.invokestatic 23, 3) := by decide +kernel
theorem d1_60 : decode method_4_code 60 = .ok (.castore, 1) := by decide +kernel
theorem d1_61 : decode method_4_code 61 = .ok (.invokespecial 27, 3) := by decide +kernel
theorem d1_64 : decode method_4_code 64 = .ok (.areturn, 1) := by decide +kernel
theorem d1_65 : decode method_4_code 65 = .ok (.iload_n 1, 1) := by decide +kernel
theorem d1_66 : decode method_4_code 66 = .ok (.iconst 2, 1) := by decide +kernel
theorem d1_67 : decode method_4_code 67 = .ok (.if_icmp .ne 28, 3) := by decide +kernel
theorem d1_70 : decode method_4_code 70 = .ok (.new 21, 3) := by decide +kernel
theorem d1_73 : decode method_4_code 73 = .ok (.dup, 1) := by decide +kernel
theorem d1_74 : decode method_4_code 74 = .ok (.iconst 2, 1) := by decide +kernel
theorem d1_75 : decode method_4_code 75 = .ok (.newarray .char, 2) := by decide +kernel
theorem d1_77 : decode method_4_code 77 = .ok (.dup, 1) := by decide +kernel
theorem d1_78 : decode method_4_code 78 = .ok (.iconst 0, 1) := by decide +kernel
theorem d1_79 : decode method_4_code 79 = .ok (.iload_n 3, 1) := by decide +kernel
theorem d1_80 : decode method_4_code 80 = .ok (.invokestatic 23, 3) := by decide +kernel
theorem d1_83 : decode method_4_code 83 = .ok (.castore, 1) := by decide +kernel
theorem d1_84 : decode method_4_code 84 = .ok (.dup, 1) := by decide +kernel
theorem d1_85 : decode method_4_code 85 = .ok (.iconst 1, 1) := by decide +kernel
theorem d1_86 : decode method_4_code 86 = .ok (.iload_n 2, 1) := by decide +kernel
theorem d1_87 : decode method_4_code 87 = .ok (.invokestatic 23, 3) := by decide +kernel
theorem d1_90 : decode method_4_code 90 = .ok (.castore, 1) := by decide +kernel
theorem d1_91 : decode method_4_code 91 = .ok (.invokespecial 27, 3) := by decide +kernel
theorem d1_94 : decode method_4_code 94 = .ok (.areturn, 1) := by decide +kernel
theorem d1_95 : decode method_4_code 95 = .ok (.iload_n 1, 1) := by decide +kernel
theorem d1_96 : decode method_4_code 96 = .ok (.iconst 3, 1) := by decide +kernel
theorem d1_97 : decode method_4_code 97 = .ok (.if_icmp .ne 36, 3) := by decide +kernel
theorem d1_100 : decode method_4_code 100 = .ok (.new 21, 3) := by decide +kernel
theorem d1_103 : decode method_4_code 103 = .ok (.dup, 1) := by decide +kernel
theorem d1_104 : decode method_4_code 104 = .ok (.iconst 3, 1) := by decide +kernel
theorem d1_105 : decode method_4_code 105 = .ok (.newarray .char, 2) := by decide +kernel
theorem d1_107 : decode method_4_code 107 = .ok (.dup, 1) := by decide +kernel
theorem d1_108 : decode method_4_code 108 = .ok (.iconst 0, 1) := by decide +kernel
theorem d1_109 : decode method_4_code 109 = .ok (.iload 4, 2) := by decide +kernel
theorem d1_111 : decode method_4_code 111 = .ok (.invokestatic 23, 3) := by decide +kernel
theorem d1_114 : decode method_4_code 114 = .ok (.castore, 1) := by decide +kernel
theorem d1_115 : decode method_4_code 115 = .ok (.dup, 1) := by decide +kernel
theorem d1_116 : decode method_4_code 116 = .ok (.iconst 1, 1) := by decide +kernel
theorem d1_117 : decode method_4_code 117 = .ok (.iload_n 3, 1) := by decide +kernel
theorem d1_118 : decode method_4_code 118 = .ok (.invokestatic 23, 3) := by decide +kernel
theorem d1_121 : decode method_4_code 121 = .ok (.castore, 1) := by decide +kernel
theorem d1_122 : decode method_4_code 122 = .ok (.dup, 1) := by decide +kernel
theorem d1_123 : decode method_4_code 123 = .ok (.iconst 2, 1) := by decide +kernel
theorem d1_124 : decode method_4_code 124 = .ok (.iload_n 2, 1) := by decide +kernel
theorem d1_125 : decode method_4_code 125 = .ok (.invokestatic 23, 3) := by decide +kernel
theorem d1_128 : decode method_4_code 128 = .ok (.castore, 1) := by decide +kernel
theorem d1_129 : decode method_4_code 129 = .ok (.invokespecial 27, 3) := by decide +kernel
theorem d1_132 : decode method_4_code 132 = .ok (.areturn, 1) := by decide +kernel
theorem d1_133 : decode method_4_code 133 = .ok (.iload_n 1, 1) := by decide +kernel
theorem d1_134 : decode method_4_code 134 = .ok (.iconst 4, 1) := by decide +kernel
theorem d1_135 : decode method_4_code 135 = .ok (.if_icmp .ne 44, 3) := by decide +kernel
theorem d1_138 : decode method_4_code 138 = .ok (.new 21, 3) := by decide +kernel
theorem d1_141 : decode method_4_code 141 = .ok (.dup, 1) := by decide +kernel
theorem d1_142 : decode method_4_code 142 = .ok (.iconst 4, 1) := by decide +kernel
theorem d1_143 : decode method_4_code 143 = .ok (.newarray .char, 2) := by decide +kernel
theorem d1_145 : decode method_4_code 145 = .ok (.dup, 1) := by decide +kernel
theorem d1_146 : decode method_4_code 146 = .ok (.iconst 0, 1) := by decide +kernel
theorem d1_147 : decode method_4_code 147 = .ok (.iload 5, 2) := by decide +kernel
theorem d1_149 : decode method_4_code 149 = .ok (.invokestatic 23, 3) := by decide +kernel
theorem d1_152 : decode method_4_code 152 = .ok (.castore, 1) := by decide +kernel
theorem d1_153 : decode method_4_code 153 = .ok (.dup, 1) := by decide +kernel
theorem d1_154 : decode method_4_code 154 = .ok (.iconst 1, 1) := by decide +kernel
theorem d1_155 : decode method_4_code 155 = .ok (.iload 4, 2) := by decide +kernel
theorem d1_157 : decode method_4_code 157 = .ok (.invokestatic 23, 3) := by decide +kernel
theorem d1_160 : decode method_4_code 160 = .ok (.castore, 1) := by decide +kernel
theorem d1_161 : decode method_4_code 161 = .ok (.dup, 1) := by decide +kernel
theorem d1_162 : decode method_4_code 162 = .ok (.iconst 2, 1) := by decide +kernel
theorem d1_163 : decode method_4_code 163 = .ok (.iload_n 3, 1) := by decide +kernel
theorem d1_164 : decode method_4_code 164 = .ok (.invokestatic 23, 3) := by decide +kernel
theorem d1_167 : decode method_4_code 167 = .ok (.castore, 1) := by decide +kernel
theorem d1_168 : decode method_4_code 168 = .ok (.dup, 1) := by decide +kernel
theorem d1_169 : decode method_4_code 169 = .ok (.iconst 3, 1) := by decide +kernel
theorem d1_170 : decode method_4_code 170 = .ok (.iload_n 2, 1) := by decide +kernel
theorem d1_171 : decode method_4_code 171 = .ok (.invokestatic 23, 3) := by decide +kernel
theorem d1_174 : decode method_4_code 174 = .ok (.castore, 1) := by decide +kernel
theorem d1_175 : decode method_4_code 175 = .ok (.invokespecial 27, 3) := by decide +kernel
theorem d1_178 : decode method_4_code 178 = .ok (.areturn, 1) := by decide +kernel
theorem d1_179 : decode method_4_code 179 = .ok (.new 21, 3) := by decide +kernel
theorem d1_182 : decode method_4_code 182 = .ok (.dup, 1) := by decide +kernel
theorem d1_183 : decode method_4_code 183 = .ok (.iconst 5, 1) := by decide +kernel
theorem d1_184 : decode method_4_code 184 = .ok (.newarray .char, 2) := by decide +kernel
theorem d1_186 : decode method_4_code 186 = .ok (.dup, 1) := by decide +kernel
theorem d1_187 : decode method_4_code 187 = .ok (.iconst 0, 1) := by decide +kernel
theorem d1_188 : decode method_4_code 188 = .ok (.iload 6, 2) := by decide +kernel
theorem d1_190 : decode method_4_code 190 = .ok (.invokestatic 23, 3) := by decide +kernel
theorem d1_193 : decode method_4_code 193 = .ok (.castore, 1) := by decide +kernel
theorem d1_194 : decode method_4_code 194 = .ok (.dup, 1) := by decide +kernel
theorem d1_195 : decode method_4_code 195 = .ok (.iconst 1, 1) := by decide +kernel
theorem d1_196 : decode method_4_code 196 = .ok (.iload 5, 2) := by decide +kernel
theorem d1_198 : decode method_4_code 198 = .ok (.invokestatic 23, 3) := by decide +kernel
theorem d1_201 : decode method_4_code 201 = .ok (.castore, 1) := by decide +kernel
theorem d1_202 : decode method_4_code 202 = .ok (.dup, 1) := by decide +kernel
theorem d1_203 : decode method_4_code 203 = .ok (.iconst 2, 1) := by decide +kernel
theorem d1_204 : decode method_4_code 204 = .ok (.iload 4, 2) := by decide +kernel
theorem d1_206 : decode method_4_code 206 = .ok (.invokestatic 23, 3) := by decide +kernel
theorem d1_209 : decode method_4_code 209 = .ok (.castore, 1) := by decide +kernel
theorem d1_210 : decode method_4_code 210 = .ok (.dup, 1) := by decide +kernel
theorem d1_211 : decode method_4_code 211 = .ok (.iconst 3, 1) := by decide +kernel
theorem d1_212 : decode method_4_code 212 = .ok (.iload_n 3, 1) := by decide +kernel
theorem d1_213 : decode method_4_code 213 = .ok (.invokestatic 23, 3) := by decide +kernel
theorem d1_216 : decode method_4_code 216 = .ok (.castore, 1) := by decide +kernel
theorem d1_217 : decode method_4_code 217 = .ok (.dup, 1) := by decide +kernel
theorem d1_218 : decode method_4_code 218 = .ok (.iconst 4, 1) := by decide +kernel
theorem d1_219 : decode method_4_code 219 = .ok (.iload_n 2, 1) := by decide +kernel
theorem d1_220 : decode method_4_code 220 = .ok (.invokestatic 23, 3) := by decide +kernel
theorem d1_223 : decode method_4_code 223 = .ok (.castore, 1) := by decide +kernel
theorem d1_224 : decode method_4_code 224 = .ok (.invokespecial 27, 3) := by decide +kernel
theorem d1_227 : decode method_4_code 227 = .ok (.areturn, 1) := by decide +kernel
set_option maxRecDepth 65536 in
set_option maxHeartbeats 40000000 in
theorem rm1 (l : Launch) (Z : State) (a0 : Array Value) (hw : ∀ d ∈ tables_1, d.before a0 Z = true) (p0 p1 : Int32) (h0 : Heap) (Z0 : Ext Z.heap h0) (G : Jdk Z) (hn : 0 ≤ p0.toInt) :
    MetN l Z (⟨"com/example/askel/askel/UidParseSectionPinLaw", "spell", "(II)Ljava/lang/String;"⟩ : MethodName) method_4_code 7 (some (.object "java/lang/String")) [] ({ frames := 4, cells := 3, slots := 14, locals := 66 } : Room) #[(.int p0), (.int p1)] h0 (fun v h => ∃ a, v = some (.ref a) ∧ Ext h0 h ∧ Str Z h a (spellCs p0 p1)) := by
  refine metN (by first | exact plainFor_of_name (by first | (simp [plainName, overriddenIn]; done) | decide +kernel) | decide +kernel) Z0 (Ls := #[.val (.int p0), .val (.int p1), .unset, .unset, .unset, .unset, .unset]) (fun m => by first | (simp [entryFrame, mkF, argsToLocals, Value.category]; done) | rfl) ?_
  intro p e s m below meth c T0 hx hby hml hret hlk hown hnm hZ N0
  refine Ends.go (f' := (mkF m 1 #[.val (.int p0), .val (.int p1), .unset, .unset, .unset, .unset, .unset] [(.int p0)])) (fun t k => XS.iloadN N0.here hx rfl (hb hby d1_0) rfl k) ?_
  refine Ends.go (f' := (mkF m 3 #[.val (.int p0), .val (.int p1), .unset, .unset, .unset, .unset, .unset] [(.int (10 : Int32)), (.int p0)])) (fun t k => XS.bipush N0.here hx rfl (hb hby d1_1) k) ?_
  refine Ends.go (f' := (mkF m 4 #[.val (.int p0), .val (.int p1), .unset, .unset, .unset, .unset, .unset] [(.int (p0 % (10 : Int32)))])) (fun t k => gIrem N0 hx (hb hby d1_3) (by decide) k) ?_
  refine Ends.go (f' := (mkF m 5 #[.val (.int p0), .val (.int p1), .val (.int (p0 % (10 : Int32))), .unset, .unset, .unset, .unset] [])) (fun t k => XS.istoreN N0.here hx rfl (hb hby d1_4) rfl (l' := #[.val (.int p0), .val (.int p1), .val (.int (p0 % (10 : Int32))), .unset, .unset, .unset, .unset]) rfl k) ?_
  refine Ends.go (f' := (mkF m 6 #[.val (.int p0), .val (.int p1), .val (.int (p0 % (10 : Int32))), .unset, .unset, .unset, .unset] [(.int p0)])) (fun t k => XS.iloadN N0.here hx rfl (hb hby d1_5) rfl k) ?_
  refine Ends.go (f' := (mkF m 8 #[.val (.int p0), .val (.int p1), .val (.int (p0 % (10 : Int32))), .unset, .unset, .unset, .unset] [(.int (10 : Int32)), (.int p0)])) (fun t k => XS.bipush N0.here hx rfl (hb hby d1_6) k) ?_
  refine Ends.go (f' := (mkF m 9 #[.val (.int p0), .val (.int p1), .val (.int (p0 % (10 : Int32))), .unset, .unset, .unset, .unset] [(.int (p0 / (10 : Int32)))])) (fun t k => XS.idiv N0.here hx rfl (hb hby d1_8) rfl (by decide) k) ?_
  refine Ends.go (f' := (mkF m 11 #[.val (.int p0), .val (.int p1), .val (.int (p0 % (10 : Int32))), .unset, .unset, .unset, .unset] [(.int (10 : Int32)), (.int (p0 / (10 : Int32)))])) (fun t k => XS.bipush N0.here hx rfl (hb hby d1_9) k) ?_
  refine Ends.go (f' := (mkF m 12 #[.val (.int p0), .val (.int p1), .val (.int (p0 % (10 : Int32))), .unset, .unset, .unset, .unset] [(.int ((p0 / (10 : Int32)) % (10 : Int32)))])) (fun t k => gIrem N0 hx (hb hby d1_11) (by decide) k) ?_
  refine Ends.go (f' := (mkF m 13 #[.val (.int p0), .val (.int p1), .val (.int (p0 % (10 : Int32))), .val (.int ((p0 / (10 : Int32)) % (10 : Int32))), .unset, .unset, .unset] [])) (fun t k => XS.istoreN N0.here hx rfl (hb hby d1_12) rfl (l' := #[.val (.int p0), .val (.int p1), .val (.int (p0 % (10 : Int32))), .val (.int ((p0 / (10 : Int32)) % (10 : Int32))), .unset, .unset, .unset]) rfl k) ?_
  refine Ends.go (f' := (mkF m 14 #[.val (.int p0), .val (.int p1), .val (.int (p0 % (10 : Int32))), .val (.int ((p0 / (10 : Int32)) % (10 : Int32))), .unset, .unset, .unset] [(.int p0)])) (fun t k => XS.iloadN N0.here hx rfl (hb hby d1_13) rfl k) ?_
  refine Ends.go (f' := (mkF m 16 #[.val (.int p0), .val (.int p1), .val (.int (p0 % (10 : Int32))), .val (.int ((p0 / (10 : Int32)) % (10 : Int32))), .unset, .unset, .unset] [(.int (100 : Int32)), (.int p0)])) (fun t k => XS.bipush N0.here hx rfl (hb hby d1_14) k) ?_
  refine Ends.go (f' := (mkF m 17 #[.val (.int p0), .val (.int p1), .val (.int (p0 % (10 : Int32))), .val (.int ((p0 / (10 : Int32)) % (10 : Int32))), .unset, .unset, .unset] [(.int (p0 / (100 : Int32)))])) (fun t k => XS.idiv N0.here hx rfl (hb hby d1_16) rfl (by decide) k) ?_
  refine Ends.go (f' := (mkF m 19 #[.val (.int p0), .val (.int p1), .val (.int (p0 % (10 : Int32))), .val (.int ((p0 / (10 : Int32)) % (10 : Int32))), .unset, .unset, .unset] [(.int (10 : Int32)), (.int (p0 / (100 : Int32)))])) (fun t k => XS.bipush N0.here hx rfl (hb hby d1_17) k) ?_
  refine Ends.go (f' := (mkF m 20 #[.val (.int p0), .val (.int p1), .val (.int (p0 % (10 : Int32))), .val (.int ((p0 / (10 : Int32)) % (10 : Int32))), .unset, .unset, .unset] [(.int ((p0 / (100 : Int32)) % (10 : Int32)))])) (fun t k => gIrem N0 hx (hb hby d1_19) (by decide) k) ?_
  refine Ends.go (f' := (mkF m 22 #[.val (.int p0), .val (.int p1), .val (.int (p0 % (10 : Int32))), .val (.int ((p0 / (10 : Int32)) % (10 : Int32))), .val (.int ((p0 / (100 : Int32)) % (10 : Int32))), .unset, .unset] [])) (fun t k => XS.istore N0.here hx rfl (hb hby d1_20) rfl (l' := #[.val (.int p0), .val (.int p1), .val (.int (p0 % (10 : Int32))), .val (.int ((p0 / (10 : Int32)) % (10 : Int32))), .val (.int ((p0 / (100 : Int32)) % (10 : Int32))), .unset, .unset]) rfl k) ?_
  refine Ends.go (f' := (mkF m 23 #[.val (.int p0), .val (.int p1), .val (.int (p0 % (10 : Int32))), .val (.int ((p0 / (10 : Int32)) % (10 : Int32))), .val (.int ((p0 / (100 : Int32)) % (10 : Int32))), .unset, .unset] [(.int p0)])) (fun t k => XS.iloadN N0.here hx rfl (hb hby d1_22) rfl k) ?_
  refine Ends.go (f' := (mkF m 26 #[.val (.int p0), .val (.int p1), .val (.int (p0 % (10 : Int32))), .val (.int ((p0 / (10 : Int32)) % (10 : Int32))), .val (.int ((p0 / (100 : Int32)) % (10 : Int32))), .unset, .unset] [(.int (1000 : Int32)), (.int p0)])) (fun t k => XS.sipush N0.here hx rfl (hb hby d1_23) k) ?_
  refine Ends.go (f' := (mkF m 27 #[.val (.int p0), .val (.int p1), .val (.int (p0 % (10 : Int32))), .val (.int ((p0 / (10 : Int32)) % (10 : Int32))), .val (.int ((p0 / (100 : Int32)) % (10 : Int32))), .unset, .unset] [(.int (p0 / (1000 : Int32)))])) (fun t k => XS.idiv N0.here hx rfl (hb hby d1_26) rfl (by decide) k) ?_
  refine Ends.go (f' := (mkF m 29 #[.val (.int p0), .val (.int p1), .val (.int (p0 % (10 : Int32))), .val (.int ((p0 / (10 : Int32)) % (10 : Int32))), .val (.int ((p0 / (100 : Int32)) % (10 : Int32))), .unset, .unset] [(.int (10 : Int32)), (.int (p0 / (1000 : Int32)))])) (fun t k => XS.bipush N0.here hx rfl (hb hby d1_27) k) ?_
  refine Ends.go (f' := (mkF m 30 #[.val (.int p0), .val (.int p1), .val (.int (p0 % (10 : Int32))), .val (.int ((p0 / (10 : Int32)) % (10 : Int32))), .val (.int ((p0 / (100 : Int32)) % (10 : Int32))), .unset, .unset] [(.int ((p0 / (1000 : Int32)) % (10 : Int32)))])) (fun t k => gIrem N0 hx (hb hby d1_29) (by decide) k) ?_
  refine Ends.go (f' := (mkF m 32 #[.val (.int p0), .val (.int p1), .val (.int (p0 % (10 : Int32))), .val (.int ((p0 / (10 : Int32)) % (10 : Int32))), .val (.int ((p0 / (100 : Int32)) % (10 : Int32))), .val (.int ((p0 / (1000 : Int32)) % (10 : Int32))), .unset] [])) (fun t k => XS.istore N0.here hx rfl (hb hby d1_30) rfl (l' := #[.val (.int p0), .val (.int p1), .val (.int (p0 % (10 : Int32))), .val (.int ((p0 / (10 : Int32)) % (10 : Int32))), .val (.int ((p0 / (100 : Int32)) % (10 : Int32))), .val (.int ((p0 / (1000 : Int32)) % (10 : Int32))), .unset]) rfl k) ?_
  refine Ends.go (f' := (mkF m 33 #[.val (.int p0), .val (.int p1), .val (.int (p0 % (10 : Int32))), .val (.int ((p0 / (10 : Int32)) % (10 : Int32))), .val (.int ((p0 / (100 : Int32)) % (10 : Int32))), .val (.int ((p0 / (1000 : Int32)) % (10 : Int32))), .unset] [(.int p0)])) (fun t k => XS.iloadN N0.here hx rfl (hb hby d1_32) rfl k) ?_
  refine Ends.go (f' := (mkF m 36 #[.val (.int p0), .val (.int p1), .val (.int (p0 % (10 : Int32))), .val (.int ((p0 / (10 : Int32)) % (10 : Int32))), .val (.int ((p0 / (100 : Int32)) % (10 : Int32))), .val (.int ((p0 / (1000 : Int32)) % (10 : Int32))), .unset] [(.int (10000 : Int32)), (.int p0)])) (fun t k => XS.sipush N0.here hx rfl (hb hby d1_33) k) ?_
  refine Ends.go (f' := (mkF m 37 #[.val (.int p0), .val (.int p1), .val (.int (p0 % (10 : Int32))), .val (.int ((p0 / (10 : Int32)) % (10 : Int32))), .val (.int ((p0 / (100 : Int32)) % (10 : Int32))), .val (.int ((p0 / (1000 : Int32)) % (10 : Int32))), .unset] [(.int (p0 / (10000 : Int32)))])) (fun t k => XS.idiv N0.here hx rfl (hb hby d1_36) rfl (by decide) k) ?_
  refine Ends.go (f' := (mkF m 39 #[.val (.int p0), .val (.int p1), .val (.int (p0 % (10 : Int32))), .val (.int ((p0 / (10 : Int32)) % (10 : Int32))), .val (.int ((p0 / (100 : Int32)) % (10 : Int32))), .val (.int ((p0 / (1000 : Int32)) % (10 : Int32))), .unset] [(.int (10 : Int32)), (.int (p0 / (10000 : Int32)))])) (fun t k => XS.bipush N0.here hx rfl (hb hby d1_37) k) ?_
  refine Ends.go (f' := (mkF m 40 #[.val (.int p0), .val (.int p1), .val (.int (p0 % (10 : Int32))), .val (.int ((p0 / (10 : Int32)) % (10 : Int32))), .val (.int ((p0 / (100 : Int32)) % (10 : Int32))), .val (.int ((p0 / (1000 : Int32)) % (10 : Int32))), .unset] [(.int ((p0 / (10000 : Int32)) % (10 : Int32)))])) (fun t k => gIrem N0 hx (hb hby d1_39) (by decide) k) ?_
  refine Ends.go (f' := (mkF m 42 #[.val (.int p0), .val (.int p1), .val (.int (p0 % (10 : Int32))), .val (.int ((p0 / (10 : Int32)) % (10 : Int32))), .val (.int ((p0 / (100 : Int32)) % (10 : Int32))), .val (.int ((p0 / (1000 : Int32)) % (10 : Int32))), .val (.int ((p0 / (10000 : Int32)) % (10 : Int32)))] [])) (fun t k => XS.istore N0.here hx rfl (hb hby d1_40) rfl (l' := #[.val (.int p0), .val (.int p1), .val (.int (p0 % (10 : Int32))), .val (.int ((p0 / (10 : Int32)) % (10 : Int32))), .val (.int ((p0 / (100 : Int32)) % (10 : Int32))), .val (.int ((p0 / (1000 : Int32)) % (10 : Int32))), .val (.int ((p0 / (10000 : Int32)) % (10 : Int32)))]) rfl k) ?_
  refine Ends.go (f' := (mkF m 43 #[.val (.int p0), .val (.int p1), .val (.int (p0 % (10 : Int32))), .val (.int ((p0 / (10 : Int32)) % (10 : Int32))), .val (.int ((p0 / (100 : Int32)) % (10 : Int32))), .val (.int ((p0 / (1000 : Int32)) % (10 : Int32))), .val (.int ((p0 / (10000 : Int32)) % (10 : Int32)))] [(.int p1)])) (fun t k => XS.iloadN N0.here hx rfl (hb hby d1_42) rfl k) ?_
  refine Ends.go (f' := (mkF m 44 #[.val (.int p0), .val (.int p1), .val (.int (p0 % (10 : Int32))), .val (.int ((p0 / (10 : Int32)) % (10 : Int32))), .val (.int ((p0 / (100 : Int32)) % (10 : Int32))), .val (.int ((p0 / (1000 : Int32)) % (10 : Int32))), .val (.int ((p0 / (10000 : Int32)) % (10 : Int32)))] [(.int (1 : Int32)), (.int p1)])) (fun t k => XS.iconst N0.here hx rfl (hb hby d1_43) k) ?_
  by_cases c1 : p1 = (1 : Int32)
  · refine Ends.go (f' := (mkF m 47 #[.val (.int p0), .val (.int p1), .val (.int (p0 % (10 : Int32))), .val (.int ((p0 / (10 : Int32)) % (10 : Int32))), .val (.int ((p0 / (100 : Int32)) % (10 : Int32))), .val (.int ((p0 / (1000 : Int32)) % (10 : Int32))), .val (.int ((p0 / (10000 : Int32)) % (10 : Int32)))] [])) (fun t k => XS.icmpNo N0.here hx rfl (hb hby d1_44) rfl (XT.ii_ne_f c1) k) ?_
    refine gNew (a0 := a0) N0 hx hZ hown (hw _ (List.mem_of_getElem? (i := 5) rfl)) (hw _ (List.mem_of_getElem? (i := 6) rfl)) (hw _ (List.mem_of_getElem? (i := 7) rfl)) (hb hby d1_47) (nle rfl) (nle rfl) ?_
    intro T1 h2 a3 ea4 N5 E6 A7 D8
    have g9 : h0.size ≤ a3 := by rw [ea4]; exact (ext_refl h0).1
    have g10 : Z.heap.size ≤ a3 := by rw [ea4]; exact N0.le
    have X11 : Ext h0 h2 := ext_trans (ext_refl h0) E6
    show Ends p e below _ T1 (mkF m 50 #[.val (.int p0), .val (.int p1), .val (.int (p0 % (10 : Int32))), .val (.int ((p0 / (10 : Int32)) % (10 : Int32))), .val (.int ((p0 / (100 : Int32)) % (10 : Int32))), .val (.int ((p0 / (1000 : Int32)) % (10 : Int32))), .val (.int ((p0 / (10000 : Int32)) % (10 : Int32)))] [(.ref a3)])
    refine Ends.go (f' := (mkF m 51 #[.val (.int p0), .val (.int p1), .val (.int (p0 % (10 : Int32))), .val (.int ((p0 / (10 : Int32)) % (10 : Int32))), .val (.int ((p0 / (100 : Int32)) % (10 : Int32))), .val (.int ((p0 / (1000 : Int32)) % (10 : Int32))), .val (.int ((p0 / (10000 : Int32)) % (10 : Int32)))] [(.ref a3), (.ref a3)])) (fun t k => XS.dup N5.here hx rfl (hb hby d1_50) rfl rfl k) ?_
    refine Ends.go (f' := (mkF m 52 #[.val (.int p0), .val (.int p1), .val (.int (p0 % (10 : Int32))), .val (.int ((p0 / (10 : Int32)) % (10 : Int32))), .val (.int ((p0 / (100 : Int32)) % (10 : Int32))), .val (.int ((p0 / (1000 : Int32)) % (10 : Int32))), .val (.int ((p0 / (10000 : Int32)) % (10 : Int32)))] [(.int (1 : Int32)), (.ref a3), (.ref a3)])) (fun t k => XS.iconst N5.here hx rfl (hb hby d1_51) k) ?_
    refine gArr 1 N5 hx hZ (hw _ (List.mem_of_getElem? (i := 8) rfl)) (hb hby d1_52) (by decide) (nle rfl) (nle rfl) (nle rfl) (nle rfl) ?_
    intro T12 h13 b14 kA15 eb16 N17 E18 V19
    have g20 : h0.size ≤ b14 := by rw [eb16]; exact X11.1
    have g21 : h2.size ≤ b14 := by rw [eb16]; exact (ext_refl h2).1
    have g22 : Z.heap.size ≤ b14 := by rw [eb16]; exact N5.le
    have X23 : Ext h0 h13 := ext_trans X11 E18
    have X24 : Ext h2 h13 := ext_trans (ext_refl h2) E18
    have V25 : Arv Z h13 b14 kA15 .char (1 : Int32) [(.int (0 : Int32))] (.int (0 : Int32)) := V19.pad (pad_rep [] (.int (0 : Int32)) 1)
    show Ends p e below _ T12 (mkF m 54 #[.val (.int p0), .val (.int p1), .val (.int (p0 % (10 : Int32))), .val (.int ((p0 / (10 : Int32)) % (10 : Int32))), .val (.int ((p0 / (100 : Int32)) % (10 : Int32))), .val (.int ((p0 / (1000 : Int32)) % (10 : Int32))), .val (.int ((p0 / (10000 : Int32)) % (10 : Int32)))] [(.ref b14), (.ref a3), (.ref a3)])
    refine Ends.go (f' := (mkF m 55 #[.val (.int p0), .val (.int p1), .val (.int (p0 % (10 : Int32))), .val (.int ((p0 / (10 : Int32)) % (10 : Int32))), .val (.int ((p0 / (100 : Int32)) % (10 : Int32))), .val (.int ((p0 / (1000 : Int32)) % (10 : Int32))), .val (.int ((p0 / (10000 : Int32)) % (10 : Int32)))] [(.ref b14), (.ref b14), (.ref a3), (.ref a3)])) (fun t k => XS.dup N17.here hx rfl (hb hby d1_54) rfl rfl k) ?_
    refine Ends.go (f' := (mkF m 56 #[.val (.int p0), .val (.int p1), .val (.int (p0 % (10 : Int32))), .val (.int ((p0 / (10 : Int32)) % (10 : Int32))), .val (.int ((p0 / (100 : Int32)) % (10 : Int32))), .val (.int ((p0 / (1000 : Int32)) % (10 : Int32))), .val (.int ((p0 / (10000 : Int32)) % (10 : Int32)))] [(.int (0 : Int32)), (.ref b14), (.ref b14), (.ref a3), (.ref a3)])) (fun t k => XS.iconst N17.here hx rfl (hb hby d1_55) k) ?_
    refine Ends.go (f' := (mkF m 57 #[.val (.int p0), .val (.int p1), .val (.int (p0 % (10 : Int32))), .val (.int ((p0 / (10 : Int32)) % (10 : Int32))), .val (.int ((p0 / (100 : Int32)) % (10 : Int32))), .val (.int ((p0 / (1000 : Int32)) % (10 : Int32))), .val (.int ((p0 / (10000 : Int32)) % (10 : Int32)))] [(.int (p0 % (10 : Int32))), (.int (0 : Int32)), (.ref b14), (.ref b14), (.ref a3), (.ref a3)])) (fun t k => XS.iloadN N17.here hx rfl (hb hby d1_56) rfl k) ?_
    refine gStatic (W := 5) (argsL := [(.int (p0 % (10 : Int32)))]) (rest := [(.int (0 : Int32)), (.ref b14), (.ref b14), (.ref a3), (.ref a3)]) N17 hx hZ hown (hw _ (List.mem_of_getElem? (i := 9) rfl)) (hw _ (List.mem_of_getElem? (i := 10) rfl)) (hw _ (List.mem_of_getElem? (i := 3) rfl)) (hw _ (List.mem_of_getElem? (i := 11) rfl)) (by decide) ((rm2 l Z a0 hw (p0 % (10 : Int32)) h13 N17.ext).back (W := 5) hZ (hw _ (List.mem_of_getElem? (i := 11) rfl)) (hw _ (List.mem_of_getElem? (i := 3) rfl)) (nle rfl) (nle rfl)) (hb hby d1_57) rfl (by rw [hml]; rfl) (lenOf (by decide +kernel : parseMethodDescriptor "(I)C" = some ⟨[.int], (some .char)⟩) rfl) (nle rfl) (nle rfl) (nle rfl) (fun _ _ _ q => q.2) ?_
    rintro _ T26 _ _ N27 ⟨⟨rfl, e_h⟩, -⟩; rw [e_h] at N27; clear e_h
    show Ends p e below _ T26 (mkF m 60 #[.val (.int p0), .val (.int p1), .val (.int (p0 % (10 : Int32))), .val (.int ((p0 / (10 : Int32)) % (10 : Int32))), .val (.int ((p0 / (100 : Int32)) % (10 : Int32))), .val (.int ((p0 / (1000 : Int32)) % (10 : Int32))), .val (.int ((p0 / (10000 : Int32)) % (10 : Int32)))] [(.int (f_d (p0 % (10 : Int32)))), (.int (0 : Int32)), (.ref b14), (.ref b14), (.ref a3), (.ref a3)])
    refine gStC 0 N27 hx hZ V25 g22 (by decide) rfl (nle rfl) (hb hby d1_60) ?_
    intro T31 h32 N33 W34 V35
    rw [nar_fd] at V35
    have V36 : Arv Z h32 b14 kA15 .char (1 : Int32) [(.int (f_d (p0 % (10 : Int32))))] (.int (0 : Int32)) := V35
    have X37 : Ext h0 h32 := ext_wr X23 W34 g20
    have X38 : Ext h2 h32 := ext_wr X24 W34 g21
    show Ends p e below _ T31 (mkF m 61 #[.val (.int p0), .val (.int p1), .val (.int (p0 % (10 : Int32))), .val (.int ((p0 / (10 : Int32)) % (10 : Int32))), .val (.int ((p0 / (100 : Int32)) % (10 : Int32))), .val (.int ((p0 / (1000 : Int32)) % (10 : Int32))), .val (.int ((p0 / (10000 : Int32)) % (10 : Int32)))] [(.ref b14), (.ref a3), (.ref a3)])
    refine gSpecial (W := 1) (y := (⟨"java/lang/String", "<init>", "([C)V"⟩ : MethodName)) (a := a3) (argsL := [(.ref b14)]) (rest := [(.ref a3)]) rfl N33 hx hZ hown (hw _ (List.mem_of_getElem? (i := 12) rfl)) (hw _ (List.mem_of_getElem? (i := 13) rfl)) (hw _ (List.mem_of_getElem? (i := 14) rfl)) (by decide) (strNew (W := 1) (cs := [(f_d (p0 % (10 : Int32)))]) hZ hw G N33.ext g10 (A7.ext X38) ((D8 (Or.inr (hw _ (List.mem_of_getElem? (i := 37) rfl))) (ty := .array .byte) (by decide)).ext X38) ((D8 (Or.inr (hw _ (List.mem_of_getElem? (i := 35) rfl))) (ty := .byte) (by decide)).ext X38) V36 (nle rfl) (nle rfl) (hp_cons (fd_ok (dg0 hn)) hp_nil) (nle rfl) (nle rfl)) (hb hby d1_61) rfl (by rw [hml]; rfl) (lenOf (by decide +kernel : parseMethodDescriptor "([C)V" = some ⟨[(.array .char)], none⟩) rfl) (nle rfl) (nle rfl) (nle rfl) (fun _ _ _ q => q.2.2.2) ?_
    rintro _ T39 h40 L41 N42 ⟨rfl, K43, S44, -⟩
    have X45 : Ext h0 h40 := ext_keep X37 K43 g9
    show Ends p e below _ T39 (mkF m 64 #[.val (.int p0), .val (.int p1), .val (.int (p0 % (10 : Int32))), .val (.int ((p0 / (10 : Int32)) % (10 : Int32))), .val (.int ((p0 / (100 : Int32)) % (10 : Int32))), .val (.int ((p0 / (1000 : Int32)) % (10 : Int32))), .val (.int ((p0 / (10000 : Int32)) % (10 : Int32)))] [(.ref a3)])
    have q9 : spellCs p0 p1 = [(f_d (p0 % (10 : Int32)))] := by simp only [spellCs, if_pos c1]
    exact retA N42 hx hlk hret rfl rfl (hb hby d1_64) ⟨_, rfl, X45, by rw [q9]; exact S44⟩ (nle rfl) (nle rfl)
  · skip
    refine Ends.go (f' := (mkF m 65 #[.val (.int p0), .val (.int p1), .val (.int (p0 % (10 : Int32))), .val (.int ((p0 / (10 : Int32)) % (10 : Int32))), .val (.int ((p0 / (100 : Int32)) % (10 : Int32))), .val (.int ((p0 / (1000 : Int32)) % (10 : Int32))), .val (.int ((p0 / (10000 : Int32)) % (10 : Int32)))] [])) (fun t k => XS.icmpYes N0.here hx rfl (pc0 := 44) (pc' := 65) rfl (hb hby d1_44) rfl (XT.ii_ne_t c1) (by decide) (by decide) k) ?_
    refine Ends.go (f' := (mkF m 66 #[.val (.int p0), .val (.int p1), .val (.int (p0 % (10 : Int32))), .val (.int ((p0 / (10 : Int32)) % (10 : Int32))), .val (.int ((p0 / (100 : Int32)) % (10 : Int32))), .val (.int ((p0 / (1000 : Int32)) % (10 : Int32))), .val (.int ((p0 / (10000 : Int32)) % (10 : Int32)))] [(.int p1)])) (fun t k => XS.iloadN N0.here hx rfl (hb hby d1_65) rfl k) ?_
    refine Ends.go (f' := (mkF m 67 #[.val (.int p0), .val (.int p1), .val (.int (p0 % (10 : Int32))), .val (.int ((p0 / (10 : Int32)) % (10 : Int32))), .val (.int ((p0 / (100 : Int32)) % (10 : Int32))), .val (.int ((p0 / (1000 : Int32)) % (10 : Int32))), .val (.int ((p0 / (10000 : Int32)) % (10 : Int32)))] [(.int (2 : Int32)), (.int p1)])) (fun t k => XS.iconst N0.here hx rfl (hb hby d1_66) k) ?_
    by_cases c2 : p1 = (2 : Int32)
    · refine Ends.go (f' := (mkF m 70 #[.val (.int p0), .val (.int p1), .val (.int (p0 % (10 : Int32))), .val (.int ((p0 / (10 : Int32)) % (10 : Int32))), .val (.int ((p0 / (100 : Int32)) % (10 : Int32))), .val (.int ((p0 / (1000 : Int32)) % (10 : Int32))), .val (.int ((p0 / (10000 : Int32)) % (10 : Int32)))] [])) (fun t k => XS.icmpNo N0.here hx rfl (hb hby d1_67) rfl (XT.ii_ne_f c2) k) ?_
      refine gNew (a0 := a0) N0 hx hZ hown (hw _ (List.mem_of_getElem? (i := 5) rfl)) (hw _ (List.mem_of_getElem? (i := 6) rfl)) (hw _ (List.mem_of_getElem? (i := 7) rfl)) (hb hby d1_70) (nle rfl) (nle rfl) ?_
      intro T46 h47 a48 ea49 N50 E51 A52 D53
      have g54 : h0.size ≤ a48 := by rw [ea49]; exact (ext_refl h0).1
      have g55 : Z.heap.size ≤ a48 := by rw [ea49]; exact N0.le
      have X56 : Ext h0 h47 := ext_trans (ext_refl h0) E51
      show Ends p e below _ T46 (mkF m 73 #[.val (.int p0), .val (.int p1), .val (.int (p0 % (10 : Int32))), .val (.int ((p0 / (10 : Int32)) % (10 : Int32))), .val (.int ((p0 / (100 : Int32)) % (10 : Int32))), .val (.int ((p0 / (1000 : Int32)) % (10 : Int32))), .val (.int ((p0 / (10000 : Int32)) % (10 : Int32)))] [(.ref a48)])
      refine Ends.go (f' := (mkF m 74 #[.val (.int p0), .val (.int p1), .val (.int (p0 % (10 : Int32))), .val (.int ((p0 / (10 : Int32)) % (10 : Int32))), .val (.int ((p0 / (100 : Int32)) % (10 : Int32))), .val (.int ((p0 / (1000 : Int32)) % (10 : Int32))), .val (.int ((p0 / (10000 : Int32)) % (10 : Int32)))] [(.ref a48), (.ref a48)])) (fun t k => XS.dup N50.here hx rfl (hb hby d1_73) rfl rfl k) ?_
      refine Ends.go (f' := (mkF m 75 #[.val (.int p0), .val (.int p1), .val (.int (p0 % (10 : Int32))), .val (.int ((p0 / (10 : Int32)) % (10 : Int32))), .val (.int ((p0 / (100 : Int32)) % (10 : Int32))), .val (.int ((p0 / (1000 : Int32)) % (10 : Int32))), .val (.int ((p0 / (10000 : Int32)) % (10 : Int32)))] [(.int (2 : Int32)), (.ref a48), (.ref a48)])) (fun t k => XS.iconst N50.here hx rfl (hb hby d1_74) k) ?_
      refine gArr 2 N50 hx hZ (hw _ (List.mem_of_getElem? (i := 8) rfl)) (hb hby d1_75) (by decide) (nle rfl) (nle rfl) (nle rfl) (nle rfl) ?_
      intro T57 h58 b59 kA60 eb61 N62 E63 V64
      have g65 : h0.size ≤ b59 := by rw [eb61]; exact X56.1
      have g66 : h47.size ≤ b59 := by rw [eb61]; exact (ext_refl h47).1
      have g67 : Z.heap.size ≤ b59 := by rw [eb61]; exact N50.le
      have X68 : Ext h0 h58 := ext_trans X56 E63
      have X69 : Ext h47 h58 := ext_trans (ext_refl h47) E63
      have V70 : Arv Z h58 b59 kA60 .char (2 : Int32) [(.int (0 : Int32)), (.int (0 : Int32))] (.int (0 : Int32)) := V64.pad (pad_rep [] (.int (0 : Int32)) 2)
      show Ends p e below _ T57 (mkF m 77 #[.val (.int p0), .val (.int p1), .val (.int (p0 % (10 : Int32))), .val (.int ((p0 / (10 : Int32)) % (10 : Int32))), .val (.int ((p0 / (100 : Int32)) % (10 : Int32))), .val (.int ((p0 / (1000 : Int32)) % (10 : Int32))), .val (.int ((p0 / (10000 : Int32)) % (10 : Int32)))] [(.ref b59), (.ref a48), (.ref a48)])
      refine Ends.go (f' := (mkF m 78 #[.val (.int p0), .val (.int p1), .val (.int (p0 % (10 : Int32))), .val (.int ((p0 / (10 : Int32)) % (10 : Int32))), .val (.int ((p0 / (100 : Int32)) % (10 : Int32))), .val (.int ((p0 / (1000 : Int32)) % (10 : Int32))), .val (.int ((p0 / (10000 : Int32)) % (10 : Int32)))] [(.ref b59), (.ref b59), (.ref a48), (.ref a48)])) (fun t k => XS.dup N62.here hx rfl (hb hby d1_77) rfl rfl k) ?_
      refine Ends.go (f' := (mkF m 79 #[.val (.int p0), .val (.int p1), .val (.int (p0 % (10 : Int32))), .val (.int ((p0 / (10 : Int32)) % (10 : Int32))), .val (.int ((p0 / (100 : Int32)) % (10 : Int32))), .val (.int ((p0 / (1000 : Int32)) % (10 : Int32))), .val (.int ((p0 / (10000 : Int32)) % (10 : Int32)))] [(.int (0 : Int32)), (.ref b59), (.ref b59), (.ref a48), (.ref a48)])) (fun t k => XS.iconst N62.here hx rfl (hb hby d1_78) k) ?_
      refine Ends.go (f' := (mkF m 80 #[.val (.int p0), .val (.int p1), .val (.int (p0 % (10 : Int32))), .val (.int ((p0 / (10 : Int32)) % (10 : Int32))), .val (.int ((p0 / (100 : Int32)) % (10 : Int32))), .val (.int ((p0 / (1000 : Int32)) % (10 : Int32))), .val (.int ((p0 / (10000 : Int32)) % (10 : Int32)))] [(.int ((p0 / (10 : Int32)) % (10 : Int32))), (.int (0 : Int32)), (.ref b59), (.ref b59), (.ref a48), (.ref a48)])) (fun t k => XS.iloadN N62.here hx rfl (hb hby d1_79) rfl k) ?_
      refine gStatic (W := 5) (argsL := [(.int ((p0 / (10 : Int32)) % (10 : Int32)))]) (rest := [(.int (0 : Int32)), (.ref b59), (.ref b59), (.ref a48), (.ref a48)]) N62 hx hZ hown (hw _ (List.mem_of_getElem? (i := 9) rfl)) (hw _ (List.mem_of_getElem? (i := 10) rfl)) (hw _ (List.mem_of_getElem? (i := 3) rfl)) (hw _ (List.mem_of_getElem? (i := 11) rfl)) (by decide) ((rm2 l Z a0 hw ((p0 / (10 : Int32)) % (10 : Int32)) h58 N62.ext).back (W := 5) hZ (hw _ (List.mem_of_getElem? (i := 11) rfl)) (hw _ (List.mem_of_getElem? (i := 3) rfl)) (nle rfl) (nle rfl)) (hb hby d1_80) rfl (by rw [hml]; rfl) (lenOf (by decide +kernel : parseMethodDescriptor "(I)C" = some ⟨[.int], (some .char)⟩) rfl) (nle rfl) (nle rfl) (nle rfl) (fun _ _ _ q => q.2) ?_
      rintro _ T71 _ _ N72 ⟨⟨rfl, e_h⟩, -⟩; rw [e_h] at N72; clear e_h
      show Ends p e below _ T71 (mkF m 83 #[.val (.int p0), .val (.int p1), .val (.int (p0 % (10 : Int32))), .val (.int ((p0 / (10 : Int32)) % (10 : Int32))), .val (.int ((p0 / (100 : Int32)) % (10 : Int32))), .val (.int ((p0 / (1000 : Int32)) % (10 : Int32))), .val (.int ((p0 / (10000 : Int32)) % (10 : Int32)))] [(.int (f_d ((p0 / (10 : Int32)) % (10 : Int32)))), (.int (0 : Int32)), (.ref b59), (.ref b59), (.ref a48), (.ref a48)])
      refine gStC 0 N72 hx hZ V70 g67 (by decide) rfl (nle rfl) (hb hby d1_83) ?_
      intro T76 h77 N78 W79 V80
      rw [nar_fd] at V80
      have V81 : Arv Z h77 b59 kA60 .char (2 : Int32) [(.int (f_d ((p0 / (10 : Int32)) % (10 : Int32)))), (.int (0 : Int32))] (.int (0 : Int32)) := V80
      have X82 : Ext h0 h77 := ext_wr X68 W79 g65
      have X83 : Ext h47 h77 := ext_wr X69 W79 g66
      show Ends p e below _ T76 (mkF m 84 #[.val (.int p0), .val (.int p1), .val (.int (p0 % (10 : Int32))), .val (.int ((p0 / (10 : Int32)) % (10 : Int32))), .val (.int ((p0 / (100 : Int32)) % (10 : Int32))), .val (.int ((p0 / (1000 : Int32)) % (10 : Int32))), .val (.int ((p0 / (10000 : Int32)) % (10 : Int32)))] [(.ref b59), (.ref a48), (.ref a48)])
      refine Ends.go (f' := (mkF m 85 #[.val (.int p0), .val (.int p1), .val (.int (p0 % (10 : Int32))), .val (.int ((p0 / (10 : Int32)) % (10 : Int32))), .val (.int ((p0 / (100 : Int32)) % (10 : Int32))), .val (.int ((p0 / (1000 : Int32)) % (10 : Int32))), .val (.int ((p0 / (10000 : Int32)) % (10 : Int32)))] [(.ref b59), (.ref b59), (.ref a48), (.ref a48)])) (fun t k => XS.dup N78.here hx rfl (hb hby d1_84) rfl rfl k) ?_
      refine Ends.go (f' := (mkF m 86 #[.val (.int p0), .val (.int p1), .val (.int (p0 % (10 : Int32))), .val (.int ((p0 / (10 : Int32)) % (10 : Int32))), .val (.int ((p0 / (100 : Int32)) % (10 : Int32))), .val (.int ((p0 / (1000 : Int32)) % (10 : Int32))), .val (.int ((p0 / (10000 : Int32)) % (10 : Int32)))] [(.int (1 : Int32)), (.ref b59), (.ref b59), (.ref a48), (.ref a48)])) (fun t k => XS.iconst N78.here hx rfl (hb hby d1_85) k) ?_
      refine Ends.go (f' := (mkF m 87 #[.val (.int p0), .val (.int p1), .val (.int (p0 % (10 : Int32))), .val (.int ((p0 / (10 : Int32)) % (10 : Int32))), .val (.int ((p0 / (100 : Int32)) % (10 : Int32))), .val (.int ((p0 / (1000 : Int32)) % (10 : Int32))), .val (.int ((p0 / (10000 : Int32)) % (10 : Int32)))] [(.int (p0 % (10 : Int32))), (.int (1 : Int32)), (.ref b59), (.ref b59), (.ref a48), (.ref a48)])) (fun t k => XS.iloadN N78.here hx rfl (hb hby d1_86) rfl k) ?_
      refine gStatic (W := 5) (argsL := [(.int (p0 % (10 : Int32)))]) (rest := [(.int (1 : Int32)), (.ref b59), (.ref b59), (.ref a48), (.ref a48)]) N78 hx hZ hown (hw _ (List.mem_of_getElem? (i := 9) rfl)) (hw _ (List.mem_of_getElem? (i := 10) rfl)) (hw _ (List.mem_of_getElem? (i := 3) rfl)) (hw _ (List.mem_of_getElem? (i := 11) rfl)) (by decide) ((rm2 l Z a0 hw (p0 % (10 : Int32)) h77 N78.ext).back (W := 5) hZ (hw _ (List.mem_of_getElem? (i := 11) rfl)) (hw _ (List.mem_of_getElem? (i := 3) rfl)) (nle rfl) (nle rfl)) (hb hby d1_87) rfl (by rw [hml]; rfl) (lenOf (by decide +kernel : parseMethodDescriptor "(I)C" = some ⟨[.int], (some .char)⟩) rfl) (nle rfl) (nle rfl) (nle rfl) (fun _ _ _ q => q.2) ?_
      rintro _ T84 _ _ N85 ⟨⟨rfl, e_h⟩, -⟩; rw [e_h] at N85; clear e_h
      show Ends p e below _ T84 (mkF m 90 #[.val (.int p0), .val (.int p1), .val (.int (p0 % (10 : Int32))), .val (.int ((p0 / (10 : Int32)) % (10 : Int32))), .val (.int ((p0 / (100 : Int32)) % (10 : Int32))), .val (.int ((p0 / (1000 : Int32)) % (10 : Int32))), .val (.int ((p0 / (10000 : Int32)) % (10 : Int32)))] [(.int (f_d (p0 % (10 : Int32)))), (.int (1 : Int32)), (.ref b59), (.ref b59), (.ref a48), (.ref a48)])
      refine gStC 1 N85 hx hZ V81 g67 (by decide) rfl (nle rfl) (hb hby d1_90) ?_
      intro T89 h90 N91 W92 V93
      rw [nar_fd] at V93
      have V94 : Arv Z h90 b59 kA60 .char (2 : Int32) [(.int (f_d ((p0 / (10 : Int32)) % (10 : Int32)))), (.int (f_d (p0 % (10 : Int32))))] (.int (0 : Int32)) := V93
      have X95 : Ext h0 h90 := ext_wr X82 W92 g65
      have X96 : Ext h47 h90 := ext_wr X83 W92 g66
      show Ends p e below _ T89 (mkF m 91 #[.val (.int p0), .val (.int p1), .val (.int (p0 % (10 : Int32))), .val (.int ((p0 / (10 : Int32)) % (10 : Int32))), .val (.int ((p0 / (100 : Int32)) % (10 : Int32))), .val (.int ((p0 / (1000 : Int32)) % (10 : Int32))), .val (.int ((p0 / (10000 : Int32)) % (10 : Int32)))] [(.ref b59), (.ref a48), (.ref a48)])
      refine gSpecial (W := 1) (y := (⟨"java/lang/String", "<init>", "([C)V"⟩ : MethodName)) (a := a48) (argsL := [(.ref b59)]) (rest := [(.ref a48)]) rfl N91 hx hZ hown (hw _ (List.mem_of_getElem? (i := 12) rfl)) (hw _ (List.mem_of_getElem? (i := 13) rfl)) (hw _ (List.mem_of_getElem? (i := 14) rfl)) (by decide) (strNew (W := 1) (cs := [(f_d ((p0 / (10 : Int32)) % (10 : Int32))), (f_d (p0 % (10 : Int32)))]) hZ hw G N91.ext g55 (A52.ext X96) ((D53 (Or.inr (hw _ (List.mem_of_getElem? (i := 37) rfl))) (ty := .array .byte) (by decide)).ext X96) ((D53 (Or.inr (hw _ (List.mem_of_getElem? (i := 35) rfl))) (ty := .byte) (by decide)).ext X96) V94 (nle rfl) (nle rfl) (hp_cons (fd_ok (dgk (d := 10) rfl (by decide) (by decide) hn)) (hp_cons (fd_ok (dg0 hn)) hp_nil)) (nle rfl) (nle rfl)) (hb hby d1_91) rfl (by rw [hml]; rfl) (lenOf (by decide +kernel : parseMethodDescriptor "([C)V" = some ⟨[(.array .char)], none⟩) rfl) (nle rfl) (nle rfl) (nle rfl) (fun _ _ _ q => q.2.2.2) ?_
      rintro _ T97 h98 L99 N100 ⟨rfl, K101, S102, -⟩
      have X103 : Ext h0 h98 := ext_keep X95 K101 g54
      show Ends p e below _ T97 (mkF m 94 #[.val (.int p0), .val (.int p1), .val (.int (p0 % (10 : Int32))), .val (.int ((p0 / (10 : Int32)) % (10 : Int32))), .val (.int ((p0 / (100 : Int32)) % (10 : Int32))), .val (.int ((p0 / (1000 : Int32)) % (10 : Int32))), .val (.int ((p0 / (10000 : Int32)) % (10 : Int32)))] [(.ref a48)])
      have q9 : spellCs p0 p1 = [(f_d ((p0 / (10 : Int32)) % (10 : Int32))), (f_d (p0 % (10 : Int32)))] := by simp only [spellCs, if_neg c1, if_pos c2]
      exact retA N100 hx hlk hret rfl rfl (hb hby d1_94) ⟨_, rfl, X103, by rw [q9]; exact S102⟩ (nle rfl) (nle rfl)
    · skip
      refine Ends.go (f' := (mkF m 95 #[.val (.int p0), .val (.int p1), .val (.int (p0 % (10 : Int32))), .val (.int ((p0 / (10 : Int32)) % (10 : Int32))), .val (.int ((p0 / (100 : Int32)) % (10 : Int32))), .val (.int ((p0 / (1000 : Int32)) % (10 : Int32))), .val (.int ((p0 / (10000 : Int32)) % (10 : Int32)))] [])) (fun t k => XS.icmpYes N0.here hx rfl (pc0 := 67) (pc' := 95) rfl (hb hby d1_67) rfl (XT.ii_ne_t c2) (by decide) (by decide) k) ?_
      refine Ends.go (f' := (mkF m 96 #[.val (.int p0), .val (.int p1), .val (.int (p0 % (10 : Int32))), .val (.int ((p0 / (10 : Int32)) % (10 : Int32))), .val (.int ((p0 / (100 : Int32)) % (10 : Int32))), .val (.int ((p0 / (1000 : Int32)) % (10 : Int32))), .val (.int ((p0 / (10000 : Int32)) % (10 : Int32)))] [(.int p1)])) (fun t k => XS.iloadN N0.here hx rfl (hb hby d1_95) rfl k) ?_
      refine Ends.go (f' := (mkF m 97 #[.val (.int p0), .val (.int p1), .val (.int (p0 % (10 : Int32))), .val (.int ((p0 / (10 : Int32)) % (10 : Int32))), .val (.int ((p0 / (100 : Int32)) % (10 : Int32))), .val (.int ((p0 / (1000 : Int32)) % (10 : Int32))), .val (.int ((p0 / (10000 : Int32)) % (10 : Int32)))] [(.int (3 : Int32)), (.int p1)])) (fun t k => XS.iconst N0.here hx rfl (hb hby d1_96) k) ?_
      by_cases c3 : p1 = (3 : Int32)
      · refine Ends.go (f' := (mkF m 100 #[.val (.int p0), .val (.int p1), .val (.int (p0 % (10 : Int32))), .val (.int ((p0 / (10 : Int32)) % (10 : Int32))), .val (.int ((p0 / (100 : Int32)) % (10 : Int32))), .val (.int ((p0 / (1000 : Int32)) % (10 : Int32))), .val (.int ((p0 / (10000 : Int32)) % (10 : Int32)))] [])) (fun t k => XS.icmpNo N0.here hx rfl (hb hby d1_97) rfl (XT.ii_ne_f c3) k) ?_
        refine gNew (a0 := a0) N0 hx hZ hown (hw _ (List.mem_of_getElem? (i := 5) rfl)) (hw _ (List.mem_of_getElem? (i := 6) rfl)) (hw _ (List.mem_of_getElem? (i := 7) rfl)) (hb hby d1_100) (nle rfl) (nle rfl) ?_
        intro T104 h105 a106 ea107 N108 E109 A110 D111
        have g112 : h0.size ≤ a106 := by rw [ea107]; exact (ext_refl h0).1
        have g113 : Z.heap.size ≤ a106 := by rw [ea107]; exact N0.le
        have X114 : Ext h0 h105 := ext_trans (ext_refl h0) E109
        show Ends p e below _ T104 (mkF m 103 #[.val (.int p0), .val (.int p1), .val (.int (p0 % (10 : Int32))), .val (.int ((p0 / (10 : Int32)) % (10 : Int32))), .val (.int ((p0 / (100 : Int32)) % (10 : Int32))), .val (.int ((p0 / (1000 : Int32)) % (10 : Int32))), .val (.int ((p0 / (10000 : Int32)) % (10 : Int32)))] [(.ref a106)])
        refine Ends.go (f' := (mkF m 104 #[.val (.int p0), .val (.int p1), .val (.int (p0 % (10 : Int32))), .val (.int ((p0 / (10 : Int32)) % (10 : Int32))), .val (.int ((p0 / (100 : Int32)) % (10 : Int32))), .val (.int ((p0 / (1000 : Int32)) % (10 : Int32))), .val (.int ((p0 / (10000 : Int32)) % (10 : Int32)))] [(.ref a106), (.ref a106)])) (fun t k => XS.dup N108.here hx rfl (hb hby d1_103) rfl rfl k) ?_
        refine Ends.go (f' := (mkF m 105 #[.val (.int p0), .val (.int p1), .val (.int (p0 % (10 : Int32))), .val (.int ((p0 / (10 : Int32)) % (10 : Int32))), .val (.int ((p0 / (100 : Int32)) % (10 : Int32))), .val (.int ((p0 / (1000 : Int32)) % (10 : Int32))), .val (.int ((p0 / (10000 : Int32)) % (10 : Int32)))] [(.int (3 : Int32)), (.ref a106), (.ref a106)])) (fun t k => XS.iconst N108.here hx rfl (hb hby d1_104) k) ?_
        refine gArr 3 N108 hx hZ (hw _ (List.mem_of_getElem? (i := 8) rfl)) (hb hby d1_105) (by decide) (nle rfl) (nle rfl) (nle rfl) (nle rfl) ?_
        intro T115 h116 b117 kA118 eb119 N120 E121 V122
        have g123 : h0.size ≤ b117 := by rw [eb119]; exact X114.1
        have g124 : h105.size ≤ b117 := by rw [eb119]; exact (ext_refl h105).1
        have g125 : Z.heap.size ≤ b117 := by rw [eb119]; exact N108.le
        have X126 : Ext h0 h116 := ext_trans X114 E121
        have X127 : Ext h105 h116 := ext_trans (ext_refl h105) E121
        have V128 : Arv Z h116 b117 kA118 .char (3 : Int32) [(.int (0 : Int32)), (.int (0 : Int32)), (.int (0 : Int32))] (.int (0 : Int32)) := V122.pad (pad_rep [] (.int (0 : Int32)) 3)
        show Ends p e below _ T115 (mkF m 107 #[.val (.int p0), .val (.int p1), .val (.int (p0 % (10 : Int32))), .val (.int ((p0 / (10 : Int32)) % (10 : Int32))), .val (.int ((p0 / (100 : Int32)) % (10 : Int32))), .val (.int ((p0 / (1000 : Int32)) % (10 : Int32))), .val (.int ((p0 / (10000 : Int32)) % (10 : Int32)))] [(.ref b117), (.ref a106), (.ref a106)])
        refine Ends.go (f' := (mkF m 108 #[.val (.int p0), .val (.int p1), .val (.int (p0 % (10 : Int32))), .val (.int ((p0 / (10 : Int32)) % (10 : Int32))), .val (.int ((p0 / (100 : Int32)) % (10 : Int32))), .val (.int ((p0 / (1000 : Int32)) % (10 : Int32))), .val (.int ((p0 / (10000 : Int32)) % (10 : Int32)))] [(.ref b117), (.ref b117), (.ref a106), (.ref a106)])) (fun t k => XS.dup N120.here hx rfl (hb hby d1_107) rfl rfl k) ?_
        refine Ends.go (f' := (mkF m 109 #[.val (.int p0), .val (.int p1), .val (.int (p0 % (10 : Int32))), .val (.int ((p0 / (10 : Int32)) % (10 : Int32))), .val (.int ((p0 / (100 : Int32)) % (10 : Int32))), .val (.int ((p0 / (1000 : Int32)) % (10 : Int32))), .val (.int ((p0 / (10000 : Int32)) % (10 : Int32)))] [(.int (0 : Int32)), (.ref b117), (.ref b117), (.ref a106), (.ref a106)])) (fun t k => XS.iconst N120.here hx rfl (hb hby d1_108) k) ?_
        refine Ends.go (f' := (mkF m 111 #[.val (.int p0), .val (.int p1), .val (.int (p0 % (10 : Int32))), .val (.int ((p0 / (10 : Int32)) % (10 : Int32))), .val (.int ((p0 / (100 : Int32)) % (10 : Int32))), .val (.int ((p0 / (1000 : Int32)) % (10 : Int32))), .val (.int ((p0 / (10000 : Int32)) % (10 : Int32)))] [(.int ((p0 / (100 : Int32)) % (10 : Int32))), (.int (0 : Int32)), (.ref b117), (.ref b117), (.ref a106), (.ref a106)])) (fun t k => XS.iload N120.here hx rfl (hb hby d1_109) rfl k) ?_
        refine gStatic (W := 5) (argsL := [(.int ((p0 / (100 : Int32)) % (10 : Int32)))]) (rest := [(.int (0 : Int32)), (.ref b117), (.ref b117), (.ref a106), (.ref a106)]) N120 hx hZ hown (hw _ (List.mem_of_getElem? (i := 9) rfl)) (hw _ (List.mem_of_getElem? (i := 10) rfl)) (hw _ (List.mem_of_getElem? (i := 3) rfl)) (hw _ (List.mem_of_getElem? (i := 11) rfl)) (by decide) ((rm2 l Z a0 hw ((p0 / (100 : Int32)) % (10 : Int32)) h116 N120.ext).back (W := 5) hZ (hw _ (List.mem_of_getElem? (i := 11) rfl)) (hw _ (List.mem_of_getElem? (i := 3) rfl)) (nle rfl) (nle rfl)) (hb hby d1_111) rfl (by rw [hml]; rfl) (lenOf (by decide +kernel : parseMethodDescriptor "(I)C" = some ⟨[.int], (some .char)⟩) rfl) (nle rfl) (nle rfl) (nle rfl) (fun _ _ _ q => q.2) ?_
        rintro _ T129 _ _ N130 ⟨⟨rfl, e_h⟩, -⟩; rw [e_h] at N130; clear e_h
        show Ends p e below _ T129 (mkF m 114 #[.val (.int p0), .val (.int p1), .val (.int (p0 % (10 : Int32))), .val (.int ((p0 / (10 : Int32)) % (10 : Int32))), .val (.int ((p0 / (100 : Int32)) % (10 : Int32))), .val (.int ((p0 / (1000 : Int32)) % (10 : Int32))), .val (.int ((p0 / (10000 : Int32)) % (10 : Int32)))] [(.int (f_d ((p0 / (100 : Int32)) % (10 : Int32)))), (.int (0 : Int32)), (.ref b117), (.ref b117), (.ref a106), (.ref a106)])
        refine gStC 0 N130 hx hZ V128 g125 (by decide) rfl (nle rfl) (hb hby d1_114) ?_
        intro T134 h135 N136 W137 V138
        rw [nar_fd] at V138
        have V139 : Arv Z h135 b117 kA118 .char (3 : Int32) [(.int (f_d ((p0 / (100 : Int32)) % (10 : Int32)))), (.int (0 : Int32)), (.int (0 : Int32))] (.int (0 : Int32)) := V138
        have X140 : Ext h0 h135 := ext_wr X126 W137 g123
        have X141 : Ext h105 h135 := ext_wr X127 W137 g124
        show Ends p e below _ T134 (mkF m 115 #[.val (.int p0), .val (.int p1), .val (.int (p0 % (10 : Int32))), .val (.int ((p0 / (10 : Int32)) % (10 : Int32))), .val (.int ((p0 / (100 : Int32)) % (10 : Int32))), .val (.int ((p0 / (1000 : Int32)) % (10 : Int32))), .val (.int ((p0 / (10000 : Int32)) % (10 : Int32)))] [(.ref b117), (.ref a106), (.ref a106)])
        refine Ends.go (f' := (mkF m 116 #[.val (.int p0), .val (.int p1), .val (.int (p0 % (10 : Int32))), .val (.int ((p0 / (10 : Int32)) % (10 : Int32))), .val (.int ((p0 / (100 : Int32)) % (10 : Int32))), .val (.int ((p0 / (1000 : Int32)) % (10 : Int32))), .val (.int ((p0 / (10000 : Int32)) % (10 : Int32)))] [(.ref b117), (.ref b117), (.ref a106), (.ref a106)])) (fun t k => XS.dup N136.here hx rfl (hb hby d1_115) rfl rfl k) ?_
        refine Ends.go (f' := (mkF m 117 #[.val (.int p0), .val (.int p1), .val (.int (p0 % (10 : Int32))), .val (.int ((p0 / (10 : Int32)) % (10 : Int32))), .val (.int ((p0 / (100 : Int32)) % (10 : Int32))), .val (.int ((p0 / (1000 : Int32)) % (10 : Int32))), .val (.int ((p0 / (10000 : Int32)) % (10 : Int32)))] [(.int (1 : Int32)), (.ref b117), (.ref b117), (.ref a106), (.ref a106)])) (fun t k => XS.iconst N136.here hx rfl (hb hby d1_116) k) ?_
        refine Ends.go (f' := (mkF m 118 #[.val (.int p0), .val (.int p1), .val (.int (p0 % (10 : Int32))), .val (.int ((p0 / (10 : Int32)) % (10 : Int32))), .val (.int ((p0 / (100 : Int32)) % (10 : Int32))), .val (.int ((p0 / (1000 : Int32)) % (10 : Int32))), .val (.int ((p0 / (10000 : Int32)) % (10 : Int32)))] [(.int ((p0 / (10 : Int32)) % (10 : Int32))), (.int (1 : Int32)), (.ref b117), (.ref b117), (.ref a106), (.ref a106)])) (fun t k => XS.iloadN N136.here hx rfl (hb hby d1_117) rfl k) ?_
        refine gStatic (W := 5) (argsL := [(.int ((p0 / (10 : Int32)) % (10 : Int32)))]) (rest := [(.int (1 : Int32)), (.ref b117), (.ref b117), (.ref a106), (.ref a106)]) N136 hx hZ hown (hw _ (List.mem_of_getElem? (i := 9) rfl)) (hw _ (List.mem_of_getElem? (i := 10) rfl)) (hw _ (List.mem_of_getElem? (i := 3) rfl)) (hw _ (List.mem_of_getElem? (i := 11) rfl)) (by decide) ((rm2 l Z a0 hw ((p0 / (10 : Int32)) % (10 : Int32)) h135 N136.ext).back (W := 5) hZ (hw _ (List.mem_of_getElem? (i := 11) rfl)) (hw _ (List.mem_of_getElem? (i := 3) rfl)) (nle rfl) (nle rfl)) (hb hby d1_118) rfl (by rw [hml]; rfl) (lenOf (by decide +kernel : parseMethodDescriptor "(I)C" = some ⟨[.int], (some .char)⟩) rfl) (nle rfl) (nle rfl) (nle rfl) (fun _ _ _ q => q.2) ?_
        rintro _ T142 _ _ N143 ⟨⟨rfl, e_h⟩, -⟩; rw [e_h] at N143; clear e_h
        show Ends p e below _ T142 (mkF m 121 #[.val (.int p0), .val (.int p1), .val (.int (p0 % (10 : Int32))), .val (.int ((p0 / (10 : Int32)) % (10 : Int32))), .val (.int ((p0 / (100 : Int32)) % (10 : Int32))), .val (.int ((p0 / (1000 : Int32)) % (10 : Int32))), .val (.int ((p0 / (10000 : Int32)) % (10 : Int32)))] [(.int (f_d ((p0 / (10 : Int32)) % (10 : Int32)))), (.int (1 : Int32)), (.ref b117), (.ref b117), (.ref a106), (.ref a106)])
        refine gStC 1 N143 hx hZ V139 g125 (by decide) rfl (nle rfl) (hb hby d1_121) ?_
        intro T147 h148 N149 W150 V151
        rw [nar_fd] at V151
        have V152 : Arv Z h148 b117 kA118 .char (3 : Int32) [(.int (f_d ((p0 / (100 : Int32)) % (10 : Int32)))), (.int (f_d ((p0 / (10 : Int32)) % (10 : Int32)))), (.int (0 : Int32))] (.int (0 : Int32)) := V151
        have X153 : Ext h0 h148 := ext_wr X140 W150 g123
        have X154 : Ext h105 h148 := ext_wr X141 W150 g124
        show Ends p e below _ T147 (mkF m 122 #[.val (.int p0), .val (.int p1), .val (.int (p0 % (10 : Int32))), .val (.int ((p0 / (10 : Int32)) % (10 : Int32))), .val (.int ((p0 / (100 : Int32)) % (10 : Int32))), .val (.int ((p0 / (1000 : Int32)) % (10 : Int32))), .val (.int ((p0 / (10000 : Int32)) % (10 : Int32)))] [(.ref b117), (.ref a106), (.ref a106)])
        refine Ends.go (f' := (mkF m 123 #[.val (.int p0), .val (.int p1), .val (.int (p0 % (10 : Int32))), .val (.int ((p0 / (10 : Int32)) % (10 : Int32))), .val (.int ((p0 / (100 : Int32)) % (10 : Int32))), .val (.int ((p0 / (1000 : Int32)) % (10 : Int32))), .val (.int ((p0 / (10000 : Int32)) % (10 : Int32)))] [(.ref b117), (.ref b117), (.ref a106), (.ref a106)])) (fun t k => XS.dup N149.here hx rfl (hb hby d1_122) rfl rfl k) ?_
        refine Ends.go (f' := (mkF m 124 #[.val (.int p0), .val (.int p1), .val (.int (p0 % (10 : Int32))), .val (.int ((p0 / (10 : Int32)) % (10 : Int32))), .val (.int ((p0 / (100 : Int32)) % (10 : Int32))), .val (.int ((p0 / (1000 : Int32)) % (10 : Int32))), .val (.int ((p0 / (10000 : Int32)) % (10 : Int32)))] [(.int (2 : Int32)), (.ref b117), (.ref b117), (.ref a106), (.ref a106)])) (fun t k => XS.iconst N149.here hx rfl (hb hby d1_123) k) ?_
        refine Ends.go (f' := (mkF m 125 #[.val (.int p0), .val (.int p1), .val (.int (p0 % (10 : Int32))), .val (.int ((p0 / (10 : Int32)) % (10 : Int32))), .val (.int ((p0 / (100 : Int32)) % (10 : Int32))), .val (.int ((p0 / (1000 : Int32)) % (10 : Int32))), .val (.int ((p0 / (10000 : Int32)) % (10 : Int32)))] [(.int (p0 % (10 : Int32))), (.int (2 : Int32)), (.ref b117), (.ref b117), (.ref a106), (.ref a106)])) (fun t k => XS.iloadN N149.here hx rfl (hb hby d1_124) rfl k) ?_
        refine gStatic (W := 5) (argsL := [(.int (p0 % (10 : Int32)))]) (rest := [(.int (2 : Int32)), (.ref b117), (.ref b117), (.ref a106), (.ref a106)]) N149 hx hZ hown (hw _ (List.mem_of_getElem? (i := 9) rfl)) (hw _ (List.mem_of_getElem? (i := 10) rfl)) (hw _ (List.mem_of_getElem? (i := 3) rfl)) (hw _ (List.mem_of_getElem? (i := 11) rfl)) (by decide) ((rm2 l Z a0 hw (p0 % (10 : Int32)) h148 N149.ext).back (W := 5) hZ (hw _ (List.mem_of_getElem? (i := 11) rfl)) (hw _ (List.mem_of_getElem? (i := 3) rfl)) (nle rfl) (nle rfl)) (hb hby d1_125) rfl (by rw [hml]; rfl) (lenOf (by decide +kernel : parseMethodDescriptor "(I)C" = some ⟨[.int], (some .char)⟩) rfl) (nle rfl) (nle rfl) (nle rfl) (fun _ _ _ q => q.2) ?_
        rintro _ T155 _ _ N156 ⟨⟨rfl, e_h⟩, -⟩; rw [e_h] at N156; clear e_h
        show Ends p e below _ T155 (mkF m 128 #[.val (.int p0), .val (.int p1), .val (.int (p0 % (10 : Int32))), .val (.int ((p0 / (10 : Int32)) % (10 : Int32))), .val (.int ((p0 / (100 : Int32)) % (10 : Int32))), .val (.int ((p0 / (1000 : Int32)) % (10 : Int32))), .val (.int ((p0 / (10000 : Int32)) % (10 : Int32)))] [(.int (f_d (p0 % (10 : Int32)))), (.int (2 : Int32)), (.ref b117), (.ref b117), (.ref a106), (.ref a106)])
        refine gStC 2 N156 hx hZ V152 g125 (by decide) rfl (nle rfl) (hb hby d1_128) ?_
        intro T160 h161 N162 W163 V164
        rw [nar_fd] at V164
        have V165 : Arv Z h161 b117 kA118 .char (3 : Int32) [(.int (f_d ((p0 / (100 : Int32)) % (10 : Int32)))), (.int (f_d ((p0 / (10 : Int32)) % (10 : Int32)))), (.int (f_d (p0 % (10 : Int32))))] (.int (0 : Int32)) := V164
        have X166 : Ext h0 h161 := ext_wr X153 W163 g123
        have X167 : Ext h105 h161 := ext_wr X154 W163 g124
        show Ends p e below _ T160 (mkF m 129 #[.val (.int p0), .val (.int p1), .val (.int (p0 % (10 : Int32))), .val (.int ((p0 / (10 : Int32)) % (10 : Int32))), .val (.int ((p0 / (100 : Int32)) % (10 : Int32))), .val (.int ((p0 / (1000 : Int32)) % (10 : Int32))), .val (.int ((p0 / (10000 : Int32)) % (10 : Int32)))] [(.ref b117), (.ref a106), (.ref a106)])
        refine gSpecial (W := 1) (y := (⟨"java/lang/String", "<init>", "([C)V"⟩ : MethodName)) (a := a106) (argsL := [(.ref b117)]) (rest := [(.ref a106)]) rfl N162 hx hZ hown (hw _ (List.mem_of_getElem? (i := 12) rfl)) (hw _ (List.mem_of_getElem? (i := 13) rfl)) (hw _ (List.mem_of_getElem? (i := 14) rfl)) (by decide) (strNew (W := 1) (cs := [(f_d ((p0 / (100 : Int32)) % (10 : Int32))), (f_d ((p0 / (10 : Int32)) % (10 : Int32))), (f_d (p0 % (10 : Int32)))]) hZ hw G N162.ext g113 (A110.ext X167) ((D111 (Or.inr (hw _ (List.mem_of_getElem? (i := 37) rfl))) (ty := .array .byte) (by decide)).ext X167) ((D111 (Or.inr (hw _ (List.mem_of_getElem? (i := 35) rfl))) (ty := .byte) (by decide)).ext X167) V165 (nle rfl) (nle rfl) (hp_cons (fd_ok (dgk (d := 100) rfl (by decide) (by decide) hn)) (hp_cons (fd_ok (dgk (d := 10) rfl (by decide) (by decide) hn)) (hp_cons (fd_ok (dg0 hn)) hp_nil))) (nle rfl) (nle rfl)) (hb hby d1_129) rfl (by rw [hml]; rfl) (lenOf (by decide +kernel : parseMethodDescriptor "([C)V" = some ⟨[(.array .char)], none⟩) rfl) (nle rfl) (nle rfl) (nle rfl) (fun _ _ _ q => q.2.2.2) ?_
        rintro _ T168 h169 L170 N171 ⟨rfl, K172, S173, -⟩
        have X174 : Ext h0 h169 := ext_keep X166 K172 g112
        show Ends p e below _ T168 (mkF m 132 #[.val (.int p0), .val (.int p1), .val (.int (p0 % (10 : Int32))), .val (.int ((p0 / (10 : Int32)) % (10 : Int32))), .val (.int ((p0 / (100 : Int32)) % (10 : Int32))), .val (.int ((p0 / (1000 : Int32)) % (10 : Int32))), .val (.int ((p0 / (10000 : Int32)) % (10 : Int32)))] [(.ref a106)])
        have q9 : spellCs p0 p1 = [(f_d ((p0 / (100 : Int32)) % (10 : Int32))), (f_d ((p0 / (10 : Int32)) % (10 : Int32))), (f_d (p0 % (10 : Int32)))] := by simp only [spellCs, if_neg c1, if_neg c2, if_pos c3]
        exact retA N171 hx hlk hret rfl rfl (hb hby d1_132) ⟨_, rfl, X174, by rw [q9]; exact S173⟩ (nle rfl) (nle rfl)
      · skip
        refine Ends.go (f' := (mkF m 133 #[.val (.int p0), .val (.int p1), .val (.int (p0 % (10 : Int32))), .val (.int ((p0 / (10 : Int32)) % (10 : Int32))), .val (.int ((p0 / (100 : Int32)) % (10 : Int32))), .val (.int ((p0 / (1000 : Int32)) % (10 : Int32))), .val (.int ((p0 / (10000 : Int32)) % (10 : Int32)))] [])) (fun t k => XS.icmpYes N0.here hx rfl (pc0 := 97) (pc' := 133) rfl (hb hby d1_97) rfl (XT.ii_ne_t c3) (by decide) (by decide) k) ?_
        refine Ends.go (f' := (mkF m 134 #[.val (.int p0), .val (.int p1), .val (.int (p0 % (10 : Int32))), .val (.int ((p0 / (10 : Int32)) % (10 : Int32))), .val (.int ((p0 / (100 : Int32)) % (10 : Int32))), .val (.int ((p0 / (1000 : Int32)) % (10 : Int32))), .val (.int ((p0 / (10000 : Int32)) % (10 : Int32)))] [(.int p1)])) (fun t k => XS.iloadN N0.here hx rfl (hb hby d1_133) rfl k) ?_
        refine Ends.go (f' := (mkF m 135 #[.val (.int p0), .val (.int p1), .val (.int (p0 % (10 : Int32))), .val (.int ((p0 / (10 : Int32)) % (10 : Int32))), .val (.int ((p0 / (100 : Int32)) % (10 : Int32))), .val (.int ((p0 / (1000 : Int32)) % (10 : Int32))), .val (.int ((p0 / (10000 : Int32)) % (10 : Int32)))] [(.int (4 : Int32)), (.int p1)])) (fun t k => XS.iconst N0.here hx rfl (hb hby d1_134) k) ?_
        by_cases c4 : p1 = (4 : Int32)
        · refine Ends.go (f' := (mkF m 138 #[.val (.int p0), .val (.int p1), .val (.int (p0 % (10 : Int32))), .val (.int ((p0 / (10 : Int32)) % (10 : Int32))), .val (.int ((p0 / (100 : Int32)) % (10 : Int32))), .val (.int ((p0 / (1000 : Int32)) % (10 : Int32))), .val (.int ((p0 / (10000 : Int32)) % (10 : Int32)))] [])) (fun t k => XS.icmpNo N0.here hx rfl (hb hby d1_135) rfl (XT.ii_ne_f c4) k) ?_
          refine gNew (a0 := a0) N0 hx hZ hown (hw _ (List.mem_of_getElem? (i := 5) rfl)) (hw _ (List.mem_of_getElem? (i := 6) rfl)) (hw _ (List.mem_of_getElem? (i := 7) rfl)) (hb hby d1_138) (nle rfl) (nle rfl) ?_
          intro T175 h176 a177 ea178 N179 E180 A181 D182
          have g183 : h0.size ≤ a177 := by rw [ea178]; exact (ext_refl h0).1
          have g184 : Z.heap.size ≤ a177 := by rw [ea178]; exact N0.le
          have X185 : Ext h0 h176 := ext_trans (ext_refl h0) E180
          show Ends p e below _ T175 (mkF m 141 #[.val (.int p0), .val (.int p1), .val (.int (p0 % (10 : Int32))), .val (.int ((p0 / (10 : Int32)) % (10 : Int32))), .val (.int ((p0 / (100 : Int32)) % (10 : Int32))), .val (.int ((p0 / (1000 : Int32)) % (10 : Int32))), .val (.int ((p0 / (10000 : Int32)) % (10 : Int32)))] [(.ref a177)])
          refine Ends.go (f' := (mkF m 142 #[.val (.int p0), .val (.int p1), .val (.int (p0 % (10 : Int32))), .val (.int ((p0 / (10 : Int32)) % (10 : Int32))), .val (.int ((p0 / (100 : Int32)) % (10 : Int32))), .val (.int ((p0 / (1000 : Int32)) % (10 : Int32))), .val (.int ((p0 / (10000 : Int32)) % (10 : Int32)))] [(.ref a177), (.ref a177)])) (fun t k => XS.dup N179.here hx rfl (hb hby d1_141) rfl rfl k) ?_
          refine Ends.go (f' := (mkF m 143 #[.val (.int p0), .val (.int p1), .val (.int (p0 % (10 : Int32))), .val (.int ((p0 / (10 : Int32)) % (10 : Int32))), .val (.int ((p0 / (100 : Int32)) % (10 : Int32))), .val (.int ((p0 / (1000 : Int32)) % (10 : Int32))), .val (.int ((p0 / (10000 : Int32)) % (10 : Int32)))] [(.int (4 : Int32)), (.ref a177), (.ref a177)])) (fun t k => XS.iconst N179.here hx rfl (hb hby d1_142) k) ?_
          refine gArr 4 N179 hx hZ (hw _ (List.mem_of_getElem? (i := 8) rfl)) (hb hby d1_143) (by decide) (nle rfl) (nle rfl) (nle rfl) (nle rfl) ?_
          intro T186 h187 b188 kA189 eb190 N191 E192 V193
          have g194 : h0.size ≤ b188 := by rw [eb190]; exact X185.1
          have g195 : h176.size ≤ b188 := by rw [eb190]; exact (ext_refl h176).1
          have g196 : Z.heap.size ≤ b188 := by rw [eb190]; exact N179.le
          have X197 : Ext h0 h187 := ext_trans X185 E192
          have X198 : Ext h176 h187 := ext_trans (ext_refl h176) E192
          have V199 : Arv Z h187 b188 kA189 .char (4 : Int32) [(.int (0 : Int32)), (.int (0 : Int32)), (.int (0 : Int32)), (.int (0 : Int32))] (.int (0 : Int32)) := V193.pad (pad_rep [] (.int (0 : Int32)) 4)
          show Ends p e below _ T186 (mkF m 145 #[.val (.int p0), .val (.int p1), .val (.int (p0 % (10 : Int32))), .val (.int ((p0 / (10 : Int32)) % (10 : Int32))), .val (.int ((p0 / (100 : Int32)) % (10 : Int32))), .val (.int ((p0 / (1000 : Int32)) % (10 : Int32))), .val (.int ((p0 / (10000 : Int32)) % (10 : Int32)))] [(.ref b188), (.ref a177), (.ref a177)])
          refine Ends.go (f' := (mkF m 146 #[.val (.int p0), .val (.int p1), .val (.int (p0 % (10 : Int32))), .val (.int ((p0 / (10 : Int32)) % (10 : Int32))), .val (.int ((p0 / (100 : Int32)) % (10 : Int32))), .val (.int ((p0 / (1000 : Int32)) % (10 : Int32))), .val (.int ((p0 / (10000 : Int32)) % (10 : Int32)))] [(.ref b188), (.ref b188), (.ref a177), (.ref a177)])) (fun t k => XS.dup N191.here hx rfl (hb hby d1_145) rfl rfl k) ?_
          refine Ends.go (f' := (mkF m 147 #[.val (.int p0), .val (.int p1), .val (.int (p0 % (10 : Int32))), .val (.int ((p0 / (10 : Int32)) % (10 : Int32))), .val (.int ((p0 / (100 : Int32)) % (10 : Int32))), .val (.int ((p0 / (1000 : Int32)) % (10 : Int32))), .val (.int ((p0 / (10000 : Int32)) % (10 : Int32)))] [(.int (0 : Int32)), (.ref b188), (.ref b188), (.ref a177), (.ref a177)])) (fun t k => XS.iconst N191.here hx rfl (hb hby d1_146) k) ?_
          refine Ends.go (f' := (mkF m 149 #[.val (.int p0), .val (.int p1), .val (.int (p0 % (10 : Int32))), .val (.int ((p0 / (10 : Int32)) % (10 : Int32))), .val (.int ((p0 / (100 : Int32)) % (10 : Int32))), .val (.int ((p0 / (1000 : Int32)) % (10 : Int32))), .val (.int ((p0 / (10000 : Int32)) % (10 : Int32)))] [(.int ((p0 / (1000 : Int32)) % (10 : Int32))), (.int (0 : Int32)), (.ref b188), (.ref b188), (.ref a177), (.ref a177)])) (fun t k => XS.iload N191.here hx rfl (hb hby d1_147) rfl k) ?_
          refine gStatic (W := 5) (argsL := [(.int ((p0 / (1000 : Int32)) % (10 : Int32)))]) (rest := [(.int (0 : Int32)), (.ref b188), (.ref b188), (.ref a177), (.ref a177)]) N191 hx hZ hown (hw _ (List.mem_of_getElem? (i := 9) rfl)) (hw _ (List.mem_of_getElem? (i := 10) rfl)) (hw _ (List.mem_of_getElem? (i := 3) rfl)) (hw _ (List.mem_of_getElem? (i := 11) rfl)) (by decide) ((rm2 l Z a0 hw ((p0 / (1000 : Int32)) % (10 : Int32)) h187 N191.ext).back (W := 5) hZ (hw _ (List.mem_of_getElem? (i := 11) rfl)) (hw _ (List.mem_of_getElem? (i := 3) rfl)) (nle rfl) (nle rfl)) (hb hby d1_149) rfl (by rw [hml]; rfl) (lenOf (by decide +kernel : parseMethodDescriptor "(I)C" = some ⟨[.int], (some .char)⟩) rfl) (nle rfl) (nle rfl) (nle rfl) (fun _ _ _ q => q.2) ?_
          rintro _ T200 _ _ N201 ⟨⟨rfl, e_h⟩, -⟩; rw [e_h] at N201; clear e_h
          show Ends p e below _ T200 (mkF m 152 #[.val (.int p0), .val (.int p1), .val (.int (p0 % (10 : Int32))), .val (.int ((p0 / (10 : Int32)) % (10 : Int32))), .val (.int ((p0 / (100 : Int32)) % (10 : Int32))), .val (.int ((p0 / (1000 : Int32)) % (10 : Int32))), .val (.int ((p0 / (10000 : Int32)) % (10 : Int32)))] [(.int (f_d ((p0 / (1000 : Int32)) % (10 : Int32)))), (.int (0 : Int32)), (.ref b188), (.ref b188), (.ref a177), (.ref a177)])
          refine gStC 0 N201 hx hZ V199 g196 (by decide) rfl (nle rfl) (hb hby d1_152) ?_
          intro T205 h206 N207 W208 V209
          rw [nar_fd] at V209
          have V210 : Arv Z h206 b188 kA189 .char (4 : Int32) [(.int (f_d ((p0 / (1000 : Int32)) % (10 : Int32)))), (.int (0 : Int32)), (.int (0 : Int32)), (.int (0 : Int32))] (.int (0 : Int32)) := V209
          have X211 : Ext h0 h206 := ext_wr X197 W208 g194
          have X212 : Ext h176 h206 := ext_wr X198 W208 g195
          show Ends p e below _ T205 (mkF m 153 #[.val (.int p0), .val (.int p1), .val (.int (p0 % (10 : Int32))), .val (.int ((p0 / (10 : Int32)) % (10 : Int32))), .val (.int ((p0 / (100 : Int32)) % (10 : Int32))), .val (.int ((p0 / (1000 : Int32)) % (10 : Int32))), .val (.int ((p0 / (10000 : Int32)) % (10 : Int32)))] [(.ref b188), (.ref a177), (.ref a177)])
          refine Ends.go (f' := (mkF m 154 #[.val (.int p0), .val (.int p1), .val (.int (p0 % (10 : Int32))), .val (.int ((p0 / (10 : Int32)) % (10 : Int32))), .val (.int ((p0 / (100 : Int32)) % (10 : Int32))), .val (.int ((p0 / (1000 : Int32)) % (10 : Int32))), .val (.int ((p0 / (10000 : Int32)) % (10 : Int32)))] [(.ref b188), (.ref b188), (.ref a177), (.ref a177)])) (fun t k => XS.dup N207.here hx rfl (hb hby d1_153) rfl rfl k) ?_
          refine Ends.go (f' := (mkF m 155 #[.val (.int p0), .val (.int p1), .val (.int (p0 % (10 : Int32))), .val (.int ((p0 / (10 : Int32)) % (10 : Int32))), .val (.int ((p0 / (100 : Int32)) % (10 : Int32))), .val (.int ((p0 / (1000 : Int32)) % (10 : Int32))), .val (.int ((p0 / (10000 : Int32)) % (10 : Int32)))] [(.int (1 : Int32)), (.ref b188), (.ref b188), (.ref a177), (.ref a177)])) (fun t k => XS.iconst N207.here hx rfl (hb hby d1_154) k) ?_
          refine Ends.go (f' := (mkF m 157 #[.val (.int p0), .val (.int p1), .val (.int (p0 % (10 : Int32))), .val (.int ((p0 / (10 : Int32)) % (10 : Int32))), .val (.int ((p0 / (100 : Int32)) % (10 : Int32))), .val (.int ((p0 / (1000 : Int32)) % (10 : Int32))), .val (.int ((p0 / (10000 : Int32)) % (10 : Int32)))] [(.int ((p0 / (100 : Int32)) % (10 : Int32))), (.int (1 : Int32)), (.ref b188), (.ref b188), (.ref a177), (.ref a177)])) (fun t k => XS.iload N207.here hx rfl (hb hby d1_155) rfl k) ?_
          refine gStatic (W := 5) (argsL := [(.int ((p0 / (100 : Int32)) % (10 : Int32)))]) (rest := [(.int (1 : Int32)), (.ref b188), (.ref b188), (.ref a177), (.ref a177)]) N207 hx hZ hown (hw _ (List.mem_of_getElem? (i := 9) rfl)) (hw _ (List.mem_of_getElem? (i := 10) rfl)) (hw _ (List.mem_of_getElem? (i := 3) rfl)) (hw _ (List.mem_of_getElem? (i := 11) rfl)) (by decide) ((rm2 l Z a0 hw ((p0 / (100 : Int32)) % (10 : Int32)) h206 N207.ext).back (W := 5) hZ (hw _ (List.mem_of_getElem? (i := 11) rfl)) (hw _ (List.mem_of_getElem? (i := 3) rfl)) (nle rfl) (nle rfl)) (hb hby d1_157) rfl (by rw [hml]; rfl) (lenOf (by decide +kernel : parseMethodDescriptor "(I)C" = some ⟨[.int], (some .char)⟩) rfl) (nle rfl) (nle rfl) (nle rfl) (fun _ _ _ q => q.2) ?_
          rintro _ T213 _ _ N214 ⟨⟨rfl, e_h⟩, -⟩; rw [e_h] at N214; clear e_h
          show Ends p e below _ T213 (mkF m 160 #[.val (.int p0), .val (.int p1), .val (.int (p0 % (10 : Int32))), .val (.int ((p0 / (10 : Int32)) % (10 : Int32))), .val (.int ((p0 / (100 : Int32)) % (10 : Int32))), .val (.int ((p0 / (1000 : Int32)) % (10 : Int32))), .val (.int ((p0 / (10000 : Int32)) % (10 : Int32)))] [(.int (f_d ((p0 / (100 : Int32)) % (10 : Int32)))), (.int (1 : Int32)), (.ref b188), (.ref b188), (.ref a177), (.ref a177)])
          refine gStC 1 N214 hx hZ V210 g196 (by decide) rfl (nle rfl) (hb hby d1_160) ?_
          intro T218 h219 N220 W221 V222
          rw [nar_fd] at V222
          have V223 : Arv Z h219 b188 kA189 .char (4 : Int32) [(.int (f_d ((p0 / (1000 : Int32)) % (10 : Int32)))), (.int (f_d ((p0 / (100 : Int32)) % (10 : Int32)))), (.int (0 : Int32)), (.int (0 : Int32))] (.int (0 : Int32)) := V222
          have X224 : Ext h0 h219 := ext_wr X211 W221 g194
          have X225 : Ext h176 h219 := ext_wr X212 W221 g195
          show Ends p e below _ T218 (mkF m 161 #[.val (.int p0), .val (.int p1), .val (.int (p0 % (10 : Int32))), .val (.int ((p0 / (10 : Int32)) % (10 : Int32))), .val (.int ((p0 / (100 : Int32)) % (10 : Int32))), .val (.int ((p0 / (1000 : Int32)) % (10 : Int32))), .val (.int ((p0 / (10000 : Int32)) % (10 : Int32)))] [(.ref b188), (.ref a177), (.ref a177)])
          refine Ends.go (f' := (mkF m 162 #[.val (.int p0), .val (.int p1), .val (.int (p0 % (10 : Int32))), .val (.int ((p0 / (10 : Int32)) % (10 : Int32))), .val (.int ((p0 / (100 : Int32)) % (10 : Int32))), .val (.int ((p0 / (1000 : Int32)) % (10 : Int32))), .val (.int ((p0 / (10000 : Int32)) % (10 : Int32)))] [(.ref b188), (.ref b188), (.ref a177), (.ref a177)])) (fun t k => XS.dup N220.here hx rfl (hb hby d1_161) rfl rfl k) ?_
          refine Ends.go (f' := (mkF m 163 #[.val (.int p0), .val (.int p1), .val (.int (p0 % (10 : Int32))), .val (.int ((p0 / (10 : Int32)) % (10 : Int32))), .val (.int ((p0 / (100 : Int32)) % (10 : Int32))), .val (.int ((p0 / (1000 : Int32)) % (10 : Int32))), .val (.int ((p0 / (10000 : Int32)) % (10 : Int32)))] [(.int (2 : Int32)), (.ref b188), (.ref b188), (.ref a177), (.ref a177)])) (fun t k => XS.iconst N220.here hx rfl (hb hby d1_162) k) ?_
          refine Ends.go (f' := (mkF m 164 #[.val (.int p0), .val (.int p1), .val (.int (p0 % (10 : Int32))), .val (.int ((p0 / (10 : Int32)) % (10 : Int32))), .val (.int ((p0 / (100 : Int32)) % (10 : Int32))), .val (.int ((p0 / (1000 : Int32)) % (10 : Int32))), .val (.int ((p0 / (10000 : Int32)) % (10 : Int32)))] [(.int ((p0 / (10 : Int32)) % (10 : Int32))), (.int (2 : Int32)), (.ref b188), (.ref b188), (.ref a177), (.ref a177)])) (fun t k => XS.iloadN N220.here hx rfl (hb hby d1_163) rfl k) ?_
          refine gStatic (W := 5) (argsL := [(.int ((p0 / (10 : Int32)) % (10 : Int32)))]) (rest := [(.int (2 : Int32)), (.ref b188), (.ref b188), (.ref a177), (.ref a177)]) N220 hx hZ hown (hw _ (List.mem_of_getElem? (i := 9) rfl)) (hw _ (List.mem_of_getElem? (i := 10) rfl)) (hw _ (List.mem_of_getElem? (i := 3) rfl)) (hw _ (List.mem_of_getElem? (i := 11) rfl)) (by decide) ((rm2 l Z a0 hw ((p0 / (10 : Int32)) % (10 : Int32)) h219 N220.ext).back (W := 5) hZ (hw _ (List.mem_of_getElem? (i := 11) rfl)) (hw _ (List.mem_of_getElem? (i := 3) rfl)) (nle rfl) (nle rfl)) (hb hby d1_164) rfl (by rw [hml]; rfl) (lenOf (by decide +kernel : parseMethodDescriptor "(I)C" = some ⟨[.int], (some .char)⟩) rfl) (nle rfl) (nle rfl) (nle rfl) (fun _ _ _ q => q.2) ?_
          rintro _ T226 _ _ N227 ⟨⟨rfl, e_h⟩, -⟩; rw [e_h] at N227; clear e_h
          show Ends p e below _ T226 (mkF m 167 #[.val (.int p0), .val (.int p1), .val (.int (p0 % (10 : Int32))), .val (.int ((p0 / (10 : Int32)) % (10 : Int32))), .val (.int ((p0 / (100 : Int32)) % (10 : Int32))), .val (.int ((p0 / (1000 : Int32)) % (10 : Int32))), .val (.int ((p0 / (10000 : Int32)) % (10 : Int32)))] [(.int (f_d ((p0 / (10 : Int32)) % (10 : Int32)))), (.int (2 : Int32)), (.ref b188), (.ref b188), (.ref a177), (.ref a177)])
          refine gStC 2 N227 hx hZ V223 g196 (by decide) rfl (nle rfl) (hb hby d1_167) ?_
          intro T231 h232 N233 W234 V235
          rw [nar_fd] at V235
          have V236 : Arv Z h232 b188 kA189 .char (4 : Int32) [(.int (f_d ((p0 / (1000 : Int32)) % (10 : Int32)))), (.int (f_d ((p0 / (100 : Int32)) % (10 : Int32)))), (.int (f_d ((p0 / (10 : Int32)) % (10 : Int32)))), (.int (0 : Int32))] (.int (0 : Int32)) := V235
          have X237 : Ext h0 h232 := ext_wr X224 W234 g194
          have X238 : Ext h176 h232 := ext_wr X225 W234 g195
          show Ends p e below _ T231 (mkF m 168 #[.val (.int p0), .val (.int p1), .val (.int (p0 % (10 : Int32))), .val (.int ((p0 / (10 : Int32)) % (10 : Int32))), .val (.int ((p0 / (100 : Int32)) % (10 : Int32))), .val (.int ((p0 / (1000 : Int32)) % (10 : Int32))), .val (.int ((p0 / (10000 : Int32)) % (10 : Int32)))] [(.ref b188), (.ref a177), (.ref a177)])
          refine Ends.go (f' := (mkF m 169 #[.val (.int p0), .val (.int p1), .val (.int (p0 % (10 : Int32))), .val (.int ((p0 / (10 : Int32)) % (10 : Int32))), .val (.int ((p0 / (100 : Int32)) % (10 : Int32))), .val (.int ((p0 / (1000 : Int32)) % (10 : Int32))), .val (.int ((p0 / (10000 : Int32)) % (10 : Int32)))] [(.ref b188), (.ref b188), (.ref a177), (.ref a177)])) (fun t k => XS.dup N233.here hx rfl (hb hby d1_168) rfl rfl k) ?_
          refine Ends.go (f' := (mkF m 170 #[.val (.int p0), .val (.int p1), .val (.int (p0 % (10 : Int32))), .val (.int ((p0 / (10 : Int32)) % (10 : Int32))), .val (.int ((p0 / (100 : Int32)) % (10 : Int32))), .val (.int ((p0 / (1000 : Int32)) % (10 : Int32))), .val (.int ((p0 / (10000 : Int32)) % (10 : Int32)))] [(.int (3 : Int32)), (.ref b188), (.ref b188), (.ref a177), (.ref a177)])) (fun t k => XS.iconst N233.here hx rfl (hb hby d1_169) k) ?_
          refine Ends.go (f' := (mkF m 171 #[.val (.int p0), .val (.int p1), .val (.int (p0 % (10 : Int32))), .val (.int ((p0 / (10 : Int32)) % (10 : Int32))), .val (.int ((p0 / (100 : Int32)) % (10 : Int32))), .val (.int ((p0 / (1000 : Int32)) % (10 : Int32))), .val (.int ((p0 / (10000 : Int32)) % (10 : Int32)))] [(.int (p0 % (10 : Int32))), (.int (3 : Int32)), (.ref b188), (.ref b188), (.ref a177), (.ref a177)])) (fun t k => XS.iloadN N233.here hx rfl (hb hby d1_170) rfl k) ?_
          refine gStatic (W := 5) (argsL := [(.int (p0 % (10 : Int32)))]) (rest := [(.int (3 : Int32)), (.ref b188), (.ref b188), (.ref a177), (.ref a177)]) N233 hx hZ hown (hw _ (List.mem_of_getElem? (i := 9) rfl)) (hw _ (List.mem_of_getElem? (i := 10) rfl)) (hw _ (List.mem_of_getElem? (i := 3) rfl)) (hw _ (List.mem_of_getElem? (i := 11) rfl)) (by decide) ((rm2 l Z a0 hw (p0 % (10 : Int32)) h232 N233.ext).back (W := 5) hZ (hw _ (List.mem_of_getElem? (i := 11) rfl)) (hw _ (List.mem_of_getElem? (i := 3) rfl)) (nle rfl) (nle rfl)) (hb hby d1_171) rfl (by rw [hml]; rfl) (lenOf (by decide +kernel : parseMethodDescriptor "(I)C" = some ⟨[.int], (some .char)⟩) rfl) (nle rfl) (nle rfl) (nle rfl) (fun _ _ _ q => q.2) ?_
          rintro _ T239 _ _ N240 ⟨⟨rfl, e_h⟩, -⟩; rw [e_h] at N240; clear e_h
          show Ends p e below _ T239 (mkF m 174 #[.val (.int p0), .val (.int p1), .val (.int (p0 % (10 : Int32))), .val (.int ((p0 / (10 : Int32)) % (10 : Int32))), .val (.int ((p0 / (100 : Int32)) % (10 : Int32))), .val (.int ((p0 / (1000 : Int32)) % (10 : Int32))), .val (.int ((p0 / (10000 : Int32)) % (10 : Int32)))] [(.int (f_d (p0 % (10 : Int32)))), (.int (3 : Int32)), (.ref b188), (.ref b188), (.ref a177), (.ref a177)])
          refine gStC 3 N240 hx hZ V236 g196 (by decide) rfl (nle rfl) (hb hby d1_174) ?_
          intro T244 h245 N246 W247 V248
          rw [nar_fd] at V248
          have V249 : Arv Z h245 b188 kA189 .char (4 : Int32) [(.int (f_d ((p0 / (1000 : Int32)) % (10 : Int32)))), (.int (f_d ((p0 / (100 : Int32)) % (10 : Int32)))), (.int (f_d ((p0 / (10 : Int32)) % (10 : Int32)))), (.int (f_d (p0 % (10 : Int32))))] (.int (0 : Int32)) := V248
          have X250 : Ext h0 h245 := ext_wr X237 W247 g194
          have X251 : Ext h176 h245 := ext_wr X238 W247 g195
          show Ends p e below _ T244 (mkF m 175 #[.val (.int p0), .val (.int p1), .val (.int (p0 % (10 : Int32))), .val (.int ((p0 / (10 : Int32)) % (10 : Int32))), .val (.int ((p0 / (100 : Int32)) % (10 : Int32))), .val (.int ((p0 / (1000 : Int32)) % (10 : Int32))), .val (.int ((p0 / (10000 : Int32)) % (10 : Int32)))] [(.ref b188), (.ref a177), (.ref a177)])
          refine gSpecial (W := 1) (y := (⟨"java/lang/String", "<init>", "([C)V"⟩ : MethodName)) (a := a177) (argsL := [(.ref b188)]) (rest := [(.ref a177)]) rfl N246 hx hZ hown (hw _ (List.mem_of_getElem? (i := 12) rfl)) (hw _ (List.mem_of_getElem? (i := 13) rfl)) (hw _ (List.mem_of_getElem? (i := 14) rfl)) (by decide) (strNew (W := 1) (cs := [(f_d ((p0 / (1000 : Int32)) % (10 : Int32))), (f_d ((p0 / (100 : Int32)) % (10 : Int32))), (f_d ((p0 / (10 : Int32)) % (10 : Int32))), (f_d (p0 % (10 : Int32)))]) hZ hw G N246.ext g184 (A181.ext X251) ((D182 (Or.inr (hw _ (List.mem_of_getElem? (i := 37) rfl))) (ty := .array .byte) (by decide)).ext X251) ((D182 (Or.inr (hw _ (List.mem_of_getElem? (i := 35) rfl))) (ty := .byte) (by decide)).ext X251) V249 (nle rfl) (nle rfl) (hp_cons (fd_ok (dgk (d := 1000) rfl (by decide) (by decide) hn)) (hp_cons (fd_ok (dgk (d := 100) rfl (by decide) (by decide) hn)) (hp_cons (fd_ok (dgk (d := 10) rfl (by decide) (by decide) hn)) (hp_cons (fd_ok (dg0 hn)) hp_nil)))) (nle rfl) (nle rfl)) (hb hby d1_175) rfl (by rw [hml]; rfl) (lenOf (by decide +kernel : parseMethodDescriptor "([C)V" = some ⟨[(.array .char)], none⟩) rfl) (nle rfl) (nle rfl) (nle rfl) (fun _ _ _ q => q.2.2.2) ?_
          rintro _ T252 h253 L254 N255 ⟨rfl, K256, S257, -⟩
          have X258 : Ext h0 h253 := ext_keep X250 K256 g183
          show Ends p e below _ T252 (mkF m 178 #[.val (.int p0), .val (.int p1), .val (.int (p0 % (10 : Int32))), .val (.int ((p0 / (10 : Int32)) % (10 : Int32))), .val (.int ((p0 / (100 : Int32)) % (10 : Int32))), .val (.int ((p0 / (1000 : Int32)) % (10 : Int32))), .val (.int ((p0 / (10000 : Int32)) % (10 : Int32)))] [(.ref a177)])
          have q9 : spellCs p0 p1 = [(f_d ((p0 / (1000 : Int32)) % (10 : Int32))), (f_d ((p0 / (100 : Int32)) % (10 : Int32))), (f_d ((p0 / (10 : Int32)) % (10 : Int32))), (f_d (p0 % (10 : Int32)))] := by simp only [spellCs, if_neg c1, if_neg c2, if_neg c3, if_pos c4]
          exact retA N255 hx hlk hret rfl rfl (hb hby d1_178) ⟨_, rfl, X258, by rw [q9]; exact S257⟩ (nle rfl) (nle rfl)
        · skip
          refine Ends.go (f' := (mkF m 179 #[.val (.int p0), .val (.int p1), .val (.int (p0 % (10 : Int32))), .val (.int ((p0 / (10 : Int32)) % (10 : Int32))), .val (.int ((p0 / (100 : Int32)) % (10 : Int32))), .val (.int ((p0 / (1000 : Int32)) % (10 : Int32))), .val (.int ((p0 / (10000 : Int32)) % (10 : Int32)))] [])) (fun t k => XS.icmpYes N0.here hx rfl (pc0 := 135) (pc' := 179) rfl (hb hby d1_135) rfl (XT.ii_ne_t c4) (by decide) (by decide) k) ?_
          refine gNew (a0 := a0) N0 hx hZ hown (hw _ (List.mem_of_getElem? (i := 5) rfl)) (hw _ (List.mem_of_getElem? (i := 6) rfl)) (hw _ (List.mem_of_getElem? (i := 7) rfl)) (hb hby d1_179) (nle rfl) (nle rfl) ?_
          intro T259 h260 a261 ea262 N263 E264 A265 D266
          have g267 : h0.size ≤ a261 := by rw [ea262]; exact (ext_refl h0).1
          have g268 : Z.heap.size ≤ a261 := by rw [ea262]; exact N0.le
          have X269 : Ext h0 h260 := ext_trans (ext_refl h0) E264
          show Ends p e below _ T259 (mkF m 182 #[.val (.int p0), .val (.int p1), .val (.int (p0 % (10 : Int32))), .val (.int ((p0 / (10 : Int32)) % (10 : Int32))), .val (.int ((p0 / (100 : Int32)) % (10 : Int32))), .val (.int ((p0 / (1000 : Int32)) % (10 : Int32))), .val (.int ((p0 / (10000 : Int32)) % (10 : Int32)))] [(.ref a261)])
          refine Ends.go (f' := (mkF m 183 #[.val (.int p0), .val (.int p1), .val (.int (p0 % (10 : Int32))), .val (.int ((p0 / (10 : Int32)) % (10 : Int32))), .val (.int ((p0 / (100 : Int32)) % (10 : Int32))), .val (.int ((p0 / (1000 : Int32)) % (10 : Int32))), .val (.int ((p0 / (10000 : Int32)) % (10 : Int32)))] [(.ref a261), (.ref a261)])) (fun t k => XS.dup N263.here hx rfl (hb hby d1_182) rfl rfl k) ?_
          refine Ends.go (f' := (mkF m 184 #[.val (.int p0), .val (.int p1), .val (.int (p0 % (10 : Int32))), .val (.int ((p0 / (10 : Int32)) % (10 : Int32))), .val (.int ((p0 / (100 : Int32)) % (10 : Int32))), .val (.int ((p0 / (1000 : Int32)) % (10 : Int32))), .val (.int ((p0 / (10000 : Int32)) % (10 : Int32)))] [(.int (5 : Int32)), (.ref a261), (.ref a261)])) (fun t k => XS.iconst N263.here hx rfl (hb hby d1_183) k) ?_
          refine gArr 5 N263 hx hZ (hw _ (List.mem_of_getElem? (i := 8) rfl)) (hb hby d1_184) (by decide) (nle rfl) (nle rfl) (nle rfl) (nle rfl) ?_
          intro T270 h271 b272 kA273 eb274 N275 E276 V277
          have g278 : h0.size ≤ b272 := by rw [eb274]; exact X269.1
          have g279 : h260.size ≤ b272 := by rw [eb274]; exact (ext_refl h260).1
          have g280 : Z.heap.size ≤ b272 := by rw [eb274]; exact N263.le
          have X281 : Ext h0 h271 := ext_trans X269 E276
          have X282 : Ext h260 h271 := ext_trans (ext_refl h260) E276
          have V283 : Arv Z h271 b272 kA273 .char (5 : Int32) [(.int (0 : Int32)), (.int (0 : Int32)), (.int (0 : Int32)), (.int (0 : Int32)), (.int (0 : Int32))] (.int (0 : Int32)) := V277.pad (pad_rep [] (.int (0 : Int32)) 5)
          show Ends p e below _ T270 (mkF m 186 #[.val (.int p0), .val (.int p1), .val (.int (p0 % (10 : Int32))), .val (.int ((p0 / (10 : Int32)) % (10 : Int32))), .val (.int ((p0 / (100 : Int32)) % (10 : Int32))), .val (.int ((p0 / (1000 : Int32)) % (10 : Int32))), .val (.int ((p0 / (10000 : Int32)) % (10 : Int32)))] [(.ref b272), (.ref a261), (.ref a261)])
          refine Ends.go (f' := (mkF m 187 #[.val (.int p0), .val (.int p1), .val (.int (p0 % (10 : Int32))), .val (.int ((p0 / (10 : Int32)) % (10 : Int32))), .val (.int ((p0 / (100 : Int32)) % (10 : Int32))), .val (.int ((p0 / (1000 : Int32)) % (10 : Int32))), .val (.int ((p0 / (10000 : Int32)) % (10 : Int32)))] [(.ref b272), (.ref b272), (.ref a261), (.ref a261)])) (fun t k => XS.dup N275.here hx rfl (hb hby d1_186) rfl rfl k) ?_
          refine Ends.go (f' := (mkF m 188 #[.val (.int p0), .val (.int p1), .val (.int (p0 % (10 : Int32))), .val (.int ((p0 / (10 : Int32)) % (10 : Int32))), .val (.int ((p0 / (100 : Int32)) % (10 : Int32))), .val (.int ((p0 / (1000 : Int32)) % (10 : Int32))), .val (.int ((p0 / (10000 : Int32)) % (10 : Int32)))] [(.int (0 : Int32)), (.ref b272), (.ref b272), (.ref a261), (.ref a261)])) (fun t k => XS.iconst N275.here hx rfl (hb hby d1_187) k) ?_
          refine Ends.go (f' := (mkF m 190 #[.val (.int p0), .val (.int p1), .val (.int (p0 % (10 : Int32))), .val (.int ((p0 / (10 : Int32)) % (10 : Int32))), .val (.int ((p0 / (100 : Int32)) % (10 : Int32))), .val (.int ((p0 / (1000 : Int32)) % (10 : Int32))), .val (.int ((p0 / (10000 : Int32)) % (10 : Int32)))] [(.int ((p0 / (10000 : Int32)) % (10 : Int32))), (.int (0 : Int32)), (.ref b272), (.ref b272), (.ref a261), (.ref a261)])) (fun t k => XS.iload N275.here hx rfl (hb hby d1_188) rfl k) ?_
          refine gStatic (W := 5) (argsL := [(.int ((p0 / (10000 : Int32)) % (10 : Int32)))]) (rest := [(.int (0 : Int32)), (.ref b272), (.ref b272), (.ref a261), (.ref a261)]) N275 hx hZ hown (hw _ (List.mem_of_getElem? (i := 9) rfl)) (hw _ (List.mem_of_getElem? (i := 10) rfl)) (hw _ (List.mem_of_getElem? (i := 3) rfl)) (hw _ (List.mem_of_getElem? (i := 11) rfl)) (by decide) ((rm2 l Z a0 hw ((p0 / (10000 : Int32)) % (10 : Int32)) h271 N275.ext).back (W := 5) hZ (hw _ (List.mem_of_getElem? (i := 11) rfl)) (hw _ (List.mem_of_getElem? (i := 3) rfl)) (nle rfl) (nle rfl)) (hb hby d1_190) rfl (by rw [hml]; rfl) (lenOf (by decide +kernel : parseMethodDescriptor "(I)C" = some ⟨[.int], (some .char)⟩) rfl) (nle rfl) (nle rfl) (nle rfl) (fun _ _ _ q => q.2) ?_
          rintro _ T284 _ _ N285 ⟨⟨rfl, e_h⟩, -⟩; rw [e_h] at N285; clear e_h
          show Ends p e below _ T284 (mkF m 193 #[.val (.int p0), .val (.int p1), .val (.int (p0 % (10 : Int32))), .val (.int ((p0 / (10 : Int32)) % (10 : Int32))), .val (.int ((p0 / (100 : Int32)) % (10 : Int32))), .val (.int ((p0 / (1000 : Int32)) % (10 : Int32))), .val (.int ((p0 / (10000 : Int32)) % (10 : Int32)))] [(.int (f_d ((p0 / (10000 : Int32)) % (10 : Int32)))), (.int (0 : Int32)), (.ref b272), (.ref b272), (.ref a261), (.ref a261)])
          refine gStC 0 N285 hx hZ V283 g280 (by decide) rfl (nle rfl) (hb hby d1_193) ?_
          intro T289 h290 N291 W292 V293
          rw [nar_fd] at V293
          have V294 : Arv Z h290 b272 kA273 .char (5 : Int32) [(.int (f_d ((p0 / (10000 : Int32)) % (10 : Int32)))), (.int (0 : Int32)), (.int (0 : Int32)), (.int (0 : Int32)), (.int (0 : Int32))] (.int (0 : Int32)) := V293
          have X295 : Ext h0 h290 := ext_wr X281 W292 g278
          have X296 : Ext h260 h290 := ext_wr X282 W292 g279
          show Ends p e below _ T289 (mkF m 194 #[.val (.int p0), .val (.int p1), .val (.int (p0 % (10 : Int32))), .val (.int ((p0 / (10 : Int32)) % (10 : Int32))), .val (.int ((p0 / (100 : Int32)) % (10 : Int32))), .val (.int ((p0 / (1000 : Int32)) % (10 : Int32))), .val (.int ((p0 / (10000 : Int32)) % (10 : Int32)))] [(.ref b272), (.ref a261), (.ref a261)])
          refine Ends.go (f' := (mkF m 195 #[.val (.int p0), .val (.int p1), .val (.int (p0 % (10 : Int32))), .val (.int ((p0 / (10 : Int32)) % (10 : Int32))), .val (.int ((p0 / (100 : Int32)) % (10 : Int32))), .val (.int ((p0 / (1000 : Int32)) % (10 : Int32))), .val (.int ((p0 / (10000 : Int32)) % (10 : Int32)))] [(.ref b272), (.ref b272), (.ref a261), (.ref a261)])) (fun t k => XS.dup N291.here hx rfl (hb hby d1_194) rfl rfl k) ?_
          refine Ends.go (f' := (mkF m 196 #[.val (.int p0), .val (.int p1), .val (.int (p0 % (10 : Int32))), .val (.int ((p0 / (10 : Int32)) % (10 : Int32))), .val (.int ((p0 / (100 : Int32)) % (10 : Int32))), .val (.int ((p0 / (1000 : Int32)) % (10 : Int32))), .val (.int ((p0 / (10000 : Int32)) % (10 : Int32)))] [(.int (1 : Int32)), (.ref b272), (.ref b272), (.ref a261), (.ref a261)])) (fun t k => XS.iconst N291.here hx rfl (hb hby d1_195) k) ?_
          refine Ends.go (f' := (mkF m 198 #[.val (.int p0), .val (.int p1), .val (.int (p0 % (10 : Int32))), .val (.int ((p0 / (10 : Int32)) % (10 : Int32))), .val (.int ((p0 / (100 : Int32)) % (10 : Int32))), .val (.int ((p0 / (1000 : Int32)) % (10 : Int32))), .val (.int ((p0 / (10000 : Int32)) % (10 : Int32)))] [(.int ((p0 / (1000 : Int32)) % (10 : Int32))), (.int (1 : Int32)), (.ref b272), (.ref b272), (.ref a261), (.ref a261)])) (fun t k => XS.iload N291.here hx rfl (hb hby d1_196) rfl k) ?_
          refine gStatic (W := 5) (argsL := [(.int ((p0 / (1000 : Int32)) % (10 : Int32)))]) (rest := [(.int (1 : Int32)), (.ref b272), (.ref b272), (.ref a261), (.ref a261)]) N291 hx hZ hown (hw _ (List.mem_of_getElem? (i := 9) rfl)) (hw _ (List.mem_of_getElem? (i := 10) rfl)) (hw _ (List.mem_of_getElem? (i := 3) rfl)) (hw _ (List.mem_of_getElem? (i := 11) rfl)) (by decide) ((rm2 l Z a0 hw ((p0 / (1000 : Int32)) % (10 : Int32)) h290 N291.ext).back (W := 5) hZ (hw _ (List.mem_of_getElem? (i := 11) rfl)) (hw _ (List.mem_of_getElem? (i := 3) rfl)) (nle rfl) (nle rfl)) (hb hby d1_198) rfl (by rw [hml]; rfl) (lenOf (by decide +kernel : parseMethodDescriptor "(I)C" = some ⟨[.int], (some .char)⟩) rfl) (nle rfl) (nle rfl) (nle rfl) (fun _ _ _ q => q.2) ?_
          rintro _ T297 _ _ N298 ⟨⟨rfl, e_h⟩, -⟩; rw [e_h] at N298; clear e_h
          show Ends p e below _ T297 (mkF m 201 #[.val (.int p0), .val (.int p1), .val (.int (p0 % (10 : Int32))), .val (.int ((p0 / (10 : Int32)) % (10 : Int32))), .val (.int ((p0 / (100 : Int32)) % (10 : Int32))), .val (.int ((p0 / (1000 : Int32)) % (10 : Int32))), .val (.int ((p0 / (10000 : Int32)) % (10 : Int32)))] [(.int (f_d ((p0 / (1000 : Int32)) % (10 : Int32)))), (.int (1 : Int32)), (.ref b272), (.ref b272), (.ref a261), (.ref a261)])
          refine gStC 1 N298 hx hZ V294 g280 (by decide) rfl (nle rfl) (hb hby d1_201) ?_
          intro T302 h303 N304 W305 V306
          rw [nar_fd] at V306
          have V307 : Arv Z h303 b272 kA273 .char (5 : Int32) [(.int (f_d ((p0 / (10000 : Int32)) % (10 : Int32)))), (.int (f_d ((p0 / (1000 : Int32)) % (10 : Int32)))), (.int (0 : Int32)), (.int (0 : Int32)), (.int (0 : Int32))] (.int (0 : Int32)) := V306
          have X308 : Ext h0 h303 := ext_wr X295 W305 g278
          have X309 : Ext h260 h303 := ext_wr X296 W305 g279
          show Ends p e below _ T302 (mkF m 202 #[.val (.int p0), .val (.int p1), .val (.int (p0 % (10 : Int32))), .val (.int ((p0 / (10 : Int32)) % (10 : Int32))), .val (.int ((p0 / (100 : Int32)) % (10 : Int32))), .val (.int ((p0 / (1000 : Int32)) % (10 : Int32))), .val (.int ((p0 / (10000 : Int32)) % (10 : Int32)))] [(.ref b272), (.ref a261), (.ref a261)])
          refine Ends.go (f' := (mkF m 203 #[.val (.int p0), .val (.int p1), .val (.int (p0 % (10 : Int32))), .val (.int ((p0 / (10 : Int32)) % (10 : Int32))), .val (.int ((p0 / (100 : Int32)) % (10 : Int32))), .val (.int ((p0 / (1000 : Int32)) % (10 : Int32))), .val (.int ((p0 / (10000 : Int32)) % (10 : Int32)))] [(.ref b272), (.ref b272), (.ref a261), (.ref a261)])) (fun t k => XS.dup N304.here hx rfl (hb hby d1_202) rfl rfl k) ?_
          refine Ends.go (f' := (mkF m 204 #[.val (.int p0), .val (.int p1), .val (.int (p0 % (10 : Int32))), .val (.int ((p0 / (10 : Int32)) % (10 : Int32))), .val (.int ((p0 / (100 : Int32)) % (10 : Int32))), .val (.int ((p0 / (1000 : Int32)) % (10 : Int32))), .val (.int ((p0 / (10000 : Int32)) % (10 : Int32)))] [(.int (2 : Int32)), (.ref b272), (.ref b272), (.ref a261), (.ref a261)])) (fun t k => XS.iconst N304.here hx rfl (hb hby d1_203) k) ?_
          refine Ends.go (f' := (mkF m 206 #[.val (.int p0), .val (.int p1), .val (.int (p0 % (10 : Int32))), .val (.int ((p0 / (10 : Int32)) % (10 : Int32))), .val (.int ((p0 / (100 : Int32)) % (10 : Int32))), .val (.int ((p0 / (1000 : Int32)) % (10 : Int32))), .val (.int ((p0 / (10000 : Int32)) % (10 : Int32)))] [(.int ((p0 / (100 : Int32)) % (10 : Int32))), (.int (2 : Int32)), (.ref b272), (.ref b272), (.ref a261), (.ref a261)])) (fun t k => XS.iload N304.here hx rfl (hb hby d1_204) rfl k) ?_
          refine gStatic (W := 5) (argsL := [(.int ((p0 / (100 : Int32)) % (10 : Int32)))]) (rest := [(.int (2 : Int32)), (.ref b272), (.ref b272), (.ref a261), (.ref a261)]) N304 hx hZ hown (hw _ (List.mem_of_getElem? (i := 9) rfl)) (hw _ (List.mem_of_getElem? (i := 10) rfl)) (hw _ (List.mem_of_getElem? (i := 3) rfl)) (hw _ (List.mem_of_getElem? (i := 11) rfl)) (by decide) ((rm2 l Z a0 hw ((p0 / (100 : Int32)) % (10 : Int32)) h303 N304.ext).back (W := 5) hZ (hw _ (List.mem_of_getElem? (i := 11) rfl)) (hw _ (List.mem_of_getElem? (i := 3) rfl)) (nle rfl) (nle rfl)) (hb hby d1_206) rfl (by rw [hml]; rfl) (lenOf (by decide +kernel : parseMethodDescriptor "(I)C" = some ⟨[.int], (some .char)⟩) rfl) (nle rfl) (nle rfl) (nle rfl) (fun _ _ _ q => q.2) ?_
          rintro _ T310 _ _ N311 ⟨⟨rfl, e_h⟩, -⟩; rw [e_h] at N311; clear e_h
          show Ends p e below _ T310 (mkF m 209 #[.val (.int p0), .val (.int p1), .val (.int (p0 % (10 : Int32))), .val (.int ((p0 / (10 : Int32)) % (10 : Int32))), .val (.int ((p0 / (100 : Int32)) % (10 : Int32))), .val (.int ((p0 / (1000 : Int32)) % (10 : Int32))), .val (.int ((p0 / (10000 : Int32)) % (10 : Int32)))] [(.int (f_d ((p0 / (100 : Int32)) % (10 : Int32)))), (.int (2 : Int32)), (.ref b272), (.ref b272), (.ref a261), (.ref a261)])
          refine gStC 2 N311 hx hZ V307 g280 (by decide) rfl (nle rfl) (hb hby d1_209) ?_
          intro T315 h316 N317 W318 V319
          rw [nar_fd] at V319
          have V320 : Arv Z h316 b272 kA273 .char (5 : Int32) [(.int (f_d ((p0 / (10000 : Int32)) % (10 : Int32)))), (.int (f_d ((p0 / (1000 : Int32)) % (10 : Int32)))), (.int (f_d ((p0 / (100 : Int32)) % (10 : Int32)))), (.int (0 : Int32)), (.int (0 : Int32))] (.int (0 : Int32)) := V319
          have X321 : Ext h0 h316 := ext_wr X308 W318 g278
          have X322 : Ext h260 h316 := ext_wr X309 W318 g279
          show Ends p e below _ T315 (mkF m 210 #[.val (.int p0), .val (.int p1), .val (.int (p0 % (10 : Int32))), .val (.int ((p0 / (10 : Int32)) % (10 : Int32))), .val (.int ((p0 / (100 : Int32)) % (10 : Int32))), .val (.int ((p0 / (1000 : Int32)) % (10 : Int32))), .val (.int ((p0 / (10000 : Int32)) % (10 : Int32)))] [(.ref b272), (.ref a261), (.ref a261)])
          refine Ends.go (f' := (mkF m 211 #[.val (.int p0), .val (.int p1), .val (.int (p0 % (10 : Int32))), .val (.int ((p0 / (10 : Int32)) % (10 : Int32))), .val (.int ((p0 / (100 : Int32)) % (10 : Int32))), .val (.int ((p0 / (1000 : Int32)) % (10 : Int32))), .val (.int ((p0 / (10000 : Int32)) % (10 : Int32)))] [(.ref b272), (.ref b272), (.ref a261), (.ref a261)])) (fun t k => XS.dup N317.here hx rfl (hb hby d1_210) rfl rfl k) ?_
          refine Ends.go (f' := (mkF m 212 #[.val (.int p0), .val (.int p1), .val (.int (p0 % (10 : Int32))), .val (.int ((p0 / (10 : Int32)) % (10 : Int32))), .val (.int ((p0 / (100 : Int32)) % (10 : Int32))), .val (.int ((p0 / (1000 : Int32)) % (10 : Int32))), .val (.int ((p0 / (10000 : Int32)) % (10 : Int32)))] [(.int (3 : Int32)), (.ref b272), (.ref b272), (.ref a261), (.ref a261)])) (fun t k => XS.iconst N317.here hx rfl (hb hby d1_211) k) ?_
          refine Ends.go (f' := (mkF m 213 #[.val (.int p0), .val (.int p1), .val (.int (p0 % (10 : Int32))), .val (.int ((p0 / (10 : Int32)) % (10 : Int32))), .val (.int ((p0 / (100 : Int32)) % (10 : Int32))), .val (.int ((p0 / (1000 : Int32)) % (10 : Int32))), .val (.int ((p0 / (10000 : Int32)) % (10 : Int32)))] [(.int ((p0 / (10 : Int32)) % (10 : Int32))), (.int (3 : Int32)), (.ref b272), (.ref b272), (.ref a261), (.ref a261)])) (fun t k => XS.iloadN N317.here hx rfl (hb hby d1_212) rfl k) ?_
          refine gStatic (W := 5) (argsL := [(.int ((p0 / (10 : Int32)) % (10 : Int32)))]) (rest := [(.int (3 : Int32)), (.ref b272), (.ref b272), (.ref a261), (.ref a261)]) N317 hx hZ hown (hw _ (List.mem_of_getElem? (i := 9) rfl)) (hw _ (List.mem_of_getElem? (i := 10) rfl)) (hw _ (List.mem_of_getElem? (i := 3) rfl)) (hw _ (List.mem_of_getElem? (i := 11) rfl)) (by decide) ((rm2 l Z a0 hw ((p0 / (10 : Int32)) % (10 : Int32)) h316 N317.ext).back (W := 5) hZ (hw _ (List.mem_of_getElem? (i := 11) rfl)) (hw _ (List.mem_of_getElem? (i := 3) rfl)) (nle rfl) (nle rfl)) (hb hby d1_213) rfl (by rw [hml]; rfl) (lenOf (by decide +kernel : parseMethodDescriptor "(I)C" = some ⟨[.int], (some .char)⟩) rfl) (nle rfl) (nle rfl) (nle rfl) (fun _ _ _ q => q.2) ?_
          rintro _ T323 _ _ N324 ⟨⟨rfl, e_h⟩, -⟩; rw [e_h] at N324; clear e_h
          show Ends p e below _ T323 (mkF m 216 #[.val (.int p0), .val (.int p1), .val (.int (p0 % (10 : Int32))), .val (.int ((p0 / (10 : Int32)) % (10 : Int32))), .val (.int ((p0 / (100 : Int32)) % (10 : Int32))), .val (.int ((p0 / (1000 : Int32)) % (10 : Int32))), .val (.int ((p0 / (10000 : Int32)) % (10 : Int32)))] [(.int (f_d ((p0 / (10 : Int32)) % (10 : Int32)))), (.int (3 : Int32)), (.ref b272), (.ref b272), (.ref a261), (.ref a261)])
          refine gStC 3 N324 hx hZ V320 g280 (by decide) rfl (nle rfl) (hb hby d1_216) ?_
          intro T328 h329 N330 W331 V332
          rw [nar_fd] at V332
          have V333 : Arv Z h329 b272 kA273 .char (5 : Int32) [(.int (f_d ((p0 / (10000 : Int32)) % (10 : Int32)))), (.int (f_d ((p0 / (1000 : Int32)) % (10 : Int32)))), (.int (f_d ((p0 / (100 : Int32)) % (10 : Int32)))), (.int (f_d ((p0 / (10 : Int32)) % (10 : Int32)))), (.int (0 : Int32))] (.int (0 : Int32)) := V332
          have X334 : Ext h0 h329 := ext_wr X321 W331 g278
          have X335 : Ext h260 h329 := ext_wr X322 W331 g279
          show Ends p e below _ T328 (mkF m 217 #[.val (.int p0), .val (.int p1), .val (.int (p0 % (10 : Int32))), .val (.int ((p0 / (10 : Int32)) % (10 : Int32))), .val (.int ((p0 / (100 : Int32)) % (10 : Int32))), .val (.int ((p0 / (1000 : Int32)) % (10 : Int32))), .val (.int ((p0 / (10000 : Int32)) % (10 : Int32)))] [(.ref b272), (.ref a261), (.ref a261)])
          refine Ends.go (f' := (mkF m 218 #[.val (.int p0), .val (.int p1), .val (.int (p0 % (10 : Int32))), .val (.int ((p0 / (10 : Int32)) % (10 : Int32))), .val (.int ((p0 / (100 : Int32)) % (10 : Int32))), .val (.int ((p0 / (1000 : Int32)) % (10 : Int32))), .val (.int ((p0 / (10000 : Int32)) % (10 : Int32)))] [(.ref b272), (.ref b272), (.ref a261), (.ref a261)])) (fun t k => XS.dup N330.here hx rfl (hb hby d1_217) rfl rfl k) ?_
          refine Ends.go (f' := (mkF m 219 #[.val (.int p0), .val (.int p1), .val (.int (p0 % (10 : Int32))), .val (.int ((p0 / (10 : Int32)) % (10 : Int32))), .val (.int ((p0 / (100 : Int32)) % (10 : Int32))), .val (.int ((p0 / (1000 : Int32)) % (10 : Int32))), .val (.int ((p0 / (10000 : Int32)) % (10 : Int32)))] [(.int (4 : Int32)), (.ref b272), (.ref b272), (.ref a261), (.ref a261)])) (fun t k => XS.iconst N330.here hx rfl (hb hby d1_218) k) ?_
          refine Ends.go (f' := (mkF m 220 #[.val (.int p0), .val (.int p1), .val (.int (p0 % (10 : Int32))), .val (.int ((p0 / (10 : Int32)) % (10 : Int32))), .val (.int ((p0 / (100 : Int32)) % (10 : Int32))), .val (.int ((p0 / (1000 : Int32)) % (10 : Int32))), .val (.int ((p0 / (10000 : Int32)) % (10 : Int32)))] [(.int (p0 % (10 : Int32))), (.int (4 : Int32)), (.ref b272), (.ref b272), (.ref a261), (.ref a261)])) (fun t k => XS.iloadN N330.here hx rfl (hb hby d1_219) rfl k) ?_
          refine gStatic (W := 5) (argsL := [(.int (p0 % (10 : Int32)))]) (rest := [(.int (4 : Int32)), (.ref b272), (.ref b272), (.ref a261), (.ref a261)]) N330 hx hZ hown (hw _ (List.mem_of_getElem? (i := 9) rfl)) (hw _ (List.mem_of_getElem? (i := 10) rfl)) (hw _ (List.mem_of_getElem? (i := 3) rfl)) (hw _ (List.mem_of_getElem? (i := 11) rfl)) (by decide) ((rm2 l Z a0 hw (p0 % (10 : Int32)) h329 N330.ext).back (W := 5) hZ (hw _ (List.mem_of_getElem? (i := 11) rfl)) (hw _ (List.mem_of_getElem? (i := 3) rfl)) (nle rfl) (nle rfl)) (hb hby d1_220) rfl (by rw [hml]; rfl) (lenOf (by decide +kernel : parseMethodDescriptor "(I)C" = some ⟨[.int], (some .char)⟩) rfl) (nle rfl) (nle rfl) (nle rfl) (fun _ _ _ q => q.2) ?_
          rintro _ T336 _ _ N337 ⟨⟨rfl, e_h⟩, -⟩; rw [e_h] at N337; clear e_h
          show Ends p e below _ T336 (mkF m 223 #[.val (.int p0), .val (.int p1), .val (.int (p0 % (10 : Int32))), .val (.int ((p0 / (10 : Int32)) % (10 : Int32))), .val (.int ((p0 / (100 : Int32)) % (10 : Int32))), .val (.int ((p0 / (1000 : Int32)) % (10 : Int32))), .val (.int ((p0 / (10000 : Int32)) % (10 : Int32)))] [(.int (f_d (p0 % (10 : Int32)))), (.int (4 : Int32)), (.ref b272), (.ref b272), (.ref a261), (.ref a261)])
          refine gStC 4 N337 hx hZ V333 g280 (by decide) rfl (nle rfl) (hb hby d1_223) ?_
          intro T341 h342 N343 W344 V345
          rw [nar_fd] at V345
          have V346 : Arv Z h342 b272 kA273 .char (5 : Int32) [(.int (f_d ((p0 / (10000 : Int32)) % (10 : Int32)))), (.int (f_d ((p0 / (1000 : Int32)) % (10 : Int32)))), (.int (f_d ((p0 / (100 : Int32)) % (10 : Int32)))), (.int (f_d ((p0 / (10 : Int32)) % (10 : Int32)))), (.int (f_d (p0 % (10 : Int32))))] (.int (0 : Int32)) := V345
          have X347 : Ext h0 h342 := ext_wr X334 W344 g278
          have X348 : Ext h260 h342 := ext_wr X335 W344 g279
          show Ends p e below _ T341 (mkF m 224 #[.val (.int p0), .val (.int p1), .val (.int (p0 % (10 : Int32))), .val (.int ((p0 / (10 : Int32)) % (10 : Int32))), .val (.int ((p0 / (100 : Int32)) % (10 : Int32))), .val (.int ((p0 / (1000 : Int32)) % (10 : Int32))), .val (.int ((p0 / (10000 : Int32)) % (10 : Int32)))] [(.ref b272), (.ref a261), (.ref a261)])
          refine gSpecial (W := 1) (y := (⟨"java/lang/String", "<init>", "([C)V"⟩ : MethodName)) (a := a261) (argsL := [(.ref b272)]) (rest := [(.ref a261)]) rfl N343 hx hZ hown (hw _ (List.mem_of_getElem? (i := 12) rfl)) (hw _ (List.mem_of_getElem? (i := 13) rfl)) (hw _ (List.mem_of_getElem? (i := 14) rfl)) (by decide) (strNew (W := 1) (cs := [(f_d ((p0 / (10000 : Int32)) % (10 : Int32))), (f_d ((p0 / (1000 : Int32)) % (10 : Int32))), (f_d ((p0 / (100 : Int32)) % (10 : Int32))), (f_d ((p0 / (10 : Int32)) % (10 : Int32))), (f_d (p0 % (10 : Int32)))]) hZ hw G N343.ext g268 (A265.ext X348) ((D266 (Or.inr (hw _ (List.mem_of_getElem? (i := 37) rfl))) (ty := .array .byte) (by decide)).ext X348) ((D266 (Or.inr (hw _ (List.mem_of_getElem? (i := 35) rfl))) (ty := .byte) (by decide)).ext X348) V346 (nle rfl) (nle rfl) (hp_cons (fd_ok (dgk (d := 10000) rfl (by decide) (by decide) hn)) (hp_cons (fd_ok (dgk (d := 1000) rfl (by decide) (by decide) hn)) (hp_cons (fd_ok (dgk (d := 100) rfl (by decide) (by decide) hn)) (hp_cons (fd_ok (dgk (d := 10) rfl (by decide) (by decide) hn)) (hp_cons (fd_ok (dg0 hn)) hp_nil))))) (nle rfl) (nle rfl)) (hb hby d1_224) rfl (by rw [hml]; rfl) (lenOf (by decide +kernel : parseMethodDescriptor "([C)V" = some ⟨[(.array .char)], none⟩) rfl) (nle rfl) (nle rfl) (nle rfl) (fun _ _ _ q => q.2.2.2) ?_
          rintro _ T349 h350 L351 N352 ⟨rfl, K353, S354, -⟩
          have X355 : Ext h0 h350 := ext_keep X347 K353 g267
          show Ends p e below _ T349 (mkF m 227 #[.val (.int p0), .val (.int p1), .val (.int (p0 % (10 : Int32))), .val (.int ((p0 / (10 : Int32)) % (10 : Int32))), .val (.int ((p0 / (100 : Int32)) % (10 : Int32))), .val (.int ((p0 / (1000 : Int32)) % (10 : Int32))), .val (.int ((p0 / (10000 : Int32)) % (10 : Int32)))] [(.ref a261)])
          have q9 : spellCs p0 p1 = [(f_d ((p0 / (10000 : Int32)) % (10 : Int32))), (f_d ((p0 / (1000 : Int32)) % (10 : Int32))), (f_d ((p0 / (100 : Int32)) % (10 : Int32))), (f_d ((p0 / (10 : Int32)) % (10 : Int32))), (f_d (p0 % (10 : Int32)))] := by simp only [spellCs, if_neg c1, if_neg c2, if_neg c3, if_neg c4]
          exact retA N352 hx hlk hret rfl rfl (hb hby d1_227) ⟨_, rfl, X355, by rw [q9]; exact S354⟩ (nle rfl) (nle rfl)
def parseGo : List Int32 → Int64 → Int64
  | [], v => v
  | c :: r, v => if c < (48 : Int32) then (-1 : Int64) else if (57 : Int32) < c then (-1 : Int64) else parseGo r (v * (10 : Int64) + (c - (48 : Int32)).toInt64)
def parseSpec (cs : List Int32) (mx : Int32) : Int64 := if Int32.ofNat cs.length = 0 then (-1 : Int64) else if f_min mx (18 : Int32) < Int32.ofNat cs.length then (-1 : Int64) else if (1 : Int32) < Int32.ofNat cs.length then (if cs.getD 0 0 = (48 : Int32) then (-1 : Int64) else parseGo cs 0) else parseGo cs 0
theorem ofNat_toInt {i : Nat} (h : i ≤ 4000) : (Int32.ofNat i).toInt = i := len_toInt (by omega)
theorem ofNat_lt {i j : Nat} (hi : i ≤ 4000) (hj : j ≤ 4000) : Int32.ofNat i < Int32.ofNat j ↔ i < j := by
  rw [Int32.lt_iff_toInt_lt, ofNat_toInt hi, ofNat_toInt hj]; omega
theorem ofNat_succ (i : Nat) : Int32.ofNat i + (1 : Int32) = Int32.ofNat (i + 1) := by rw [Int32.ofNat_add]; rfl
theorem drop_cons {cs r : List Int32} {c : Int32} {i : Nat} (h : cs.drop i = c :: r) : i < cs.length ∧ cs.getD i 0 = c ∧ cs.drop (i + 1) = r := by
  have h1 : i < cs.length := by
    rcases Nat.lt_or_ge i cs.length with q | q
    · exact q
    · rw [List.drop_eq_nil_of_le q] at h; cases h
  have h2 := List.drop_eq_getElem_cons h1
  rw [h2] at h
  injection h with e1 e2
  exact ⟨h1, by simp [List.getD_eq_getElem?_getD, h1, e1], e2⟩
theorem fr_nil {Z : State} {L : List Loc} (q : L = []) : Fr Z.heap.size L := q ▸ Fr.nil _
theorem d10_0 : decode prog_6_method_2_code 0 = .ok (.aload_n 0, 1) := by decide +kernel
theorem d10_1 : decode prog_6_method_2_code 1 = .ok (.invokeinterface 7 1, 5) := by decide +kernel
theorem d10_6 : decode prog_6_method_2_code 6 = .ok (.istore_n 2, 1) := by decide +kernel
theorem d10_7 : decode prog_6_method_2_code 7 = .ok (.iload_n 2, 1) := by decide +kernel
theorem d10_8 : decode prog_6_method_2_code 8 = .ok (.ifCond .eq 30, 3) := by decide +kernel
theorem d10_11 : decode prog_6_method_2_code 11 = .ok (.iload_n 2, 1) := by decide +kernel
theorem d10_12 : decode prog_6_method_2_code 12 = .ok (.iload_n 1, 1) := by decide +kernel
theorem d10_13 : decode prog_6_method_2_code 13 = .ok (.bipush 18, 2) := by decide +kernel
theorem d10_15 : decode prog_6_method_2_code 15 = .ok (.invokestatic 15, 3) := by decide +kernel
theorem d10_18 : decode prog_6_method_2_code 18 = .ok (.if_icmp .gt 20, 3) := by decide +kernel
theorem d10_21 : decode prog_6_method_2_code 21 = .ok (.iload_n 2, 1) := by decide +kernel
theorem d10_22 : decode prog_6_method_2_code 22 = .ok (.iconst 1, 1) := by decide +kernel
theorem d10_23 : decode prog_6_method_2_code 23 = .ok (.if_icmp .le 19, 3) := by decide +kernel
theorem d10_26 : decode prog_6_method_2_code 26 = .ok (.aload_n 0, 1) := by decide +kernel
theorem d10_27 : decode prog_6_method_2_code 27 = .ok (.iconst 0, 1) := by decide +kernel
theorem d10_28 : decode prog_6_method_2_code 28 = .ok (.invokeinterface 21 2, 5) := by decide +kernel
theorem d10_33 : decode prog_6_method_2_code 33 = .ok (.bipush 48, 2) := by decide +kernel
theorem d10_35 : decode prog_6_method_2_code 35 = .ok (.if_icmp .ne 7, 3) := by decide +kernel
theorem d10_38 : decode prog_6_method_2_code 38 = .ok (.ldc2_w 25, 3) := by decide +kernel
theorem d10_41 : decode prog_6_method_2_code 41 = .ok (.lreturn, 1) := by decide +kernel
theorem d10_42 : decode prog_6_method_2_code 42 = .ok (.lconst 0, 1) := by decide +kernel
theorem d10_43 : decode prog_6_method_2_code 43 = .ok (.lstore_n 3, 1) := by decide +kernel
theorem d10_44 : decode prog_6_method_2_code 44 = .ok (.iconst 0, 1) := by decide +kernel
theorem d10_45 : decode prog_6_method_2_code 45 = .ok (.istore 5, 2) := by decide +kernel
theorem d10_47 : decode prog_6_method_2_code 47 = .ok (.iload 5, 2) := by decide +kernel
theorem d10_49 : decode prog_6_method_2_code 49 = .ok (.iload_n 2, 1) := by decide +kernel
theorem d10_50 : decode prog_6_method_2_code 50 = .ok (.if_icmp .ge 50, 3) := by decide +kernel
theorem d10_53 : decode prog_6_method_2_code 53 = .ok (.aload_n 0, 1) := by decide +kernel
theorem d10_54 : decode prog_6_method_2_code 54 = .ok (.iload 5, 2) := by decide +kernel
theorem d10_56 : decode prog_6_method_2_code 56 = .ok (.invokeinterface 21 2, 5) := by decide +kernel
theorem d10_61 : decode prog_6_method_2_code 61 = .ok (.istore 6, 2) := by decide +kernel
theorem d10_63 : decode prog_6_method_2_code 63 = .ok (.iload 6, 2) := by decide +kernel
theorem d10_65 : decode prog_6_method_2_code 65 = .ok (.bipush 48, 2) := by decide +kernel
theorem d10_67 : decode prog_6_method_2_code 67 = .ok (.if_icmp .lt 10, 3) := by decide +kernel
theorem d10_70 : decode prog_6_method_2_code 70 = .ok (.iload 6, 2) := by decide +kernel
theorem d10_72 : decode prog_6_method_2_code 72 = .ok (.bipush 57, 2) := by decide +kernel
theorem d10_74 : decode prog_6_method_2_code 74 = .ok (.if_icmp .le 7, 3) := by decide +kernel
theorem d10_77 : decode prog_6_method_2_code 77 = .ok (.ldc2_w 25, 3) := by decide +kernel
theorem d10_80 : decode prog_6_method_2_code 80 = .ok (.lreturn, 1) := by decide +kernel
theorem d10_81 : decode prog_6_method_2_code 81 = .ok (.lload_n 3, 1) := by decide +kernel
theorem d10_82 : decode prog_6_method_2_code 82 = .ok (.ldc2_w 27, 3) := by decide +kernel
theorem d10_85 : decode prog_6_method_2_code 85 = .ok (.lmul, 1) := by decide +kernel
theorem d10_86 : decode prog_6_method_2_code 86 = .ok (.iload 6, 2) := by decide +kernel
theorem d10_88 : decode prog_6_method_2_code 88 = .ok (.bipush 48, 2) := by decide +kernel
theorem d10_90 : decode prog_6_method_2_code 90 = .ok (.isub, 1) := by decide +kernel
theorem d10_91 : decode prog_6_method_2_code 91 = .ok (.i2l, 1) := by decide +kernel
theorem d10_92 : decode prog_6_method_2_code 92 = .ok (.ladd, 1) := by decide +kernel
theorem d10_93 : decode prog_6_method_2_code 93 = .ok (.lstore_n 3, 1) := by decide +kernel
theorem d10_94 : decode prog_6_method_2_code 94 = .ok (.iinc 5 1, 3) := by decide +kernel
theorem d10_97 : decode prog_6_method_2_code 97 = .ok (.goto (-50), 3) := by decide +kernel
theorem d10_100 : decode prog_6_method_2_code 100 = .ok (.lload_n 3, 1) := by decide +kernel
theorem d10_101 : decode prog_6_method_2_code 101 = .ok (.lreturn, 1) := by decide +kernel
set_option maxRecDepth 65536 in
set_option maxHeartbeats 40000000 in
theorem rm10 (l : Launch) (Z : State) (a0 : Array Value) (hw : ∀ d ∈ tables_1, d.before a0 Z = true) (a : Addr) (mx : Int32) (cs : List Int32) (h0 : Heap) (Z0 : Ext Z.heap h0) (G : Jdk Z) (S : Str Z h0 a cs) :
    MetN l Z (⟨"com/example/askel/askel/Decimal", "parse", "(Ljava/lang/CharSequence;I)J"⟩ : MethodName) prog_6_method_2_code 7 (some .long) [] ({ frames := 4, cells := 0, slots := 0, locals := 70 } : Room) #[(.ref a), (.int mx)] h0 (fun v h => v = some (.long (parseSpec cs mx)) ∧ h = h0) := by
  refine metN (by first | exact plainFor_of_name (by first | (simp [plainName, overriddenIn]; done) | decide +kernel) | decide +kernel) Z0 (Ls := #[.val (.ref a), .val (.int mx), .unset, .unset, .unset, .unset, .unset]) (fun m => by first | (simp [entryFrame, mkF, argsToLocals, Value.category]; done) | rfl) ?_
  intro p e s m below meth c T0 hx hby hml hret hlk hown hnm hZ N0
  have loop : ∀ (r : List Int32) (i : Nat) (v : Int64) (T1 : State) (s6 : Slot), One s6 → cs.drop i = r → i ≤ cs.length → i ≤ 4000 → Now p l e ({ frames := 4, cells := 0, slots := 0, locals := 70 } : Room) s m #[(.ref a), (.int mx)] below meth c Z T1 h0 0 0 → parseSpec cs mx = parseGo r v → Ends p e below (PhiN Z s (fun v h => v = some (.long (parseSpec cs mx)) ∧ h = h0) ({ frames := 4, cells := 0, slots := 0, locals := 70 } : Room).cells ({ frames := 4, cells := 0, slots := 0, locals := 70 } : Room).slots) T1 (mkF m 47 #[.val (.ref a), .val (.int mx), .val (.int (Int32.ofNat cs.length)), .val (.long v), .second, .val (.int (Int32.ofNat i)), s6] []) := by
    intro r
    induction r with
    | nil =>
      intro i v T1 s6 hs6 hr hi hi4 N1 hv
      refine Ends.go (f' := (mkF m 49 #[.val (.ref a), .val (.int mx), .val (.int (Int32.ofNat cs.length)), .val (.long v), .second, .val (.int (Int32.ofNat i)), s6] [(.int (Int32.ofNat i))])) (fun t k => XS.iload N1.here hx rfl (hb hby d10_47) rfl k) ?_
      refine Ends.go (f' := (mkF m 50 #[.val (.ref a), .val (.int mx), .val (.int (Int32.ofNat cs.length)), .val (.long v), .second, .val (.int (Int32.ofNat i)), s6] [(.int (Int32.ofNat cs.length)), (.int (Int32.ofNat i))])) (fun t k => XS.iloadN N1.here hx rfl (hb hby d10_49) rfl k) ?_
      refine Ends.go (f' := (mkF m 100 #[.val (.ref a), .val (.int mx), .val (.int (Int32.ofNat cs.length)), .val (.long v), .second, .val (.int (Int32.ofNat i)), s6] [])) (fun t k => XS.icmpYes N1.here hx rfl (pc0 := 50) (pc' := 100) rfl (hb hby d10_50) rfl (XT.ii_ge_t (fun q => by rw [ofNat_lt hi4 S.2.2.2.2] at q; have := List.drop_eq_nil_iff.mp hr; omega)) (by decide) (by decide) k) ?_
      refine Ends.go (f' := (mkF m 101 #[.val (.ref a), .val (.int mx), .val (.int (Int32.ofNat cs.length)), .val (.long v), .second, .val (.int (Int32.ofNat i)), s6] [(.long v)])) (fun t k => XT.lloadN N1.here hx rfl (hb hby d10_100) rfl k) ?_
      exact retJ N1 hx hlk hret (hb hby d10_101) ⟨by rw [hv]; rfl, rfl⟩ (nle rfl) (nle rfl)
    | cons d r ih =>
      intro i v T1 s6 hs6 hr hi hi4 N1 hv
      obtain ⟨hi1, hg, hr1⟩ := drop_cons hr
      refine Ends.go (f' := (mkF m 49 #[.val (.ref a), .val (.int mx), .val (.int (Int32.ofNat cs.length)), .val (.long v), .second, .val (.int (Int32.ofNat i)), s6] [(.int (Int32.ofNat i))])) (fun t k => XS.iload N1.here hx rfl (hb hby d10_47) rfl k) ?_
      refine Ends.go (f' := (mkF m 50 #[.val (.ref a), .val (.int mx), .val (.int (Int32.ofNat cs.length)), .val (.long v), .second, .val (.int (Int32.ofNat i)), s6] [(.int (Int32.ofNat cs.length)), (.int (Int32.ofNat i))])) (fun t k => XS.iloadN N1.here hx rfl (hb hby d10_49) rfl k) ?_
      refine Ends.go (f' := (mkF m 53 #[.val (.ref a), .val (.int mx), .val (.int (Int32.ofNat cs.length)), .val (.long v), .second, .val (.int (Int32.ofNat i)), s6] [])) (fun t k => XS.icmpNo N1.here hx rfl (hb hby d10_50) rfl (XT.ii_ge_f ((ofNat_lt hi4 S.2.2.2.2).mpr hi1)) k) ?_
      refine Ends.go (f' := (mkF m 54 #[.val (.ref a), .val (.int mx), .val (.int (Int32.ofNat cs.length)), .val (.long v), .second, .val (.int (Int32.ofNat i)), s6] [(.ref a)])) (fun t k => XS.aloadN N1.here hx rfl (hb hby d10_53) rfl rfl k) ?_
      refine Ends.go (f' := (mkF m 56 #[.val (.ref a), .val (.int mx), .val (.int (Int32.ofNat cs.length)), .val (.long v), .second, .val (.int (Int32.ofNat i)), s6] [(.int (Int32.ofNat i)), (.ref a)])) (fun t k => XS.iload N1.here hx rfl (hb hby d10_54) rfl k) ?_
      refine gFace (W := 0) (y := (⟨"java/lang/CharSequence", "charAt", "(I)C"⟩ : MethodName)) (z := (⟨"java/lang/String", "charAt", "(I)C"⟩ : MethodName)) (C := "java/lang/String") (b := a) (argsL := [(.int (Int32.ofNat i))]) (rest := []) N1 hx hZ hown (hw _ (List.mem_of_getElem? (i := 66) rfl)) (hw _ (List.mem_of_getElem? (i := 67) rfl)) (mvT hZ (hw _ (List.mem_of_getElem? (i := 68) rfl))) (hw _ (List.mem_of_getElem? (i := 69) rfl)) (hw _ (List.mem_of_getElem? (i := 70) rfl)) (hw _ (List.mem_of_getElem? (i := 71) rfl)) (hw _ (List.mem_of_getElem? (i := 72) rfl)) (hw _ (List.mem_of_getElem? (i := 55) rfl)) (by decide) S.1 (strAt (W := 0) hZ hw G N1.ext S (i := i) hi1 rfl (by decide) (by decide)) (hb hby d10_56) rfl (by rw [hml]; rfl) (lenOf (by decide +kernel : parseMethodDescriptor "(I)C" = some ⟨[.int], (some .char)⟩) rfl) (nle rfl) (nle rfl) (nle rfl) (fun _ _ _ q => fr_nil q.2.1) ?_
      rintro _ T1 _ _ N2 ⟨rfl, -, e_h⟩; rw [e_h] at N2; clear e_h
      show Ends p e below _ T1 (mkF m 61 #[.val (.ref a), .val (.int mx), .val (.int (Int32.ofNat cs.length)), .val (.long v), .second, .val (.int (Int32.ofNat i)), s6] [(.int (cs.getD i 0))])
      rw [hg]
      refine Ends.go (f' := (mkF m 63 #[.val (.ref a), .val (.int mx), .val (.int (Int32.ofNat cs.length)), .val (.long v), .second, .val (.int (Int32.ofNat i)), .val (.int d)] [])) (fun t k => XS.istoreS N2.here hx rfl (hb hby d10_61) rfl (hold := rfl) hs6 k) ?_
      refine Ends.go (f' := (mkF m 65 #[.val (.ref a), .val (.int mx), .val (.int (Int32.ofNat cs.length)), .val (.long v), .second, .val (.int (Int32.ofNat i)), .val (.int d)] [(.int d)])) (fun t k => XS.iload N2.here hx rfl (hb hby d10_63) rfl k) ?_
      refine Ends.go (f' := (mkF m 67 #[.val (.ref a), .val (.int mx), .val (.int (Int32.ofNat cs.length)), .val (.long v), .second, .val (.int (Int32.ofNat i)), .val (.int d)] [(.int (48 : Int32)), (.int d)])) (fun t k => XS.bipush N2.here hx rfl (hb hby d10_65) k) ?_
      by_cases c1 : d < (48 : Int32)
      · refine Ends.go (f' := (mkF m 77 #[.val (.ref a), .val (.int mx), .val (.int (Int32.ofNat cs.length)), .val (.long v), .second, .val (.int (Int32.ofNat i)), .val (.int d)] [])) (fun t k => XS.icmpYes N2.here hx rfl (pc0 := 67) (pc' := 77) rfl (hb hby d10_67) rfl (XT.ii_lt_t c1) (by decide) (by decide) k) ?_
        refine gLdcJ N2 hx hZ hown (hw _ (List.mem_of_getElem? (i := 94) rfl)) (hb hby d10_77) ?_
        show Ends p e below _ T1 (mkF m 80 #[.val (.ref a), .val (.int mx), .val (.int (Int32.ofNat cs.length)), .val (.long v), .second, .val (.int (Int32.ofNat i)), .val (.int d)] [(.long (-1 : Int64))])
        exact retJ N2 hx hlk hret (hb hby d10_80) ⟨by rw [hv]; simp only [parseGo, if_pos c1], rfl⟩ (nle rfl) (nle rfl)
      · refine Ends.go (f' := (mkF m 70 #[.val (.ref a), .val (.int mx), .val (.int (Int32.ofNat cs.length)), .val (.long v), .second, .val (.int (Int32.ofNat i)), .val (.int d)] [])) (fun t k => XS.icmpNo N2.here hx rfl (hb hby d10_67) rfl (XT.ii_lt_f c1) k) ?_
        refine Ends.go (f' := (mkF m 72 #[.val (.ref a), .val (.int mx), .val (.int (Int32.ofNat cs.length)), .val (.long v), .second, .val (.int (Int32.ofNat i)), .val (.int d)] [(.int d)])) (fun t k => XS.iload N2.here hx rfl (hb hby d10_70) rfl k) ?_
        refine Ends.go (f' := (mkF m 74 #[.val (.ref a), .val (.int mx), .val (.int (Int32.ofNat cs.length)), .val (.long v), .second, .val (.int (Int32.ofNat i)), .val (.int d)] [(.int (57 : Int32)), (.int d)])) (fun t k => XS.bipush N2.here hx rfl (hb hby d10_72) k) ?_
        by_cases c2 : (57 : Int32) < d
        · refine Ends.go (f' := (mkF m 77 #[.val (.ref a), .val (.int mx), .val (.int (Int32.ofNat cs.length)), .val (.long v), .second, .val (.int (Int32.ofNat i)), .val (.int d)] [])) (fun t k => XS.icmpNo N2.here hx rfl (hb hby d10_74) rfl (XT.ii_le_f c2) k) ?_
          refine gLdcJ N2 hx hZ hown (hw _ (List.mem_of_getElem? (i := 94) rfl)) (hb hby d10_77) ?_
          show Ends p e below _ T1 (mkF m 80 #[.val (.ref a), .val (.int mx), .val (.int (Int32.ofNat cs.length)), .val (.long v), .second, .val (.int (Int32.ofNat i)), .val (.int d)] [(.long (-1 : Int64))])
          exact retJ N2 hx hlk hret (hb hby d10_80) ⟨by rw [hv]; simp only [parseGo, if_neg c1, if_pos c2], rfl⟩ (nle rfl) (nle rfl)
        · refine Ends.go (f' := (mkF m 81 #[.val (.ref a), .val (.int mx), .val (.int (Int32.ofNat cs.length)), .val (.long v), .second, .val (.int (Int32.ofNat i)), .val (.int d)] [])) (fun t k => XS.icmpYes N2.here hx rfl (pc0 := 74) (pc' := 81) rfl (hb hby d10_74) rfl (XT.ii_le_t c2) (by decide) (by decide) k) ?_
          refine Ends.go (f' := (mkF m 82 #[.val (.ref a), .val (.int mx), .val (.int (Int32.ofNat cs.length)), .val (.long v), .second, .val (.int (Int32.ofNat i)), .val (.int d)] [(.long v)])) (fun t k => XT.lloadN N2.here hx rfl (hb hby d10_81) rfl k) ?_
          refine gLdcJ N2 hx hZ hown (hw _ (List.mem_of_getElem? (i := 91) rfl)) (hb hby d10_82) ?_
          show Ends p e below _ T1 (mkF m 85 #[.val (.ref a), .val (.int mx), .val (.int (Int32.ofNat cs.length)), .val (.long v), .second, .val (.int (Int32.ofNat i)), .val (.int d)] [(.long (10 : Int64)), (.long v)])
          refine Ends.go (f' := (mkF m 86 #[.val (.ref a), .val (.int mx), .val (.int (Int32.ofNat cs.length)), .val (.long v), .second, .val (.int (Int32.ofNat i)), .val (.int d)] [(.long (v * (10 : Int64)))])) (fun t k => XT.lmul N2.here hx rfl (hb hby d10_85) rfl k) ?_
          refine Ends.go (f' := (mkF m 88 #[.val (.ref a), .val (.int mx), .val (.int (Int32.ofNat cs.length)), .val (.long v), .second, .val (.int (Int32.ofNat i)), .val (.int d)] [(.int d), (.long (v * (10 : Int64)))])) (fun t k => XS.iload N2.here hx rfl (hb hby d10_86) rfl k) ?_
          refine Ends.go (f' := (mkF m 90 #[.val (.ref a), .val (.int mx), .val (.int (Int32.ofNat cs.length)), .val (.long v), .second, .val (.int (Int32.ofNat i)), .val (.int d)] [(.int (48 : Int32)), (.int d), (.long (v * (10 : Int64)))])) (fun t k => XS.bipush N2.here hx rfl (hb hby d10_88) k) ?_
          refine Ends.go (f' := (mkF m 91 #[.val (.ref a), .val (.int mx), .val (.int (Int32.ofNat cs.length)), .val (.long v), .second, .val (.int (Int32.ofNat i)), .val (.int d)] [(.int (d - (48 : Int32))), (.long (v * (10 : Int64)))])) (fun t k => XS.isub N2.here hx rfl (hb hby d10_90) rfl k) ?_
          refine Ends.go (f' := (mkF m 92 #[.val (.ref a), .val (.int mx), .val (.int (Int32.ofNat cs.length)), .val (.long v), .second, .val (.int (Int32.ofNat i)), .val (.int d)] [(.long (((d - (48 : Int32))).toInt64)), (.long (v * (10 : Int64)))])) (fun t k => XT.i2l N2.here hx rfl (hb hby d10_91) rfl k) ?_
          refine Ends.go (f' := (mkF m 93 #[.val (.ref a), .val (.int mx), .val (.int (Int32.ofNat cs.length)), .val (.long v), .second, .val (.int (Int32.ofNat i)), .val (.int d)] [(.long ((v * (10 : Int64)) + (((d - (48 : Int32))).toInt64)))])) (fun t k => XT.ladd N2.here hx rfl (hb hby d10_92) rfl k) ?_
          refine Ends.go (f' := (mkF m 94 #[.val (.ref a), .val (.int mx), .val (.int (Int32.ofNat cs.length)), .val (.long ((v * (10 : Int64)) + (((d - (48 : Int32))).toInt64))), .second, .val (.int (Int32.ofNat i)), .val (.int d)] [])) (fun t k => XT.lstoreN N2.here hx rfl (hb hby d10_93) rfl (l' := #[.val (.ref a), .val (.int mx), .val (.int (Int32.ofNat cs.length)), .val (.long ((v * (10 : Int64)) + (((d - (48 : Int32))).toInt64))), .second, .val (.int (Int32.ofNat i)), .val (.int d)]) rfl k) ?_
          refine Ends.go (f' := (mkF m 97 #[.val (.ref a), .val (.int mx), .val (.int (Int32.ofNat cs.length)), .val (.long ((v * (10 : Int64)) + (((d - (48 : Int32))).toInt64))), .second, .val (.int ((Int32.ofNat i) + (1 : Int32))), .val (.int d)] [])) (fun t k => XS.iinc N2.here hx rfl (hb hby d10_94) rfl (l' := #[.val (.ref a), .val (.int mx), .val (.int (Int32.ofNat cs.length)), .val (.long ((v * (10 : Int64)) + (((d - (48 : Int32))).toInt64))), .second, .val (.int ((Int32.ofNat i) + (1 : Int32))), .val (.int d)]) rfl k) ?_
          rw [ofNat_succ]
          refine Ends.go (f' := (mkF m 47 #[.val (.ref a), .val (.int mx), .val (.int (Int32.ofNat cs.length)), .val (.long ((v * (10 : Int64)) + (((d - (48 : Int32))).toInt64))), .second, .val (.int (Int32.ofNat (i + 1))), .val (.int d)] [])) (fun t k => XS.goto N2.here hx rfl (pc0 := 97) (pc' := 47) rfl (hb hby d10_97) (by decide) (by decide) k) ?_
          exact ih (i + 1) (v * (10 : Int64) + (d - (48 : Int32)).toInt64) T1 _ (One.val rfl) hr1 (by omega) (by have := S.2.2.2.2; omega) N2 (by rw [hv]; simp only [parseGo, if_neg c1, if_neg c2])
  have join : ∀ T1 : State, Now p l e ({ frames := 4, cells := 0, slots := 0, locals := 70 } : Room) s m #[(.ref a), (.int mx)] below meth c Z T1 h0 0 0 → parseSpec cs mx = parseGo cs 0 → Ends p e below (PhiN Z s (fun v h => v = some (.long (parseSpec cs mx)) ∧ h = h0) ({ frames := 4, cells := 0, slots := 0, locals := 70 } : Room).cells ({ frames := 4, cells := 0, slots := 0, locals := 70 } : Room).slots) T1 (mkF m 42 #[.val (.ref a), .val (.int mx), .val (.int (Int32.ofNat cs.length)), .unset, .unset, .unset, .unset] []) := by
    intro T1 N1 hv
    refine Ends.go (f' := (mkF m 43 #[.val (.ref a), .val (.int mx), .val (.int (Int32.ofNat cs.length)), .unset, .unset, .unset, .unset] [(.long (0 : Int64))])) (fun t k => XT.lconst N1.here hx rfl (hb hby d10_42) k) ?_
    refine Ends.go (f' := (mkF m 44 #[.val (.ref a), .val (.int mx), .val (.int (Int32.ofNat cs.length)), .val (.long (0 : Int64)), .second, .unset, .unset] [])) (fun t k => XT.lstoreN N1.here hx rfl (hb hby d10_43) rfl (l' := #[.val (.ref a), .val (.int mx), .val (.int (Int32.ofNat cs.length)), .val (.long (0 : Int64)), .second, .unset, .unset]) rfl k) ?_
    refine Ends.go (f' := (mkF m 45 #[.val (.ref a), .val (.int mx), .val (.int (Int32.ofNat cs.length)), .val (.long (0 : Int64)), .second, .unset, .unset] [(.int (0 : Int32))])) (fun t k => XS.iconst N1.here hx rfl (hb hby d10_44) k) ?_
    refine Ends.go (f' := (mkF m 47 #[.val (.ref a), .val (.int mx), .val (.int (Int32.ofNat cs.length)), .val (.long (0 : Int64)), .second, .val (.int (0 : Int32)), .unset] [])) (fun t k => XS.istore N1.here hx rfl (hb hby d10_45) rfl (l' := #[.val (.ref a), .val (.int mx), .val (.int (Int32.ofNat cs.length)), .val (.long (0 : Int64)), .second, .val (.int (0 : Int32)), .unset]) rfl k) ?_
    exact loop cs 0 0 T1 _ One.u rfl (Nat.zero_le _) (Nat.zero_le _) N1 hv
  refine Ends.go (f' := (mkF m 1 #[.val (.ref a), .val (.int mx), .unset, .unset, .unset, .unset, .unset] [(.ref a)])) (fun t k => XS.aloadN N0.here hx rfl (hb hby d10_0) rfl rfl k) ?_
  refine gFace (W := 0) (y := (⟨"java/lang/CharSequence", "length", "()I"⟩ : MethodName)) (z := (⟨"java/lang/String", "length", "()I"⟩ : MethodName)) (C := "java/lang/String") (b := a) (argsL := []) (rest := []) N0 hx hZ hown (hw _ (List.mem_of_getElem? (i := 48) rfl)) (hw _ (List.mem_of_getElem? (i := 49) rfl)) (mvT hZ (hw _ (List.mem_of_getElem? (i := 50) rfl))) (hw _ (List.mem_of_getElem? (i := 51) rfl)) (hw _ (List.mem_of_getElem? (i := 52) rfl)) (hw _ (List.mem_of_getElem? (i := 53) rfl)) (hw _ (List.mem_of_getElem? (i := 54) rfl)) (hw _ (List.mem_of_getElem? (i := 55) rfl)) (by decide) S.1 (strLen (W := 0) hZ hw G N0.ext S (by decide) (by decide)) (hb hby d10_1) rfl (by rw [hml]; rfl) (lenOf (by decide +kernel : parseMethodDescriptor "()I" = some ⟨[], (some .int)⟩) rfl) (nle rfl) (nle rfl) (nle rfl) (fun _ _ _ q => fr_nil q.2.1) ?_
  rintro _ T3 _ _ N4 ⟨rfl, -, e_h⟩; rw [e_h] at N4; clear e_h
  show Ends p e below _ T3 (mkF m 6 #[.val (.ref a), .val (.int mx), .unset, .unset, .unset, .unset, .unset] [(.int (Int32.ofNat cs.length))])
  refine Ends.go (f' := (mkF m 7 #[.val (.ref a), .val (.int mx), .val (.int (Int32.ofNat cs.length)), .unset, .unset, .unset, .unset] [])) (fun t k => XS.istoreN N4.here hx rfl (hb hby d10_6) rfl (l' := #[.val (.ref a), .val (.int mx), .val (.int (Int32.ofNat cs.length)), .unset, .unset, .unset, .unset]) rfl k) ?_
  refine Ends.go (f' := (mkF m 8 #[.val (.ref a), .val (.int mx), .val (.int (Int32.ofNat cs.length)), .unset, .unset, .unset, .unset] [(.int (Int32.ofNat cs.length))])) (fun t k => XS.iloadN N4.here hx rfl (hb hby d10_7) rfl k) ?_
  by_cases c1 : Int32.ofNat cs.length = 0
  · refine Ends.go (f' := (mkF m 38 #[.val (.ref a), .val (.int mx), .val (.int (Int32.ofNat cs.length)), .unset, .unset, .unset, .unset] [])) (fun t k => XS.ifYes N4.here hx rfl (pc0 := 8) (pc' := 38) rfl (hb hby d10_8) rfl (XT.i0_eq_t c1) (by decide) (by decide) k) ?_
    refine gLdcJ N4 hx hZ hown (hw _ (List.mem_of_getElem? (i := 94) rfl)) (hb hby d10_38) ?_
    show Ends p e below _ T3 (mkF m 41 #[.val (.ref a), .val (.int mx), .val (.int (Int32.ofNat cs.length)), .unset, .unset, .unset, .unset] [(.long (-1 : Int64))])
    exact retJ N4 hx hlk hret (hb hby d10_41) ⟨by simp only [parseSpec, if_pos c1], rfl⟩ (nle rfl) (nle rfl)
  · refine Ends.go (f' := (mkF m 11 #[.val (.ref a), .val (.int mx), .val (.int (Int32.ofNat cs.length)), .unset, .unset, .unset, .unset] [])) (fun t k => XS.ifNo N4.here hx rfl (hb hby d10_8) rfl (XT.i0_eq_f c1) k) ?_
    refine Ends.go (f' := (mkF m 12 #[.val (.ref a), .val (.int mx), .val (.int (Int32.ofNat cs.length)), .unset, .unset, .unset, .unset] [(.int (Int32.ofNat cs.length))])) (fun t k => XS.iloadN N4.here hx rfl (hb hby d10_11) rfl k) ?_
    refine Ends.go (f' := (mkF m 13 #[.val (.ref a), .val (.int mx), .val (.int (Int32.ofNat cs.length)), .unset, .unset, .unset, .unset] [(.int mx), (.int (Int32.ofNat cs.length))])) (fun t k => XS.iloadN N4.here hx rfl (hb hby d10_12) rfl k) ?_
    refine Ends.go (f' := (mkF m 15 #[.val (.ref a), .val (.int mx), .val (.int (Int32.ofNat cs.length)), .unset, .unset, .unset, .unset] [(.int (18 : Int32)), (.int mx), (.int (Int32.ofNat cs.length))])) (fun t k => XS.bipush N4.here hx rfl (hb hby d10_13) k) ?_
    refine gStatic (W := 1) (argsL := [(.int mx), (.int (18 : Int32))]) (rest := [(.int (Int32.ofNat cs.length))]) N4 hx hZ hown (hw _ (List.mem_of_getElem? (i := 62) rfl)) (hw _ (List.mem_of_getElem? (i := 63) rfl)) (hw _ (List.mem_of_getElem? (i := 64) rfl)) (hw _ (List.mem_of_getElem? (i := 65) rfl)) (by decide) ((rm13 l Z a0 hw mx (18 : Int32) h0 N4.ext).back (W := 1) hZ (hw _ (List.mem_of_getElem? (i := 65) rfl)) (hw _ (List.mem_of_getElem? (i := 64) rfl)) (nle rfl) (nle rfl)) (hb hby d10_15) rfl (by rw [hml]; rfl) (lenOf (by decide +kernel : parseMethodDescriptor "(II)I" = some ⟨[.int, .int], (some .int)⟩) rfl) (nle rfl) (nle rfl) (nle rfl) (fun _ _ _ q => q.2) ?_
    rintro _ T5 _ _ N6 ⟨⟨rfl, e_h⟩, -⟩; rw [e_h] at N6; clear e_h
    show Ends p e below _ T5 (mkF m 18 #[.val (.ref a), .val (.int mx), .val (.int (Int32.ofNat cs.length)), .unset, .unset, .unset, .unset] [(.int (f_min mx (18 : Int32))), (.int (Int32.ofNat cs.length))])
    by_cases c2 : f_min mx (18 : Int32) < Int32.ofNat cs.length
    · refine Ends.go (f' := (mkF m 38 #[.val (.ref a), .val (.int mx), .val (.int (Int32.ofNat cs.length)), .unset, .unset, .unset, .unset] [])) (fun t k => XS.icmpYes N6.here hx rfl (pc0 := 18) (pc' := 38) rfl (hb hby d10_18) rfl (XT.ii_gt_t c2) (by decide) (by decide) k) ?_
      refine gLdcJ N6 hx hZ hown (hw _ (List.mem_of_getElem? (i := 94) rfl)) (hb hby d10_38) ?_
      show Ends p e below _ T5 (mkF m 41 #[.val (.ref a), .val (.int mx), .val (.int (Int32.ofNat cs.length)), .unset, .unset, .unset, .unset] [(.long (-1 : Int64))])
      exact retJ N6 hx hlk hret (hb hby d10_41) ⟨by simp only [parseSpec, if_neg c1, if_pos c2], rfl⟩ (nle rfl) (nle rfl)
    · refine Ends.go (f' := (mkF m 21 #[.val (.ref a), .val (.int mx), .val (.int (Int32.ofNat cs.length)), .unset, .unset, .unset, .unset] [])) (fun t k => XS.icmpNo N6.here hx rfl (hb hby d10_18) rfl (XT.ii_gt_f c2) k) ?_
      refine Ends.go (f' := (mkF m 22 #[.val (.ref a), .val (.int mx), .val (.int (Int32.ofNat cs.length)), .unset, .unset, .unset, .unset] [(.int (Int32.ofNat cs.length))])) (fun t k => XS.iloadN N6.here hx rfl (hb hby d10_21) rfl k) ?_
      refine Ends.go (f' := (mkF m 23 #[.val (.ref a), .val (.int mx), .val (.int (Int32.ofNat cs.length)), .unset, .unset, .unset, .unset] [(.int (1 : Int32)), (.int (Int32.ofNat cs.length))])) (fun t k => XS.iconst N6.here hx rfl (hb hby d10_22) k) ?_
      by_cases c3 : (1 : Int32) < Int32.ofNat cs.length
      · refine Ends.go (f' := (mkF m 26 #[.val (.ref a), .val (.int mx), .val (.int (Int32.ofNat cs.length)), .unset, .unset, .unset, .unset] [])) (fun t k => XS.icmpNo N6.here hx rfl (hb hby d10_23) rfl (XT.ii_le_f c3) k) ?_
        refine Ends.go (f' := (mkF m 27 #[.val (.ref a), .val (.int mx), .val (.int (Int32.ofNat cs.length)), .unset, .unset, .unset, .unset] [(.ref a)])) (fun t k => XS.aloadN N6.here hx rfl (hb hby d10_26) rfl rfl k) ?_
        refine Ends.go (f' := (mkF m 28 #[.val (.ref a), .val (.int mx), .val (.int (Int32.ofNat cs.length)), .unset, .unset, .unset, .unset] [(.int (0 : Int32)), (.ref a)])) (fun t k => XS.iconst N6.here hx rfl (hb hby d10_27) k) ?_
        refine gFace (W := 0) (y := (⟨"java/lang/CharSequence", "charAt", "(I)C"⟩ : MethodName)) (z := (⟨"java/lang/String", "charAt", "(I)C"⟩ : MethodName)) (C := "java/lang/String") (b := a) (argsL := [(.int (0 : Int32))]) (rest := []) N6 hx hZ hown (hw _ (List.mem_of_getElem? (i := 66) rfl)) (hw _ (List.mem_of_getElem? (i := 67) rfl)) (mvT hZ (hw _ (List.mem_of_getElem? (i := 68) rfl))) (hw _ (List.mem_of_getElem? (i := 69) rfl)) (hw _ (List.mem_of_getElem? (i := 70) rfl)) (hw _ (List.mem_of_getElem? (i := 71) rfl)) (hw _ (List.mem_of_getElem? (i := 72) rfl)) (hw _ (List.mem_of_getElem? (i := 55) rfl)) (by decide) S.1 (strAt (W := 0) hZ hw G N6.ext S (i := 0) (by have q := (ofNat_lt (i := 1) (by decide) S.2.2.2.2).mp c3; omega) rfl (by decide) (by decide)) (hb hby d10_28) rfl (by rw [hml]; rfl) (lenOf (by decide +kernel : parseMethodDescriptor "(I)C" = some ⟨[.int], (some .char)⟩) rfl) (nle rfl) (nle rfl) (nle rfl) (fun _ _ _ q => fr_nil q.2.1) ?_
        rintro _ T10 _ _ N11 ⟨rfl, -, e_h⟩; rw [e_h] at N11; clear e_h
        show Ends p e below _ T10 (mkF m 33 #[.val (.ref a), .val (.int mx), .val (.int (Int32.ofNat cs.length)), .unset, .unset, .unset, .unset] [(.int (cs.getD 0 0))])
        refine Ends.go (f' := (mkF m 35 #[.val (.ref a), .val (.int mx), .val (.int (Int32.ofNat cs.length)), .unset, .unset, .unset, .unset] [(.int (48 : Int32)), (.int (cs.getD 0 0))])) (fun t k => XS.bipush N11.here hx rfl (hb hby d10_33) k) ?_
        by_cases c4 : cs.getD 0 0 = (48 : Int32)
        · refine Ends.go (f' := (mkF m 38 #[.val (.ref a), .val (.int mx), .val (.int (Int32.ofNat cs.length)), .unset, .unset, .unset, .unset] [])) (fun t k => XS.icmpNo N11.here hx rfl (hb hby d10_35) rfl (XT.ii_ne_f c4) k) ?_
          refine gLdcJ N11 hx hZ hown (hw _ (List.mem_of_getElem? (i := 94) rfl)) (hb hby d10_38) ?_
          show Ends p e below _ T10 (mkF m 41 #[.val (.ref a), .val (.int mx), .val (.int (Int32.ofNat cs.length)), .unset, .unset, .unset, .unset] [(.long (-1 : Int64))])
          exact retJ N11 hx hlk hret (hb hby d10_41) ⟨by simp only [parseSpec, if_neg c1, if_neg c2, if_pos c3, if_pos c4], rfl⟩ (nle rfl) (nle rfl)
        · refine Ends.go (f' := (mkF m 42 #[.val (.ref a), .val (.int mx), .val (.int (Int32.ofNat cs.length)), .unset, .unset, .unset, .unset] [])) (fun t k => XS.icmpYes N11.here hx rfl (pc0 := 35) (pc' := 42) rfl (hb hby d10_35) rfl (XT.ii_ne_t c4) (by decide) (by decide) k) ?_
          exact join T10 N11 (by simp only [parseSpec, if_neg c1, if_neg c2, if_pos c3, if_neg c4])
      · refine Ends.go (f' := (mkF m 42 #[.val (.ref a), .val (.int mx), .val (.int (Int32.ofNat cs.length)), .unset, .unset, .unset, .unset] [])) (fun t k => XS.icmpYes N6.here hx rfl (pc0 := 23) (pc' := 42) rfl (hb hby d10_23) rfl (XT.ii_le_t c3) (by decide) (by decide) k) ?_
        exact join T5 N6 (by simp only [parseSpec, if_neg c1, if_neg c2, if_neg c3])
theorem d9_0 : decode prog_13_method_3_code 0 = .ok (.aload_n 0, 1) := by decide +kernel
theorem d9_1 : decode prog_13_method_3_code 1 = .ok (.getstatic 24, 3) := by decide +kernel
theorem d9_4 : decode prog_13_method_3_code 4 = .ok (.invokestatic 28, 3) := by decide +kernel
theorem d9_7 : decode prog_13_method_3_code 7 = .ok (.lstore_n 1, 1) := by decide +kernel
theorem d9_8 : decode prog_13_method_3_code 8 = .ok (.lload_n 1, 1) := by decide +kernel
theorem d9_9 : decode prog_13_method_3_code 9 = .ok (.lconst 0, 1) := by decide +kernel
theorem d9_10 : decode prog_13_method_3_code 10 = .ok (.lcmp, 1) := by decide +kernel
theorem d9_11 : decode prog_13_method_3_code 11 = .ok (.ifCond .lt 11, 3) := by decide +kernel
theorem d9_14 : decode prog_13_method_3_code 14 = .ok (.lload_n 1, 1) := by decide +kernel
theorem d9_15 : decode prog_13_method_3_code 15 = .ok (.ldc2_w 39, 3) := by decide +kernel
theorem d9_18 : decode prog_13_method_3_code 18 = .ok (.lcmp, 1) := by decide +kernel
theorem d9_19 : decode prog_13_method_3_code 19 = .ok (.ifCond .lt 20, 3) := by decide +kernel
theorem d9_39 : decode prog_13_method_3_code 39 = .ok (.lload_n 1, 1) := by decide +kernel
theorem d9_40 : decode prog_13_method_3_code 40 = .ok (.l2i, 1) := by decide +kernel
theorem d9_41 : decode prog_13_method_3_code 41 = .ok (.ireturn, 1) := by decide +kernel
set_option maxRecDepth 65536 in
set_option maxHeartbeats 40000000 in
theorem rm9 (l : Launch) (Z : State) (a0 : Array Value) (hw : ∀ d ∈ tables_1, d.before a0 Z = true) (a : Addr) (cs : List Int32) (h0 : Heap) (Z0 : Ext Z.heap h0) (G : Jdk Z) (S : Str Z h0 a cs) (Sm : Sta Z Z.heap "com/example/askel/askel/Uid" "MAX_DIGITS" "I" (.int 10)) (r0 : ¬ parseSpec cs (10 : Int32) < (0 : Int64)) (r1 : parseSpec cs (10 : Int32) < (42950 : Int64)) :
    MetN l Z (⟨"com/example/askel/askel/Uid", "parseSection", "(Ljava/lang/CharSequence;)I"⟩ : MethodName) prog_13_method_3_code 3 (some .int) [] ({ frames := 5, cells := 0, slots := 0, locals := 88 } : Room) #[(.ref a)] h0 (fun v h => v = some (.int (parseSpec cs (10 : Int32)).toInt32) ∧ h = h0) := by
  refine metN (by first | exact plainFor_of_name (by first | (simp [plainName, overriddenIn]; done) | decide +kernel) | decide +kernel) Z0 (Ls := #[.val (.ref a), .unset, .unset]) (fun m => by first | (simp [entryFrame, mkF, argsToLocals, Value.category]; done) | rfl) ?_
  intro p e s m below meth c T0 hx hby hml hret hlk hown hnm hZ N0
  refine Ends.go (f' := (mkF m 1 #[.val (.ref a), .unset, .unset] [(.ref a)])) (fun t k => XS.aloadN N0.here hx rfl (hb hby d9_0) rfl rfl k) ?_
  refine gSta (O := "com/example/askel/askel/Uid") N0 hx hZ hown (hw _ (List.mem_of_getElem? (i := 42) rfl)) Via.refl (Sm.ext N0.ext) (hb hby d9_1) ?_
  intro T1 N2
  show Ends p e below _ T1 (mkF m 4 #[.val (.ref a), .unset, .unset] [(.int (10 : Int32)), (.ref a)])
  refine gStatic (W := 0) (argsL := [(.ref a), (.int (10 : Int32))]) (rest := []) N2 hx hZ hown (hw _ (List.mem_of_getElem? (i := 44) rfl)) (hw _ (List.mem_of_getElem? (i := 45) rfl)) (hw _ (List.mem_of_getElem? (i := 46) rfl)) (hw _ (List.mem_of_getElem? (i := 47) rfl)) (by decide) ((rm10 l Z a0 hw a (10 : Int32) cs h0 N2.ext G S).back (W := 0) hZ (hw _ (List.mem_of_getElem? (i := 47) rfl)) (hw _ (List.mem_of_getElem? (i := 46) rfl)) (nle rfl) (nle rfl)) (hb hby d9_4) rfl (by rw [hml]; rfl) (lenOf (by decide +kernel : parseMethodDescriptor "(Ljava/lang/CharSequence;I)J" = some ⟨[(.object "java/lang/CharSequence"), .int], (some .long)⟩) rfl) (nle rfl) (nle rfl) (nle rfl) (fun _ _ _ q => q.2) ?_
  rintro _ T3 _ _ N4 ⟨⟨rfl, e_h⟩, -⟩; rw [e_h] at N4; clear e_h
  show Ends p e below _ T3 (mkF m 7 #[.val (.ref a), .unset, .unset] [(.long (parseSpec cs (10 : Int32)))])
  refine Ends.go (f' := (mkF m 8 #[.val (.ref a), .val (.long (parseSpec cs (10 : Int32))), .second] [])) (fun t k => XT.lstoreN N4.here hx rfl (hb hby d9_7) rfl (l' := #[.val (.ref a), .val (.long (parseSpec cs (10 : Int32))), .second]) rfl k) ?_
  refine Ends.go (f' := (mkF m 9 #[.val (.ref a), .val (.long (parseSpec cs (10 : Int32))), .second] [(.long (parseSpec cs (10 : Int32)))])) (fun t k => XT.lloadN N4.here hx rfl (hb hby d9_8) rfl k) ?_
  refine Ends.go (f' := (mkF m 10 #[.val (.ref a), .val (.long (parseSpec cs (10 : Int32))), .second] [(.long (0 : Int64)), (.long (parseSpec cs (10 : Int32)))])) (fun t k => XT.lconst N4.here hx rfl (hb hby d9_9) k) ?_
  refine Ends.go (f' := (mkF m 11 #[.val (.ref a), .val (.long (parseSpec cs (10 : Int32))), .second] [(.int (XT.cmpL (parseSpec cs (10 : Int32)) (0 : Int64)))])) (fun t k => XT.lcmp N4.here hx rfl (hb hby d9_10) rfl k) ?_
  refine Ends.go (f' := (mkF m 14 #[.val (.ref a), .val (.long (parseSpec cs (10 : Int32))), .second] [])) (fun t k => XS.ifNo N4.here hx rfl (hb hby d9_11) rfl (XT.ll_lt_f r0) k) ?_
  refine Ends.go (f' := (mkF m 15 #[.val (.ref a), .val (.long (parseSpec cs (10 : Int32))), .second] [(.long (parseSpec cs (10 : Int32)))])) (fun t k => XT.lloadN N4.here hx rfl (hb hby d9_14) rfl k) ?_
  refine gLdcJ N4 hx hZ hown (hw _ (List.mem_of_getElem? (i := 92) rfl)) (hb hby d9_15) ?_
  show Ends p e below _ T3 (mkF m 18 #[.val (.ref a), .val (.long (parseSpec cs (10 : Int32))), .second] [(.long (42950 : Int64)), (.long (parseSpec cs (10 : Int32)))])
  refine Ends.go (f' := (mkF m 19 #[.val (.ref a), .val (.long (parseSpec cs (10 : Int32))), .second] [(.int (XT.cmpL (parseSpec cs (10 : Int32)) (42950 : Int64)))])) (fun t k => XT.lcmp N4.here hx rfl (hb hby d9_18) rfl k) ?_
  refine Ends.go (f' := (mkF m 39 #[.val (.ref a), .val (.long (parseSpec cs (10 : Int32))), .second] [])) (fun t k => XS.ifYes N4.here hx rfl (pc0 := 19) (pc' := 39) rfl (hb hby d9_19) rfl (XT.ll_lt_t r1) (by decide) (by decide) k) ?_
  refine Ends.go (f' := (mkF m 40 #[.val (.ref a), .val (.long (parseSpec cs (10 : Int32))), .second] [(.long (parseSpec cs (10 : Int32)))])) (fun t k => XT.lloadN N4.here hx rfl (hb hby d9_39) rfl k) ?_
  refine Ends.go (f' := (mkF m 41 #[.val (.ref a), .val (.long (parseSpec cs (10 : Int32))), .second] [(.int (((parseSpec cs (10 : Int32))).toInt32))])) (fun t k => XT.l2i N4.here hx rfl (hb hby d9_40) rfl k) ?_
  exact retI N4 hx hlk hret (hb hby d9_41) ⟨rfl, rfl⟩ (nle rfl) (nle rfl)
def okN (len n : Int32) : Prop := (len = 1 ∧ 0 ≤ n.toInt ∧ n.toInt ≤ 9) ∨ (len = 2 ∧ 10 ≤ n.toInt ∧ n.toInt ≤ 99) ∨ (len = 3 ∧ 100 ≤ n.toInt ∧ n.toInt ≤ 999) ∨ (len = 4 ∧ 1000 ≤ n.toInt ∧ n.toInt ≤ 9999) ∨ (¬ len = 1 ∧ ¬ len = 2 ∧ ¬ len = 3 ∧ ¬ len = 4 ∧ 10000 ≤ n.toInt ∧ n.toInt ≤ 42949)
theorem okN.nn {len n : Int32} (h : okN len n) : 0 ≤ n.toInt := by unfold okN at h; omega
theorem rem10 {n : Int32} (hn : 0 ≤ n.toInt) : (n % 10).toInt = n.toInt % 10 := (c_irem n 10 10 rfl).1 hn
theorem remk {n k : Int32} {d : Int} (hk : k.toInt = d) (h1 : k ≠ -1) (hd : 0 < d) (hn : 0 ≤ n.toInt) : (n / k % 10).toInt = n.toInt / d % 10 := by
  have q := (c_idiv n k d hk h1).1 hn
  have r : 0 ≤ n.toInt / d := Int.ediv_nonneg hn (by omega)
  rw [rem10 (by omega), q]
theorem go_step {v : Int32} {r : List Int32} {acc : Int64} (h : 0 ≤ v.toInt ∧ v.toInt ≤ 9) : parseGo (f_d v :: r) acc = parseGo r (acc * (10 : Int64) + v.toInt64) := by
  have q := fd_val h.1 h.2
  have e48 : (48 : Int32).toInt = 48 := rfl
  have e57 : (57 : Int32).toInt = 57 := rfl
  have h1 : ¬ f_d v < (48 : Int32) := by rw [Int32.lt_iff_toInt_lt]; omega
  have h2 : ¬ (57 : Int32) < f_d v := by rw [Int32.lt_iff_toInt_lt]; omega
  have h3 : f_d v - (48 : Int32) = v := by
    apply Int32.toInt_inj.mp
    have r1 := c_isub (f_d v) (48 : Int32)
    have r2 := rng32 (f_d v - (48 : Int32))
    omega
  simp only [parseGo, if_neg h1, if_neg h2, h3]
theorem step_val {acc : Int64} {v : Int32} {A B : Int} (hA : acc.toInt = A) (hB : v.toInt = B) (h0 : 0 ≤ A) (h1 : A ≤ 100000) (h2 : 0 ≤ B) (h3 : B ≤ 9) : (acc * (10 : Int64) + v.toInt64).toInt = A * 10 + B := by
  have r1 := c_lmul acc (10 : Int64)
  have r2 := c_ladd (acc * (10 : Int64)) v.toInt64
  have r3 := rng64 (acc * (10 : Int64))
  have r4 := rng64 (acc * (10 : Int64) + v.toInt64)
  have e10 : (10 : Int64).toInt = 10 := rfl
  have ev : v.toInt64.toInt = v.toInt := c_i2l v
  rw [e10] at r1
  omega
theorem lead_ne {v : Int32} (h : 1 ≤ v.toInt ∧ v.toInt ≤ 9) : ¬ f_d v = (48 : Int32) := fun e => by
  have q := fd_val (v := v) (by omega) h.2
  have e48 : (48 : Int32).toInt = 48 := rfl
  rw [e] at q; omega
theorem plain {n len : Int32} (h : okN len n) : (parseSpec (spellCs n len) (10 : Int32)).toInt = n.toInt := by
  have hn := h.nn
  have z0 : (0 : Int64).toInt = 0 := rfl
  have e0 := rem10 hn
  have e1 := remk (n := n) (k := 10) (d := 10) rfl (by decide) (by decide) hn
  have e2 := remk (n := n) (k := 100) (d := 100) rfl (by decide) (by decide) hn
  have e3 := remk (n := n) (k := 1000) (d := 1000) rfl (by decide) (by decide) hn
  have e4 := remk (n := n) (k := 10000) (d := 10000) rfl (by decide) (by decide) hn
  have d0 := dg0 hn
  have d1 := dgk (n := n) (k := 10) (d := 10) rfl (by decide) (by decide) hn
  have d2 := dgk (n := n) (k := 100) (d := 100) rfl (by decide) (by decide) hn
  have d3 := dgk (n := n) (k := 1000) (d := 1000) rfl (by decide) (by decide) hn
  have d4 := dgk (n := n) (k := 10000) (d := 10000) rfl (by decide) (by decide) hn
  have fm : f_min (10 : Int32) (18 : Int32) = 10 := by decide
  rcases h with ⟨hl, h1, h2⟩ | ⟨hl, h1, h2⟩ | ⟨hl, h1, h2⟩ | ⟨hl, h1, h2⟩ | ⟨l1, l2, l3, l4, h1, h2⟩
  · have ec : spellCs n len = [f_d (n % 10)] := by simp only [spellCs, if_pos hl]
    have es : parseSpec (spellCs n len) (10 : Int32) = parseGo [f_d (n % 10)] 0 := by
      rw [ec]; simp only [parseSpec, fm, List.length]
      rw [if_neg (by decide), if_neg (by decide), if_neg (by decide)]
    rw [es, go_step d0, parseGo]
    have s0 := step_val (acc := 0) (v := n % 10) z0 e0 (by omega) (by omega) (by omega) (by omega)
    omega
  · subst hl
    have ec : spellCs n 2 = [f_d (n / 10 % 10), f_d (n % 10)] := by unfold spellCs; rw [if_neg (by decide), if_pos rfl]
    have ne : ¬ f_d (n / 10 % 10) = (48 : Int32) := lead_ne (by omega)
    have es : parseSpec (spellCs n 2) (10 : Int32) = parseGo [f_d (n / 10 % 10), f_d (n % 10)] 0 := by
      rw [ec]; simp only [parseSpec, fm, List.length]
      rw [if_neg (by decide), if_neg (by decide), if_pos (by decide)]
      show (if f_d (n / 10 % 10) = (48 : Int32) then _ else _) = _
      rw [if_neg ne]
    rw [es, go_step d1, go_step d0, parseGo]
    have s1 := step_val (acc := 0) (v := n / 10 % 10) z0 e1 (by omega) (by omega) (by omega) (by omega)
    have s0 := step_val (v := n % 10) s1 e0 (by omega) (by omega) (by omega) (by omega)
    omega
  · subst hl
    have ec : spellCs n 3 = [f_d (n / 100 % 10), f_d (n / 10 % 10), f_d (n % 10)] := by unfold spellCs; rw [if_neg (by decide), if_neg (by decide), if_pos rfl]
    have ne : ¬ f_d (n / 100 % 10) = (48 : Int32) := lead_ne (by omega)
    have es : parseSpec (spellCs n 3) (10 : Int32) = parseGo [f_d (n / 100 % 10), f_d (n / 10 % 10), f_d (n % 10)] 0 := by
      rw [ec]; simp only [parseSpec, fm, List.length]
      rw [if_neg (by decide), if_neg (by decide), if_pos (by decide)]
      show (if f_d (n / 100 % 10) = (48 : Int32) then _ else _) = _
      rw [if_neg ne]
    rw [es, go_step d2, go_step d1, go_step d0, parseGo]
    have s2 := step_val (acc := 0) (v := n / 100 % 10) z0 e2 (by omega) (by omega) (by omega) (by omega)
    have s1 := step_val (v := n / 10 % 10) s2 e1 (by omega) (by omega) (by omega) (by omega)
    have s0 := step_val (v := n % 10) s1 e0 (by omega) (by omega) (by omega) (by omega)
    omega
  · subst hl
    have ec : spellCs n 4 = [f_d (n / 1000 % 10), f_d (n / 100 % 10), f_d (n / 10 % 10), f_d (n % 10)] := by unfold spellCs; rw [if_neg (by decide), if_neg (by decide), if_neg (by decide), if_pos rfl]
    have ne : ¬ f_d (n / 1000 % 10) = (48 : Int32) := lead_ne (by omega)
    have es : parseSpec (spellCs n 4) (10 : Int32) = parseGo [f_d (n / 1000 % 10), f_d (n / 100 % 10), f_d (n / 10 % 10), f_d (n % 10)] 0 := by
      rw [ec]; simp only [parseSpec, fm, List.length]
      rw [if_neg (by decide), if_neg (by decide), if_pos (by decide)]
      show (if f_d (n / 1000 % 10) = (48 : Int32) then _ else _) = _
      rw [if_neg ne]
    rw [es, go_step d3, go_step d2, go_step d1, go_step d0, parseGo]
    have s3 := step_val (acc := 0) (v := n / 1000 % 10) z0 e3 (by omega) (by omega) (by omega) (by omega)
    have s2 := step_val (v := n / 100 % 10) s3 e2 (by omega) (by omega) (by omega) (by omega)
    have s1 := step_val (v := n / 10 % 10) s2 e1 (by omega) (by omega) (by omega) (by omega)
    have s0 := step_val (v := n % 10) s1 e0 (by omega) (by omega) (by omega) (by omega)
    omega
  · have ec : spellCs n len = [f_d (n / 10000 % 10), f_d (n / 1000 % 10), f_d (n / 100 % 10), f_d (n / 10 % 10), f_d (n % 10)] := by simp only [spellCs, if_neg l1, if_neg l2, if_neg l3, if_neg l4]
    have ne : ¬ f_d (n / 10000 % 10) = (48 : Int32) := lead_ne (by omega)
    have es : parseSpec (spellCs n len) (10 : Int32) = parseGo [f_d (n / 10000 % 10), f_d (n / 1000 % 10), f_d (n / 100 % 10), f_d (n / 10 % 10), f_d (n % 10)] 0 := by
      rw [ec]; simp only [parseSpec, fm, List.length]
      rw [if_neg (by decide), if_neg (by decide), if_pos (by decide)]
      show (if f_d (n / 10000 % 10) = (48 : Int32) then _ else _) = _
      rw [if_neg ne]
    rw [es, go_step d4, go_step d3, go_step d2, go_step d1, go_step d0, parseGo]
    have s4 := step_val (acc := 0) (v := n / 10000 % 10) z0 e4 (by omega) (by omega) (by omega) (by omega)
    have s3 := step_val (v := n / 1000 % 10) s4 e3 (by omega) (by omega) (by omega) (by omega)
    have s2 := step_val (v := n / 100 % 10) s3 e2 (by omega) (by omega) (by omega) (by omega)
    have s1 := step_val (v := n / 10 % 10) s2 e1 (by omega) (by omega) (by omega) (by omega)
    have s0 := step_val (v := n % 10) s1 e0 (by omega) (by omega) (by omega) (by omega)
    omega
theorem plain0 {n len : Int32} (h : okN len n) : ¬ parseSpec (spellCs n len) (10 : Int32) < (0 : Int64) := by
  have q := plain h; have := h.nn
  have z0 : (0 : Int64).toInt = 0 := rfl
  rw [Int64.lt_iff_toInt_lt]; omega
theorem plain1 {n len : Int32} (h : okN len n) : parseSpec (spellCs n len) (10 : Int32) < (42950 : Int64) := by
  have q := plain h
  have z0 : (42950 : Int64).toInt = 42950 := rfl
  unfold okN at h
  rw [Int64.lt_iff_toInt_lt]; omega
theorem plain2 {n len : Int32} (h : okN len n) : (parseSpec (spellCs n len) (10 : Int32)).toInt32 = n := by
  apply Int32.toInt_inj.mp
  have q := plain h
  have r := c_l2i (parseSpec (spellCs n len) (10 : Int32))
  have r1 := rng32 n
  have r2 := rng32 (parseSpec (spellCs n len) (10 : Int32)).toInt32
  omega
theorem mask31 (x : Int32) : 0 ≤ (x &&& (2147483647 : Int32)).toInt := (c_and x (2147483647 : Int32) (by decide)).1
theorem ok_rem {x k b : Int32} {d B : Int} (hk : k.toInt = d) (hb : b.toInt = B) (hd : 0 < d) (hd1 : d ≤ 100000) (h0 : 0 ≤ B) (h1 : B ≤ 100000) : B ≤ (b + (x &&& (2147483647 : Int32)) % k).toInt ∧ (b + (x &&& (2147483647 : Int32)) % k).toInt < B + d := by
  have q := (c_irem (x &&& (2147483647 : Int32)) k d hk).1 (mask31 x)
  have r := c_iadd b ((x &&& (2147483647 : Int32)) % k)
  have r1 := rng32 (b + (x &&& (2147483647 : Int32)) % k)
  have r2 := Int.emod_nonneg (x &&& (2147483647 : Int32)).toInt (b := d) (by omega)
  have r3 := Int.emod_lt_of_pos (x &&& (2147483647 : Int32)).toInt hd
  omega
theorem ok_rem0 (x : Int32) : 0 ≤ ((x &&& (2147483647 : Int32)) % (10 : Int32)).toInt ∧ ((x &&& (2147483647 : Int32)) % (10 : Int32)).toInt ≤ 9 := dg0 (mask31 x)
set_option maxRecDepth 65536 in
set_option maxHeartbeats 40000000 in
theorem rmLaw (l : Launch) (Z : State) (a0 : Array Value) (hw : ∀ d ∈ tables_1, d.before a0 Z = true) (ws : List Jvm.Cond) (i0 i1 : Int32) (h0 : Heap) (Z0 : Ext Z.heap h0) (G : Jdk Z) (Sm : Sta Z Z.heap "com/example/askel/askel/Uid" "MAX_DIGITS" "I" (.int 10)) :
    MetN l Z x code maxLocals ret ws room_1 #[(.int i0), (.int i1)] h0 (fun v _ => v = some (.int 1)) := by
  refine metN (by first | exact plainFor_of_name (by first | (simp [plainName, overriddenIn]; done) | decide +kernel) | decide +kernel) Z0 (Ls := #[.val (.int i0), .val (.int i1), .unset, .unset, .unset, .unset]) (fun m => by first | (simp [entryFrame, mkF, argsToLocals, Value.category, maxLocals]; done) | rfl) ?_
  intro p e s m below meth c T0 hx hby hml hret hlk hown hnm hZ N0
  have hown : s.vm.findClass "com/example/askel/askel/UidParseSectionPinLaw" = some m.cls := hown
  have hret : meth.sig.returnType = some .boolean := hret
  have hml : c.maxLocals = 6 := hml
  have join : ∀ (T1 : State) (n : Int32), Now p l e room_1 s m #[(.int i0), (.int i1)] below meth c Z T1 h0 0 0 → okN (((i1 &&& (2147483647 : Int32)) % (5 : Int32)) + (1 : Int32)) n → Ends p e below (PhiN Z s (fun v _ => v = some (.int 1)) room_1.cells room_1.slots) T1 (mkF m 92 #[.val (.int i0), .val (.int i1), .val (.int (((i1 &&& (2147483647 : Int32)) % (5 : Int32)) + (1 : Int32))), .val (.int (i0 &&& (2147483647 : Int32))), .val (.int n), .unset] []) := by
    intro T1 n N1 ok
    refine Ends.go (f' := (mkF m 94 #[.val (.int i0), .val (.int i1), .val (.int (((i1 &&& (2147483647 : Int32)) % (5 : Int32)) + (1 : Int32))), .val (.int (i0 &&& (2147483647 : Int32))), .val (.int n), .unset] [(.int n)])) (fun t k => XS.iload N1.here hx rfl (hb hby at_92) rfl k) ?_
    refine Ends.go (f' := (mkF m 95 #[.val (.int i0), .val (.int i1), .val (.int (((i1 &&& (2147483647 : Int32)) % (5 : Int32)) + (1 : Int32))), .val (.int (i0 &&& (2147483647 : Int32))), .val (.int n), .unset] [(.int (((i1 &&& (2147483647 : Int32)) % (5 : Int32)) + (1 : Int32))), (.int n)])) (fun t k => XS.iloadN N1.here hx rfl (hb hby at_94) rfl k) ?_
    refine gStatic (W := 0) (argsL := [(.int n), (.int (((i1 &&& (2147483647 : Int32)) % (5 : Int32)) + (1 : Int32)))]) (rest := []) N1 hx hZ hown (hw _ (List.mem_of_getElem? (i := 1) rfl)) (hw _ (List.mem_of_getElem? (i := 2) rfl)) (hw _ (List.mem_of_getElem? (i := 3) rfl)) (hw _ (List.mem_of_getElem? (i := 4) rfl)) (by decide) ((rm1 l Z a0 hw n (((i1 &&& (2147483647 : Int32)) % (5 : Int32)) + (1 : Int32)) h0 N1.ext G ok.nn).back (W := 0) hZ (hw _ (List.mem_of_getElem? (i := 4) rfl)) (hw _ (List.mem_of_getElem? (i := 3) rfl)) (nle rfl) (nle rfl)) (hb hby at_95) rfl (by rw [hml]; rfl) (lenOf (by decide +kernel : parseMethodDescriptor "(II)Ljava/lang/String;" = some ⟨[.int, .int], (some (.object "java/lang/String"))⟩) rfl) (nle rfl) (nle rfl) (nle rfl) (fun _ _ _ q => q.2) ?_
    rintro _ T1 h3 _ N2 ⟨⟨a4, rfl, E5, S6⟩, -⟩
    show Ends p e below _ T1 (mkF m 98 #[.val (.int i0), .val (.int i1), .val (.int (((i1 &&& (2147483647 : Int32)) % (5 : Int32)) + (1 : Int32))), .val (.int (i0 &&& (2147483647 : Int32))), .val (.int n), .unset] [(.ref a4)])
    refine Ends.go (f' := (mkF m 100 #[.val (.int i0), .val (.int i1), .val (.int (((i1 &&& (2147483647 : Int32)) % (5 : Int32)) + (1 : Int32))), .val (.int (i0 &&& (2147483647 : Int32))), .val (.int n), .val (.ref a4)] [])) (fun t k => XS.astore N2.here hx rfl (hb hby at_98) rfl rfl (l' := #[.val (.int i0), .val (.int i1), .val (.int (((i1 &&& (2147483647 : Int32)) % (5 : Int32)) + (1 : Int32))), .val (.int (i0 &&& (2147483647 : Int32))), .val (.int n), .val (.ref a4)]) rfl k) ?_
    refine Ends.go (f' := (mkF m 102 #[.val (.int i0), .val (.int i1), .val (.int (((i1 &&& (2147483647 : Int32)) % (5 : Int32)) + (1 : Int32))), .val (.int (i0 &&& (2147483647 : Int32))), .val (.int n), .val (.ref a4)] [(.ref a4)])) (fun t k => XS.aload N2.here hx rfl (hb hby at_100) rfl rfl k) ?_
    refine gStatic (W := 0) (argsL := [(.ref a4)]) (rest := []) N2 hx hZ hown (hw _ (List.mem_of_getElem? (i := 38) rfl)) (hw _ (List.mem_of_getElem? (i := 39) rfl)) (hw _ (List.mem_of_getElem? (i := 40) rfl)) (hw _ (List.mem_of_getElem? (i := 41) rfl)) (by decide) ((rm9 l Z a0 hw a4 (spellCs n (((i1 &&& (2147483647 : Int32)) % (5 : Int32)) + (1 : Int32))) h3 N2.ext G S6 Sm (plain0 ok) (plain1 ok)).back (W := 0) hZ (hw _ (List.mem_of_getElem? (i := 41) rfl)) (hw _ (List.mem_of_getElem? (i := 40) rfl)) (nle rfl) (nle rfl)) (hb hby at_102) rfl (by rw [hml]; rfl) (lenOf (by decide +kernel : parseMethodDescriptor "(Ljava/lang/CharSequence;)I" = some ⟨[(.object "java/lang/CharSequence")], (some .int)⟩) rfl) (nle rfl) (nle rfl) (nle rfl) (fun _ _ _ q => q.2) ?_
    rintro _ T7 _ _ N8 ⟨⟨rfl, e_h⟩, -⟩; rw [e_h] at N8; clear e_h
    show Ends p e below _ T7 (mkF m 105 #[.val (.int i0), .val (.int i1), .val (.int (((i1 &&& (2147483647 : Int32)) % (5 : Int32)) + (1 : Int32))), .val (.int (i0 &&& (2147483647 : Int32))), .val (.int n), .val (.ref a4)] [(.int ((parseSpec (spellCs n (((i1 &&& (2147483647 : Int32)) % (5 : Int32)) + (1 : Int32))) (10 : Int32)).toInt32))])
    refine Ends.go (f' := (mkF m 107 #[.val (.int i0), .val (.int i1), .val (.int (((i1 &&& (2147483647 : Int32)) % (5 : Int32)) + (1 : Int32))), .val (.int (i0 &&& (2147483647 : Int32))), .val (.int n), .val (.ref a4)] [(.int n), (.int ((parseSpec (spellCs n (((i1 &&& (2147483647 : Int32)) % (5 : Int32)) + (1 : Int32))) (10 : Int32)).toInt32))])) (fun t k => XS.iload N8.here hx rfl (hb hby at_105) rfl k) ?_
    refine Ends.go (f' := (mkF m 110 #[.val (.int i0), .val (.int i1), .val (.int (((i1 &&& (2147483647 : Int32)) % (5 : Int32)) + (1 : Int32))), .val (.int (i0 &&& (2147483647 : Int32))), .val (.int n), .val (.ref a4)] [])) (fun t k => XS.icmpNo N8.here hx rfl (hb hby at_107) rfl (XT.ii_ne_f (plain2 ok)) k) ?_
    refine Ends.go (f' := (mkF m 111 #[.val (.int i0), .val (.int i1), .val (.int (((i1 &&& (2147483647 : Int32)) % (5 : Int32)) + (1 : Int32))), .val (.int (i0 &&& (2147483647 : Int32))), .val (.int n), .val (.ref a4)] [(.int (1 : Int32))])) (fun t k => XS.iconst N8.here hx rfl (hb hby at_110) k) ?_
    refine Ends.go (f' := (mkF m 115 #[.val (.int i0), .val (.int i1), .val (.int (((i1 &&& (2147483647 : Int32)) % (5 : Int32)) + (1 : Int32))), .val (.int (i0 &&& (2147483647 : Int32))), .val (.int n), .val (.ref a4)] [(.int (1 : Int32))])) (fun t k => XS.goto N8.here hx rfl (pc0 := 111) (pc' := 115) rfl (hb hby at_111) (by decide) (by decide) k) ?_
    exact retZ N8 hx hlk hret (by simp) (hb hby at_115) rfl (nle rfl) (nle rfl)
  refine Ends.go (f' := (mkF m 1 #[.val (.int i0), .val (.int i1), .unset, .unset, .unset, .unset] [(.int i1)])) (fun t k => XS.iloadN N0.here hx rfl (hb hby at_0) rfl k) ?_
  refine gLdcI N0 hx hZ hown (hw _ (List.mem_of_getElem? (i := 0) rfl)) (hb hby at_1) ?_
  show Ends p e below _ T0 (mkF m 3 #[.val (.int i0), .val (.int i1), .unset, .unset, .unset, .unset] [(.int (2147483647 : Int32)), (.int i1)])
  refine Ends.go (f' := (mkF m 4 #[.val (.int i0), .val (.int i1), .unset, .unset, .unset, .unset] [(.int (i1 &&& (2147483647 : Int32)))])) (fun t k => XS.iand N0.here hx rfl (hb hby at_3) rfl k) ?_
  refine Ends.go (f' := (mkF m 5 #[.val (.int i0), .val (.int i1), .unset, .unset, .unset, .unset] [(.int (5 : Int32)), (.int (i1 &&& (2147483647 : Int32)))])) (fun t k => XS.iconst N0.here hx rfl (hb hby at_4) k) ?_
  refine Ends.go (f' := (mkF m 6 #[.val (.int i0), .val (.int i1), .unset, .unset, .unset, .unset] [(.int ((i1 &&& (2147483647 : Int32)) % (5 : Int32)))])) (fun t k => gIrem N0 hx (hb hby at_5) (by decide) k) ?_
  refine Ends.go (f' := (mkF m 7 #[.val (.int i0), .val (.int i1), .unset, .unset, .unset, .unset] [(.int (1 : Int32)), (.int ((i1 &&& (2147483647 : Int32)) % (5 : Int32)))])) (fun t k => XS.iconst N0.here hx rfl (hb hby at_6) k) ?_
  refine Ends.go (f' := (mkF m 8 #[.val (.int i0), .val (.int i1), .unset, .unset, .unset, .unset] [(.int (((i1 &&& (2147483647 : Int32)) % (5 : Int32)) + (1 : Int32)))])) (fun t k => XS.iadd N0.here hx rfl (hb hby at_7) rfl k) ?_
  refine Ends.go (f' := (mkF m 9 #[.val (.int i0), .val (.int i1), .val (.int (((i1 &&& (2147483647 : Int32)) % (5 : Int32)) + (1 : Int32))), .unset, .unset, .unset] [])) (fun t k => XS.istoreN N0.here hx rfl (hb hby at_8) rfl (l' := #[.val (.int i0), .val (.int i1), .val (.int (((i1 &&& (2147483647 : Int32)) % (5 : Int32)) + (1 : Int32))), .unset, .unset, .unset]) rfl k) ?_
  refine Ends.go (f' := (mkF m 10 #[.val (.int i0), .val (.int i1), .val (.int (((i1 &&& (2147483647 : Int32)) % (5 : Int32)) + (1 : Int32))), .unset, .unset, .unset] [(.int i0)])) (fun t k => XS.iloadN N0.here hx rfl (hb hby at_9) rfl k) ?_
  refine gLdcI N0 hx hZ hown (hw _ (List.mem_of_getElem? (i := 0) rfl)) (hb hby at_10) ?_
  show Ends p e below _ T0 (mkF m 12 #[.val (.int i0), .val (.int i1), .val (.int (((i1 &&& (2147483647 : Int32)) % (5 : Int32)) + (1 : Int32))), .unset, .unset, .unset] [(.int (2147483647 : Int32)), (.int i0)])
  refine Ends.go (f' := (mkF m 13 #[.val (.int i0), .val (.int i1), .val (.int (((i1 &&& (2147483647 : Int32)) % (5 : Int32)) + (1 : Int32))), .unset, .unset, .unset] [(.int (i0 &&& (2147483647 : Int32)))])) (fun t k => XS.iand N0.here hx rfl (hb hby at_12) rfl k) ?_
  refine Ends.go (f' := (mkF m 14 #[.val (.int i0), .val (.int i1), .val (.int (((i1 &&& (2147483647 : Int32)) % (5 : Int32)) + (1 : Int32))), .val (.int (i0 &&& (2147483647 : Int32))), .unset, .unset] [])) (fun t k => XS.istoreN N0.here hx rfl (hb hby at_13) rfl (l' := #[.val (.int i0), .val (.int i1), .val (.int (((i1 &&& (2147483647 : Int32)) % (5 : Int32)) + (1 : Int32))), .val (.int (i0 &&& (2147483647 : Int32))), .unset, .unset]) rfl k) ?_
  refine Ends.go (f' := (mkF m 15 #[.val (.int i0), .val (.int i1), .val (.int (((i1 &&& (2147483647 : Int32)) % (5 : Int32)) + (1 : Int32))), .val (.int (i0 &&& (2147483647 : Int32))), .unset, .unset] [(.int (((i1 &&& (2147483647 : Int32)) % (5 : Int32)) + (1 : Int32)))])) (fun t k => XS.iloadN N0.here hx rfl (hb hby at_14) rfl k) ?_
  refine Ends.go (f' := (mkF m 16 #[.val (.int i0), .val (.int i1), .val (.int (((i1 &&& (2147483647 : Int32)) % (5 : Int32)) + (1 : Int32))), .val (.int (i0 &&& (2147483647 : Int32))), .unset, .unset] [(.int (1 : Int32)), (.int (((i1 &&& (2147483647 : Int32)) % (5 : Int32)) + (1 : Int32)))])) (fun t k => XS.iconst N0.here hx rfl (hb hby at_15) k) ?_
  by_cases c1 : (((i1 &&& (2147483647 : Int32)) % (5 : Int32)) + (1 : Int32)) = (1 : Int32)
  · refine Ends.go (f' := (mkF m 19 #[.val (.int i0), .val (.int i1), .val (.int (((i1 &&& (2147483647 : Int32)) % (5 : Int32)) + (1 : Int32))), .val (.int (i0 &&& (2147483647 : Int32))), .unset, .unset] [])) (fun t k => XS.icmpNo N0.here hx rfl (hb hby at_16) rfl (XT.ii_ne_f c1) k) ?_
    refine Ends.go (f' := (mkF m 20 #[.val (.int i0), .val (.int i1), .val (.int (((i1 &&& (2147483647 : Int32)) % (5 : Int32)) + (1 : Int32))), .val (.int (i0 &&& (2147483647 : Int32))), .unset, .unset] [(.int (i0 &&& (2147483647 : Int32)))])) (fun t k => XS.iloadN N0.here hx rfl (hb hby at_19) rfl k) ?_
    refine Ends.go (f' := (mkF m 22 #[.val (.int i0), .val (.int i1), .val (.int (((i1 &&& (2147483647 : Int32)) % (5 : Int32)) + (1 : Int32))), .val (.int (i0 &&& (2147483647 : Int32))), .unset, .unset] [(.int (10 : Int32)), (.int (i0 &&& (2147483647 : Int32)))])) (fun t k => XS.bipush N0.here hx rfl (hb hby at_20) k) ?_
    refine Ends.go (f' := (mkF m 23 #[.val (.int i0), .val (.int i1), .val (.int (((i1 &&& (2147483647 : Int32)) % (5 : Int32)) + (1 : Int32))), .val (.int (i0 &&& (2147483647 : Int32))), .unset, .unset] [(.int ((i0 &&& (2147483647 : Int32)) % (10 : Int32)))])) (fun t k => gIrem N0 hx (hb hby at_22) (by decide) k) ?_
    refine Ends.go (f' := (mkF m 25 #[.val (.int i0), .val (.int i1), .val (.int (((i1 &&& (2147483647 : Int32)) % (5 : Int32)) + (1 : Int32))), .val (.int (i0 &&& (2147483647 : Int32))), .val (.int ((i0 &&& (2147483647 : Int32)) % (10 : Int32))), .unset] [])) (fun t k => XS.istore N0.here hx rfl (hb hby at_23) rfl (l' := #[.val (.int i0), .val (.int i1), .val (.int (((i1 &&& (2147483647 : Int32)) % (5 : Int32)) + (1 : Int32))), .val (.int (i0 &&& (2147483647 : Int32))), .val (.int ((i0 &&& (2147483647 : Int32)) % (10 : Int32))), .unset]) rfl k) ?_
    refine Ends.go (f' := (mkF m 92 #[.val (.int i0), .val (.int i1), .val (.int (((i1 &&& (2147483647 : Int32)) % (5 : Int32)) + (1 : Int32))), .val (.int (i0 &&& (2147483647 : Int32))), .val (.int ((i0 &&& (2147483647 : Int32)) % (10 : Int32))), .unset] [])) (fun t k => XS.goto N0.here hx rfl (pc0 := 25) (pc' := 92) rfl (hb hby at_25) (by decide) (by decide) k) ?_
    exact join T0 _ N0 (Or.inl ⟨c1, ok_rem0 _⟩)
  · refine Ends.go (f' := (mkF m 28 #[.val (.int i0), .val (.int i1), .val (.int (((i1 &&& (2147483647 : Int32)) % (5 : Int32)) + (1 : Int32))), .val (.int (i0 &&& (2147483647 : Int32))), .unset, .unset] [])) (fun t k => XS.icmpYes N0.here hx rfl (pc0 := 16) (pc' := 28) rfl (hb hby at_16) rfl (XT.ii_ne_t c1) (by decide) (by decide) k) ?_
    refine Ends.go (f' := (mkF m 29 #[.val (.int i0), .val (.int i1), .val (.int (((i1 &&& (2147483647 : Int32)) % (5 : Int32)) + (1 : Int32))), .val (.int (i0 &&& (2147483647 : Int32))), .unset, .unset] [(.int (((i1 &&& (2147483647 : Int32)) % (5 : Int32)) + (1 : Int32)))])) (fun t k => XS.iloadN N0.here hx rfl (hb hby at_28) rfl k) ?_
    refine Ends.go (f' := (mkF m 30 #[.val (.int i0), .val (.int i1), .val (.int (((i1 &&& (2147483647 : Int32)) % (5 : Int32)) + (1 : Int32))), .val (.int (i0 &&& (2147483647 : Int32))), .unset, .unset] [(.int (2 : Int32)), (.int (((i1 &&& (2147483647 : Int32)) % (5 : Int32)) + (1 : Int32)))])) (fun t k => XS.iconst N0.here hx rfl (hb hby at_29) k) ?_
    by_cases c2 : (((i1 &&& (2147483647 : Int32)) % (5 : Int32)) + (1 : Int32)) = (2 : Int32)
    · refine Ends.go (f' := (mkF m 33 #[.val (.int i0), .val (.int i1), .val (.int (((i1 &&& (2147483647 : Int32)) % (5 : Int32)) + (1 : Int32))), .val (.int (i0 &&& (2147483647 : Int32))), .unset, .unset] [])) (fun t k => XS.icmpNo N0.here hx rfl (hb hby at_30) rfl (XT.ii_ne_f c2) k) ?_
      refine Ends.go (f' := (mkF m 35 #[.val (.int i0), .val (.int i1), .val (.int (((i1 &&& (2147483647 : Int32)) % (5 : Int32)) + (1 : Int32))), .val (.int (i0 &&& (2147483647 : Int32))), .unset, .unset] [(.int (10 : Int32))])) (fun t k => XS.bipush N0.here hx rfl (hb hby at_33) k) ?_
      refine Ends.go (f' := (mkF m 36 #[.val (.int i0), .val (.int i1), .val (.int (((i1 &&& (2147483647 : Int32)) % (5 : Int32)) + (1 : Int32))), .val (.int (i0 &&& (2147483647 : Int32))), .unset, .unset] [(.int (i0 &&& (2147483647 : Int32))), (.int (10 : Int32))])) (fun t k => XS.iloadN N0.here hx rfl (hb hby at_35) rfl k) ?_
      refine Ends.go (f' := (mkF m 38 #[.val (.int i0), .val (.int i1), .val (.int (((i1 &&& (2147483647 : Int32)) % (5 : Int32)) + (1 : Int32))), .val (.int (i0 &&& (2147483647 : Int32))), .unset, .unset] [(.int (90 : Int32)), (.int (i0 &&& (2147483647 : Int32))), (.int (10 : Int32))])) (fun t k => XS.bipush N0.here hx rfl (hb hby at_36) k) ?_
      refine Ends.go (f' := (mkF m 39 #[.val (.int i0), .val (.int i1), .val (.int (((i1 &&& (2147483647 : Int32)) % (5 : Int32)) + (1 : Int32))), .val (.int (i0 &&& (2147483647 : Int32))), .unset, .unset] [(.int ((i0 &&& (2147483647 : Int32)) % (90 : Int32))), (.int (10 : Int32))])) (fun t k => gIrem N0 hx (hb hby at_38) (by decide) k) ?_
      refine Ends.go (f' := (mkF m 40 #[.val (.int i0), .val (.int i1), .val (.int (((i1 &&& (2147483647 : Int32)) % (5 : Int32)) + (1 : Int32))), .val (.int (i0 &&& (2147483647 : Int32))), .unset, .unset] [(.int ((10 : Int32) + ((i0 &&& (2147483647 : Int32)) % (90 : Int32))))])) (fun t k => XS.iadd N0.here hx rfl (hb hby at_39) rfl k) ?_
      refine Ends.go (f' := (mkF m 42 #[.val (.int i0), .val (.int i1), .val (.int (((i1 &&& (2147483647 : Int32)) % (5 : Int32)) + (1 : Int32))), .val (.int (i0 &&& (2147483647 : Int32))), .val (.int ((10 : Int32) + ((i0 &&& (2147483647 : Int32)) % (90 : Int32)))), .unset] [])) (fun t k => XS.istore N0.here hx rfl (hb hby at_40) rfl (l' := #[.val (.int i0), .val (.int i1), .val (.int (((i1 &&& (2147483647 : Int32)) % (5 : Int32)) + (1 : Int32))), .val (.int (i0 &&& (2147483647 : Int32))), .val (.int ((10 : Int32) + ((i0 &&& (2147483647 : Int32)) % (90 : Int32)))), .unset]) rfl k) ?_
      refine Ends.go (f' := (mkF m 92 #[.val (.int i0), .val (.int i1), .val (.int (((i1 &&& (2147483647 : Int32)) % (5 : Int32)) + (1 : Int32))), .val (.int (i0 &&& (2147483647 : Int32))), .val (.int ((10 : Int32) + ((i0 &&& (2147483647 : Int32)) % (90 : Int32)))), .unset] [])) (fun t k => XS.goto N0.here hx rfl (pc0 := 42) (pc' := 92) rfl (hb hby at_42) (by decide) (by decide) k) ?_
      exact join T0 _ N0 (Or.inr (Or.inl ⟨c2, by have q := ok_rem (x := i0) (k := 90) (b := 10) (d := 90) (B := 10) rfl rfl (by decide) (by decide) (by decide) (by decide); omega⟩))
    · refine Ends.go (f' := (mkF m 45 #[.val (.int i0), .val (.int i1), .val (.int (((i1 &&& (2147483647 : Int32)) % (5 : Int32)) + (1 : Int32))), .val (.int (i0 &&& (2147483647 : Int32))), .unset, .unset] [])) (fun t k => XS.icmpYes N0.here hx rfl (pc0 := 30) (pc' := 45) rfl (hb hby at_30) rfl (XT.ii_ne_t c2) (by decide) (by decide) k) ?_
      refine Ends.go (f' := (mkF m 46 #[.val (.int i0), .val (.int i1), .val (.int (((i1 &&& (2147483647 : Int32)) % (5 : Int32)) + (1 : Int32))), .val (.int (i0 &&& (2147483647 : Int32))), .unset, .unset] [(.int (((i1 &&& (2147483647 : Int32)) % (5 : Int32)) + (1 : Int32)))])) (fun t k => XS.iloadN N0.here hx rfl (hb hby at_45) rfl k) ?_
      refine Ends.go (f' := (mkF m 47 #[.val (.int i0), .val (.int i1), .val (.int (((i1 &&& (2147483647 : Int32)) % (5 : Int32)) + (1 : Int32))), .val (.int (i0 &&& (2147483647 : Int32))), .unset, .unset] [(.int (3 : Int32)), (.int (((i1 &&& (2147483647 : Int32)) % (5 : Int32)) + (1 : Int32)))])) (fun t k => XS.iconst N0.here hx rfl (hb hby at_46) k) ?_
      by_cases c3 : (((i1 &&& (2147483647 : Int32)) % (5 : Int32)) + (1 : Int32)) = (3 : Int32)
      · refine Ends.go (f' := (mkF m 50 #[.val (.int i0), .val (.int i1), .val (.int (((i1 &&& (2147483647 : Int32)) % (5 : Int32)) + (1 : Int32))), .val (.int (i0 &&& (2147483647 : Int32))), .unset, .unset] [])) (fun t k => XS.icmpNo N0.here hx rfl (hb hby at_47) rfl (XT.ii_ne_f c3) k) ?_
        refine Ends.go (f' := (mkF m 52 #[.val (.int i0), .val (.int i1), .val (.int (((i1 &&& (2147483647 : Int32)) % (5 : Int32)) + (1 : Int32))), .val (.int (i0 &&& (2147483647 : Int32))), .unset, .unset] [(.int (100 : Int32))])) (fun t k => XS.bipush N0.here hx rfl (hb hby at_50) k) ?_
        refine Ends.go (f' := (mkF m 53 #[.val (.int i0), .val (.int i1), .val (.int (((i1 &&& (2147483647 : Int32)) % (5 : Int32)) + (1 : Int32))), .val (.int (i0 &&& (2147483647 : Int32))), .unset, .unset] [(.int (i0 &&& (2147483647 : Int32))), (.int (100 : Int32))])) (fun t k => XS.iloadN N0.here hx rfl (hb hby at_52) rfl k) ?_
        refine Ends.go (f' := (mkF m 56 #[.val (.int i0), .val (.int i1), .val (.int (((i1 &&& (2147483647 : Int32)) % (5 : Int32)) + (1 : Int32))), .val (.int (i0 &&& (2147483647 : Int32))), .unset, .unset] [(.int (900 : Int32)), (.int (i0 &&& (2147483647 : Int32))), (.int (100 : Int32))])) (fun t k => XS.sipush N0.here hx rfl (hb hby at_53) k) ?_
        refine Ends.go (f' := (mkF m 57 #[.val (.int i0), .val (.int i1), .val (.int (((i1 &&& (2147483647 : Int32)) % (5 : Int32)) + (1 : Int32))), .val (.int (i0 &&& (2147483647 : Int32))), .unset, .unset] [(.int ((i0 &&& (2147483647 : Int32)) % (900 : Int32))), (.int (100 : Int32))])) (fun t k => gIrem N0 hx (hb hby at_56) (by decide) k) ?_
        refine Ends.go (f' := (mkF m 58 #[.val (.int i0), .val (.int i1), .val (.int (((i1 &&& (2147483647 : Int32)) % (5 : Int32)) + (1 : Int32))), .val (.int (i0 &&& (2147483647 : Int32))), .unset, .unset] [(.int ((100 : Int32) + ((i0 &&& (2147483647 : Int32)) % (900 : Int32))))])) (fun t k => XS.iadd N0.here hx rfl (hb hby at_57) rfl k) ?_
        refine Ends.go (f' := (mkF m 60 #[.val (.int i0), .val (.int i1), .val (.int (((i1 &&& (2147483647 : Int32)) % (5 : Int32)) + (1 : Int32))), .val (.int (i0 &&& (2147483647 : Int32))), .val (.int ((100 : Int32) + ((i0 &&& (2147483647 : Int32)) % (900 : Int32)))), .unset] [])) (fun t k => XS.istore N0.here hx rfl (hb hby at_58) rfl (l' := #[.val (.int i0), .val (.int i1), .val (.int (((i1 &&& (2147483647 : Int32)) % (5 : Int32)) + (1 : Int32))), .val (.int (i0 &&& (2147483647 : Int32))), .val (.int ((100 : Int32) + ((i0 &&& (2147483647 : Int32)) % (900 : Int32)))), .unset]) rfl k) ?_
        refine Ends.go (f' := (mkF m 92 #[.val (.int i0), .val (.int i1), .val (.int (((i1 &&& (2147483647 : Int32)) % (5 : Int32)) + (1 : Int32))), .val (.int (i0 &&& (2147483647 : Int32))), .val (.int ((100 : Int32) + ((i0 &&& (2147483647 : Int32)) % (900 : Int32)))), .unset] [])) (fun t k => XS.goto N0.here hx rfl (pc0 := 60) (pc' := 92) rfl (hb hby at_60) (by decide) (by decide) k) ?_
        exact join T0 _ N0 (Or.inr (Or.inr (Or.inl ⟨c3, by have q := ok_rem (x := i0) (k := 900) (b := 100) (d := 900) (B := 100) rfl rfl (by decide) (by decide) (by decide) (by decide); omega⟩)))
      · refine Ends.go (f' := (mkF m 63 #[.val (.int i0), .val (.int i1), .val (.int (((i1 &&& (2147483647 : Int32)) % (5 : Int32)) + (1 : Int32))), .val (.int (i0 &&& (2147483647 : Int32))), .unset, .unset] [])) (fun t k => XS.icmpYes N0.here hx rfl (pc0 := 47) (pc' := 63) rfl (hb hby at_47) rfl (XT.ii_ne_t c3) (by decide) (by decide) k) ?_
        refine Ends.go (f' := (mkF m 64 #[.val (.int i0), .val (.int i1), .val (.int (((i1 &&& (2147483647 : Int32)) % (5 : Int32)) + (1 : Int32))), .val (.int (i0 &&& (2147483647 : Int32))), .unset, .unset] [(.int (((i1 &&& (2147483647 : Int32)) % (5 : Int32)) + (1 : Int32)))])) (fun t k => XS.iloadN N0.here hx rfl (hb hby at_63) rfl k) ?_
        refine Ends.go (f' := (mkF m 65 #[.val (.int i0), .val (.int i1), .val (.int (((i1 &&& (2147483647 : Int32)) % (5 : Int32)) + (1 : Int32))), .val (.int (i0 &&& (2147483647 : Int32))), .unset, .unset] [(.int (4 : Int32)), (.int (((i1 &&& (2147483647 : Int32)) % (5 : Int32)) + (1 : Int32)))])) (fun t k => XS.iconst N0.here hx rfl (hb hby at_64) k) ?_
        by_cases c4 : (((i1 &&& (2147483647 : Int32)) % (5 : Int32)) + (1 : Int32)) = (4 : Int32)
        · refine Ends.go (f' := (mkF m 68 #[.val (.int i0), .val (.int i1), .val (.int (((i1 &&& (2147483647 : Int32)) % (5 : Int32)) + (1 : Int32))), .val (.int (i0 &&& (2147483647 : Int32))), .unset, .unset] [])) (fun t k => XS.icmpNo N0.here hx rfl (hb hby at_65) rfl (XT.ii_ne_f c4) k) ?_
          refine Ends.go (f' := (mkF m 71 #[.val (.int i0), .val (.int i1), .val (.int (((i1 &&& (2147483647 : Int32)) % (5 : Int32)) + (1 : Int32))), .val (.int (i0 &&& (2147483647 : Int32))), .unset, .unset] [(.int (1000 : Int32))])) (fun t k => XS.sipush N0.here hx rfl (hb hby at_68) k) ?_
          refine Ends.go (f' := (mkF m 72 #[.val (.int i0), .val (.int i1), .val (.int (((i1 &&& (2147483647 : Int32)) % (5 : Int32)) + (1 : Int32))), .val (.int (i0 &&& (2147483647 : Int32))), .unset, .unset] [(.int (i0 &&& (2147483647 : Int32))), (.int (1000 : Int32))])) (fun t k => XS.iloadN N0.here hx rfl (hb hby at_71) rfl k) ?_
          refine Ends.go (f' := (mkF m 75 #[.val (.int i0), .val (.int i1), .val (.int (((i1 &&& (2147483647 : Int32)) % (5 : Int32)) + (1 : Int32))), .val (.int (i0 &&& (2147483647 : Int32))), .unset, .unset] [(.int (9000 : Int32)), (.int (i0 &&& (2147483647 : Int32))), (.int (1000 : Int32))])) (fun t k => XS.sipush N0.here hx rfl (hb hby at_72) k) ?_
          refine Ends.go (f' := (mkF m 76 #[.val (.int i0), .val (.int i1), .val (.int (((i1 &&& (2147483647 : Int32)) % (5 : Int32)) + (1 : Int32))), .val (.int (i0 &&& (2147483647 : Int32))), .unset, .unset] [(.int ((i0 &&& (2147483647 : Int32)) % (9000 : Int32))), (.int (1000 : Int32))])) (fun t k => gIrem N0 hx (hb hby at_75) (by decide) k) ?_
          refine Ends.go (f' := (mkF m 77 #[.val (.int i0), .val (.int i1), .val (.int (((i1 &&& (2147483647 : Int32)) % (5 : Int32)) + (1 : Int32))), .val (.int (i0 &&& (2147483647 : Int32))), .unset, .unset] [(.int ((1000 : Int32) + ((i0 &&& (2147483647 : Int32)) % (9000 : Int32))))])) (fun t k => XS.iadd N0.here hx rfl (hb hby at_76) rfl k) ?_
          refine Ends.go (f' := (mkF m 79 #[.val (.int i0), .val (.int i1), .val (.int (((i1 &&& (2147483647 : Int32)) % (5 : Int32)) + (1 : Int32))), .val (.int (i0 &&& (2147483647 : Int32))), .val (.int ((1000 : Int32) + ((i0 &&& (2147483647 : Int32)) % (9000 : Int32)))), .unset] [])) (fun t k => XS.istore N0.here hx rfl (hb hby at_77) rfl (l' := #[.val (.int i0), .val (.int i1), .val (.int (((i1 &&& (2147483647 : Int32)) % (5 : Int32)) + (1 : Int32))), .val (.int (i0 &&& (2147483647 : Int32))), .val (.int ((1000 : Int32) + ((i0 &&& (2147483647 : Int32)) % (9000 : Int32)))), .unset]) rfl k) ?_
          refine Ends.go (f' := (mkF m 92 #[.val (.int i0), .val (.int i1), .val (.int (((i1 &&& (2147483647 : Int32)) % (5 : Int32)) + (1 : Int32))), .val (.int (i0 &&& (2147483647 : Int32))), .val (.int ((1000 : Int32) + ((i0 &&& (2147483647 : Int32)) % (9000 : Int32)))), .unset] [])) (fun t k => XS.goto N0.here hx rfl (pc0 := 79) (pc' := 92) rfl (hb hby at_79) (by decide) (by decide) k) ?_
          exact join T0 _ N0 (Or.inr (Or.inr (Or.inr (Or.inl ⟨c4, by have q := ok_rem (x := i0) (k := 9000) (b := 1000) (d := 9000) (B := 1000) rfl rfl (by decide) (by decide) (by decide) (by decide); omega⟩))))
        · refine Ends.go (f' := (mkF m 82 #[.val (.int i0), .val (.int i1), .val (.int (((i1 &&& (2147483647 : Int32)) % (5 : Int32)) + (1 : Int32))), .val (.int (i0 &&& (2147483647 : Int32))), .unset, .unset] [])) (fun t k => XS.icmpYes N0.here hx rfl (pc0 := 65) (pc' := 82) rfl (hb hby at_65) rfl (XT.ii_ne_t c4) (by decide) (by decide) k) ?_
          refine Ends.go (f' := (mkF m 85 #[.val (.int i0), .val (.int i1), .val (.int (((i1 &&& (2147483647 : Int32)) % (5 : Int32)) + (1 : Int32))), .val (.int (i0 &&& (2147483647 : Int32))), .unset, .unset] [(.int (10000 : Int32))])) (fun t k => XS.sipush N0.here hx rfl (hb hby at_82) k) ?_
          refine Ends.go (f' := (mkF m 86 #[.val (.int i0), .val (.int i1), .val (.int (((i1 &&& (2147483647 : Int32)) % (5 : Int32)) + (1 : Int32))), .val (.int (i0 &&& (2147483647 : Int32))), .unset, .unset] [(.int (i0 &&& (2147483647 : Int32))), (.int (10000 : Int32))])) (fun t k => XS.iloadN N0.here hx rfl (hb hby at_85) rfl k) ?_
          refine gLdcI N0 hx hZ hown (hw _ (List.mem_of_getElem? (i := 93) rfl)) (hb hby at_86) ?_
          show Ends p e below _ T0 (mkF m 88 #[.val (.int i0), .val (.int i1), .val (.int (((i1 &&& (2147483647 : Int32)) % (5 : Int32)) + (1 : Int32))), .val (.int (i0 &&& (2147483647 : Int32))), .unset, .unset] [(.int (32950 : Int32)), (.int (i0 &&& (2147483647 : Int32))), (.int (10000 : Int32))])
          refine Ends.go (f' := (mkF m 89 #[.val (.int i0), .val (.int i1), .val (.int (((i1 &&& (2147483647 : Int32)) % (5 : Int32)) + (1 : Int32))), .val (.int (i0 &&& (2147483647 : Int32))), .unset, .unset] [(.int ((i0 &&& (2147483647 : Int32)) % (32950 : Int32))), (.int (10000 : Int32))])) (fun t k => gIrem N0 hx (hb hby at_88) (by decide) k) ?_
          refine Ends.go (f' := (mkF m 90 #[.val (.int i0), .val (.int i1), .val (.int (((i1 &&& (2147483647 : Int32)) % (5 : Int32)) + (1 : Int32))), .val (.int (i0 &&& (2147483647 : Int32))), .unset, .unset] [(.int ((10000 : Int32) + ((i0 &&& (2147483647 : Int32)) % (32950 : Int32))))])) (fun t k => XS.iadd N0.here hx rfl (hb hby at_89) rfl k) ?_
          refine Ends.go (f' := (mkF m 92 #[.val (.int i0), .val (.int i1), .val (.int (((i1 &&& (2147483647 : Int32)) % (5 : Int32)) + (1 : Int32))), .val (.int (i0 &&& (2147483647 : Int32))), .val (.int ((10000 : Int32) + ((i0 &&& (2147483647 : Int32)) % (32950 : Int32)))), .unset] [])) (fun t k => XS.istore N0.here hx rfl (hb hby at_90) rfl (l' := #[.val (.int i0), .val (.int i1), .val (.int (((i1 &&& (2147483647 : Int32)) % (5 : Int32)) + (1 : Int32))), .val (.int (i0 &&& (2147483647 : Int32))), .val (.int ((10000 : Int32) + ((i0 &&& (2147483647 : Int32)) % (32950 : Int32)))), .unset]) rfl k) ?_
          exact join T0 _ N0 (Or.inr (Or.inr (Or.inr (Or.inr ⟨c1, c2, c3, c4, by have q := ok_rem (x := i0) (k := 32950) (b := 10000) (d := 32950) (B := 10000) rfl rfl (by decide) (by decide) (by decide) (by decide); omega⟩))))
set_option maxRecDepth 65536 in
set_option maxHeartbeats 40000000 in
theorem comes_1 {Post : Tables → Env → Array Value → State → Outcome → State → Prop} (hpost : ∀ tb e args s v u, (limb_1_1.after args s (.returned v) u = true ∧ limb_1_2.after args s (.returned v) u = true ∧ True) → FrameEnd s (.returned v) u (Jvm.fieldLocs frame_1_writes args s ++ Jvm.arrayLocs frame_1_arrays args s ++ Jvm.staticLocs frame_1_statics s) 16 128 → Post tb e args s (.returned v) u) :
    ArmFor flags0 classFile x code maxLocals ret World_1 tables_1 room_1 Calls_1 rest_1 Pre_1 Post := by
  intro l hfl _ _ p e ha hc hk s m args below hf hA hF happ hP
  obtain ⟨hcalls, hrest, hpre⟩ := hP
  obtain ⟨-, -, -, hnamed, -, -, -, hat⟩ := (Spec.applies_iff hf).mp happ
  obtain ⟨hg, hn⟩ := and_e (Cond.before_iff.mp (show (Jvm.Cond.and given_1 narrow_1).before args s = true from hpre))
  obtain ⟨hct, hg0⟩ := and_e hg
  obtain ⟨ha0, hg1⟩ := and_e hg0
  obtain ⟨w0, w1, rfl⟩ : ∃ w0 w1 : Value, args = #[w0, w1] := by
    have hs : args.size = 2 := by simpa [Cond.value, given_1] using hct
    obtain ⟨L⟩ := args
    match L, hs with
    | [w0, w1], _ => exact ⟨w0, w1, rfl⟩
  have hw := fun d (hd : d ∈ tables_1) => atoms_spec (ws := Jvm.Cond.code x code maxLocals ret :: tables_1) hat d (List.mem_cons_of_mem _ hd)
  obtain ⟨hsets, hown0⟩ := atoms_of _ (rest_1_c_eq ▸ (show rest_1_c.before _ s = true from hrest))
  have hfit : Fit s := fun {y c} hc i hi => by
    obtain ⟨ha, rfl⟩ := Array.getElem?_eq_some_iff.mp hc
    have q := List.all_eq_true.mp ((Array.all_eq_true_iff_forall_mem.mp hF) _ (Array.getElem_mem ha)) i (List.mem_range.mpr hi)
    simpa [Array.getElem?_eq_getElem hi] using q
  obtain ⟨i0, ei0⟩ := is_v ha0
  obtain rfl : w0 = (.int i0) := Option.some.inj ei0
  obtain ⟨i1, ei1⟩ := is_v hg1
  obtain rfl : w1 = (.int i1) := Option.some.inj ei1
  have nz := not_v (Cond.before_iff.mp (hsets _ (List.mem_of_getElem? (i := 2) rfl)))
  obtain ⟨zc, ezc⟩ := is_v (Cond.before_iff.mp (hsets _ (List.mem_of_getElem? (i := 1) rfl)))
  have Sc : Sta s s.heap "java/lang/String" "COMPACT_STRINGS" "Z" (.int zc) := Sta.start ezc (Or.inl (hsets _ (List.mem_of_getElem? (i := 0) rfl)))
  obtain ⟨fm, efm, rfm⟩ := isR_v (Cond.before_iff.mp (hsets _ (List.mem_of_getElem? (i := 8) rfl)))
  have Sf : Sta s s.heap "jdk/internal/util/Preconditions" "SIOOBE_FORMATTER" "Ljava/util/function/BiFunction;" fm := Sta.start efm (Or.inl (hsets _ (List.mem_of_getElem? (i := 7) rfl)))
  have hz : ¬ (zc = (0 : Int32)) := gotF (Cond.eq_ints ezc (Term.int_eval (0))) nz
  have G : Jdk s := ⟨⟨zc, Sc, hz⟩, fm, Sf, rfm⟩
  obtain ⟨vm, evm, fvm⟩ := static_fit hfit (hw _ (List.mem_of_getElem? (i := 43) rfl)) (ty := .int) (by decide)
  obtain ⟨xm, rfl⟩ := fit_I fvm (Or.inl rfl)
  have em : xm = (10 : Int32) := gotT (Cond.eq_ints evm (Term.int_eval (10))) hn
  subst em
  have Sm : Sta s s.heap "com/example/askel/askel/Uid" "MAX_DIGITS" "I" (.int 10) := Sta.start evm (Or.inr ⟨(hw _ (List.mem_of_getElem? (i := 40) rfl)), (hw _ (List.mem_of_getElem? (i := 43) rfl))⟩)
  obtain ⟨n, o, h1, h2, h3, _, L, rfl, ⟨rfl, N⟩, hq⟩ := rmLaw l s _ hw tables_1 i0 i1 s.heap (ext_refl _) G Sm p e ha hc hk s m _ below hf ((Spec.applies_iff_loose hf).mp happ).1 ⟨rfl, State.Warmed39.refl s, rfl⟩ trivial
  refine ⟨n, _, h1, h2, h3, hpost _ _ _ _ _ _ ⟨Cond.after_iff.mpr rfl, Cond.after_iff.mpr (eq_i res_at (Term.int_eval (1)) rfl), trivial⟩ ⟨hq.1, hq.2.1, (hq.2.2.sift fun y hy => Or.inr (N y hy)).mono (by decide) (by decide)⟩⟩
theorem main_1_1 : Claimed_1_1 := comes_1 fun _ _ _ _ _ _ h hF => ⟨h.1, hF⟩
theorem main_1_2 : Claimed_1_2 := comes_1 fun _ _ _ _ _ _ h hF => ⟨h.2.1, hF⟩
end Jvm.Pilot.@@N@@
namespace Jvm.Pilot.@@N@@
open Jvm Jvm.ClassFile Sem Op Lib Jvm.Free Jvm.Stand Jvm.Pilot.@@N@@.Jvm.D
/-! MADE BY PROGRAM (witnessworld.py) out of the Statement's table words and the real class files: 23 classes; the members and pool entries that the words name. The judged class is class 1, her method 1. -/
namespace start1
open Jvm.ClassFile
def u (s : String) : CpInfo := .utf8 (stringToUtf16 s)
/-- a pool by its gaps: so many unusable entries, then the entry; so many at the end -/
def gap : Nat → List CpInfo → List CpInfo
  | 0, r => r
  | n + 1, r => .unusable :: gap n r
def poolList (es : List (Nat × CpInfo)) (last : Nat) : List CpInfo := es.foldr (fun e r => gap e.1 (e.2 :: r)) (gap last [])
def pool (es : List (Nat × CpInfo)) (last : Nat) : Array CpInfo := ⟨poolList es last⟩
def fileOf (pool : Array CpInfo) (this : Nat) (attrs : Array Attribute := #[]) (ms : Array MethodInfo := #[]) (fl : Nat := 33) (sup : Nat := 0) (ifs : Array Nat := #[]) (fds : Array FieldInfo := #[]) : ClassFile where
  minorVersion := 0
  majorVersion := 65
  constantPool := pool
  accessFlags := fl
  thisClass := this
  superClass := sup
  interfaces := ifs
  fields := fds
  methods := ms
  attributes := attrs
def plain (name : String) (sup : Option ClassId) : Class where
  name := name
  kind := .ordinary
  loader := none
  accessFlags := 33
  super := sup
  interfaces := #[]
  cf := none
  fields := #[]
  methods := #[]
  instanceTypes := #[]
  staticTypes := #[]
  resolved := #[]
  callSites := []
  init := .initialized
  statics := none
  mirror := none

def pool0 : Array CpInfo := pool [(5, u "<init>"), (0, u "()V"), (1, .class_ 10), (1, u "java/lang/Object")] 113

def k0c0 : Code := { maxStack := 0, maxLocals := 1, code := object_method_1_code, exceptionTable := #[], attributes := #[] }
def k0m0 : Method := { name := "<init>", desc := "()V", sig := { parameters := [], returnType := none }, accessFlags := 1, code := some k0c0 }
/-- java/lang/Object -/
def k0 : Class := { plain "java/lang/Object" none with
  accessFlags := 33
  interfaces := #[]
  cf := some (fileOf pool0 8 #[] #[{ accessFlags := 1, nameIndex := 5, descriptorIndex := 6, attributes := #[] }] 33 0 #[] #[])
  fields := #[]
  methods := #[k0m0]
  instanceTypes := #[]
  staticTypes := #[]
  resolved := Array.replicate 124 none
  statics := none }

def pool1 : Array CpInfo := pool [(2, .class_ 4), (1, u "java/lang/Object"), (0, u "<init>"), (0, u "()V"), (0, .integer 2147483647), (0, .integer 32950), (0, .methodref 10 11), (0, .class_ 12), (0, .nameAndType 13 14), (0, u "com/example/askel/askel/UidParseSectionPinLaw"), (0, u "spell"), (0, u "(II)Ljava/lang/String;"), (0, .methodref 16 17), (0, .class_ 18), (0, .nameAndType 19 20), (0, u "com/example/askel/askel/Uid"), (0, u "parseSection"), (0, u "(Ljava/lang/CharSequence;)I"), (0, .class_ 22), (0, u "java/lang/String"), (0, .methodref 10 24), (0, .nameAndType 25 26), (0, u "d"), (0, u "(I)C"), (0, .methodref 21 28), (0, .nameAndType 5 29), (0, u "([C)V"), (2, u "law"), (0, u "(II)Z")] 3

def k1m0 : Method := { name := "<init>", desc := "()V", sig := { parameters := [], returnType := none }, accessFlags := 1, code := none }
def k1c1 : Code := { maxStack := 3, maxLocals := 6, code := code, exceptionTable := #[], attributes := #[] }
def k1m1 : Method := { name := "law", desc := "(II)Z", sig := { parameters := [.int, .int], returnType := some .boolean }, accessFlags := 9, code := some k1c1 }
def k1c2 : Code := { maxStack := 2, maxLocals := 1, code := method_3_code, exceptionTable := #[], attributes := #[] }
def k1m2 : Method := { name := "d", desc := "(I)C", sig := { parameters := [.int], returnType := some .char }, accessFlags := 10, code := some k1c2 }
def k1c3 : Code := { maxStack := 6, maxLocals := 7, code := method_4_code, exceptionTable := #[], attributes := #[] }
def k1m3 : Method := { name := "spell", desc := "(II)Ljava/lang/String;", sig := { parameters := [.int, .int], returnType := some (.object "java/lang/String") }, accessFlags := 10, code := some k1c3 }
/-- com/example/askel/askel/UidParseSectionPinLaw -/
def k1 : Class := { plain "com/example/askel/askel/UidParseSectionPinLaw" (some 0) with
  accessFlags := 49
  interfaces := #[]
  cf := some (fileOf pool1 10 #[] #[{ accessFlags := 1, nameIndex := 5, descriptorIndex := 6, attributes := #[] }, { accessFlags := 9, nameIndex := 32, descriptorIndex := 33, attributes := #[] }, { accessFlags := 10, nameIndex := 25, descriptorIndex := 26, attributes := #[] }, { accessFlags := 10, nameIndex := 13, descriptorIndex := 14, attributes := #[] }] 49 2 #[] #[])
  fields := #[]
  methods := #[k1m0, k1m1, k1m2, k1m3]
  instanceTypes := #[]
  staticTypes := #[]
  resolved := Array.replicate 37 none
  statics := none }

def pool2 : Array CpInfo := pool [(1, .class_ 2), (0, u "java/io/Serializable"), (0, .class_ 4), (0, u "java/lang/Object")] 2

/-- java/io/Serializable -/
def k2 : Class := { plain "java/io/Serializable" (some 0) with
  accessFlags := 1537
  interfaces := #[]
  cf := some (fileOf pool2 1 #[] #[] 1537 3 #[] #[])
  fields := #[]
  methods := #[]
  instanceTypes := #[]
  staticTypes := #[]
  resolved := Array.replicate 7 none
  statics := none }

def pool3 : Array CpInfo := pool [(1, .class_ 2), (0, u "java/lang/Comparable"), (0, .class_ 4), (0, u "java/lang/Object")] 7

/-- java/lang/Comparable -/
def k3 : Class := { plain "java/lang/Comparable" (some 0) with
  accessFlags := 1537
  interfaces := #[]
  cf := some (fileOf pool3 1 #[] #[] 1537 3 #[] #[])
  fields := #[]
  methods := #[]
  instanceTypes := #[]
  staticTypes := #[]
  resolved := Array.replicate 12 none
  statics := none }

def pool4 : Array CpInfo := pool [(2, .class_ 4), (1, u "java/lang/CharSequence"), (0, u "length"), (0, u "()I"), (38, u "charAt"), (0, u "(I)C"), (0, .class_ 48), (0, u "java/lang/CharSequence$1CodePointIterator"), (10, .class_ 60), (0, u "java/lang/CharSequence$1CharIterator"), (5, .class_ 67), (0, u "java/lang/Object")] 63

def k4m0 : Method := { name := "length", desc := "()I", sig := { parameters := [], returnType := some .int }, accessFlags := 1025, code := none }
def k4m1 : Method := { name := "charAt", desc := "(I)C", sig := { parameters := [.int], returnType := some .char }, accessFlags := 1025, code := none }
/-- java/lang/CharSequence -/
def k4 : Class := { plain "java/lang/CharSequence" (some 0) with
  accessFlags := 1537
  interfaces := #[]
  cf := some (fileOf pool4 2 #[.nestMembers #[47, 59]] #[{ accessFlags := 1025, nameIndex := 5, descriptorIndex := 6, attributes := #[] }, { accessFlags := 1025, nameIndex := 45, descriptorIndex := 46, attributes := #[] }] 1537 66 #[] #[])
  fields := #[]
  methods := #[k4m0, k4m1]
  instanceTypes := #[]
  staticTypes := #[]
  resolved := Array.replicate 131 none
  statics := none }

def pool5 : Array CpInfo := pool [(1, .class_ 2), (0, u "java/lang/constant/Constable"), (0, .class_ 4), (0, u "java/lang/Object")] 6

/-- java/lang/constant/Constable -/
def k5 : Class := { plain "java/lang/constant/Constable" (some 0) with
  accessFlags := 1537
  interfaces := #[]
  cf := some (fileOf pool5 1 #[] #[] 1537 3 #[] #[])
  fields := #[]
  methods := #[]
  instanceTypes := #[]
  staticTypes := #[]
  resolved := Array.replicate 11 none
  statics := none }

def pool6 : Array CpInfo := pool [(1, .class_ 2), (0, u "java/lang/constant/ConstantDesc"), (0, .class_ 4), (0, u "java/lang/Object")] 32

/-- java/lang/constant/ConstantDesc -/
def k6 : Class := { plain "java/lang/constant/ConstantDesc" (some 0) with
  accessFlags := 1537
  interfaces := #[]
  cf := some (fileOf pool6 1 #[] #[] 1537 3 #[] #[])
  fields := #[]
  methods := #[]
  instanceTypes := #[]
  staticTypes := #[]
  resolved := Array.replicate 37 none
  statics := none }

def pool7 : Array CpInfo := pool [(1, .methodref 2 3), (0, .class_ 4), (0, .nameAndType 5 6), (0, u "java/lang/Object"), (0, u "<init>"), (0, u "()V"), (2, .fieldref 10 11), (0, .class_ 12), (0, .nameAndType 13 14), (0, u "java/lang/String"), (0, u "value"), (0, u "[B"), (0, .fieldref 10 16), (0, .nameAndType 17 18), (0, u "coder"), (0, u "B"), (2, u "hash"), (0, u "I"), (2, u "hashIsZero"), (0, u "Z"), (0, .methodref 10 28), (0, .nameAndType 5 29), (0, u "([CIILjava/lang/Void;)V"), (8, .fieldref 10 39), (0, .nameAndType 40 26), (0, u "COMPACT_STRINGS"), (1, .class_ 44), (1, u "java/lang/StringUTF16"), (0, u "compress"), (1, .methodref 42 48), (0, .nameAndType 49 50), (0, u "coderFromArrayLen"), (0, u "([BI)B"), (56, .class_ 109), (1, u "java/lang/StringLatin1"), (32, u "()Z"), (34, .methodref 42 178), (0, .nameAndType 45 179), (0, u "([CII)[B"), (154, u "()I"), (0, .methodref 10 336), (0, .nameAndType 17 337), (0, u "()B"), (25, u "([BI)C"), (27, u "(II)V"), (35, u "(I)C"), (64, .methodref 10 493), (0, .nameAndType 494 142), (0, u "isLatin1"), (0, .methodref 107 496), (0, .nameAndType 497 363), (0, u "charAt"), (3, u "checkIndex"), (5, u "length"), (67, .class_ 576), (0, u "java/lang/CharSequence"), (22, u "CASE_INSENSITIVE_ORDER"), (0, u "Ljava/util/Comparator;"), (409, u "([C)V"), (42, .fieldref 1054 1055), (0, .class_ 1056), (0, .nameAndType 1057 1058), (0, u "jdk/internal/util/Preconditions"), (0, u "SIOOBE_FORMATTER"), (0, u "Ljava/util/function/BiFunction;"), (0, .methodref 1054 1060), (0, .nameAndType 501 1061), (0, u "(IILjava/util/function/BiFunction;)I"), (39, u "serialPersistentFields"), (0, u "[Ljava/io/ObjectStreamField;"), (0, .class_ 1104), (0, u "java/lang/String$CaseInsensitiveComparator"), (1, .class_ 1107), (0, u "java/io/Serializable"), (0, .class_ 1109), (0, u "java/lang/Comparable"), (0, .class_ 1111), (0, u "java/lang/constant/Constable"), (0, .class_ 1113), (0, u "java/lang/constant/ConstantDesc"), (2, u "serialVersionUID"), (0, u "J"), (3, u "REPL"), (0, u "C"), (2, u "LATIN1"), (1, u "UTF16")] 323

def k7m0 : Method := { name := "<init>", desc := "()V", sig := { parameters := [], returnType := none }, accessFlags := 1, code := none }
def k7c1 : Code := { maxStack := 5, maxLocals := 2, code := jdk_42_method_3_code, exceptionTable := #[], attributes := #[] }
def k7m1 : Method := { name := "<init>", desc := "([C)V", sig := { parameters := [(.array .char)], returnType := none }, accessFlags := 1, code := some k7c1 }
def k7c2 : Code := { maxStack := 2, maxLocals := 1, code := jdk_42_method_54_code, exceptionTable := #[], attributes := #[] }
def k7m2 : Method := { name := "length", desc := "()I", sig := { parameters := [], returnType := some .int }, accessFlags := 1, code := some k7c2 }
def k7c3 : Code := { maxStack := 2, maxLocals := 2, code := jdk_42_method_56_code, exceptionTable := #[], attributes := #[] }
def k7m3 : Method := { name := "charAt", desc := "(I)C", sig := { parameters := [.int], returnType := some .char }, accessFlags := 1, code := some k7c3 }
def k7c4 : Code := { maxStack := 4, maxLocals := 6, code := jdk_42_method_149_code, exceptionTable := #[], attributes := #[] }
def k7m4 : Method := { name := "<init>", desc := "([CIILjava/lang/Void;)V", sig := { parameters := [(.array .char), .int, .int, (.object "java/lang/Void")], returnType := none }, accessFlags := 2, code := some k7c4 }
def k7c5 : Code := { maxStack := 1, maxLocals := 1, code := jdk_42_method_152_code, exceptionTable := #[], attributes := #[] }
def k7m5 : Method := { name := "coder", desc := "()B", sig := { parameters := [], returnType := some .byte }, accessFlags := 0, code := some k7c5 }
def k7c6 : Code := { maxStack := 1, maxLocals := 1, code := jdk_42_method_154_code, exceptionTable := #[], attributes := #[] }
def k7m6 : Method := { name := "isLatin1", desc := "()Z", sig := { parameters := [], returnType := some .boolean }, accessFlags := 0, code := some k7c6 }
def k7c7 : Code := { maxStack := 3, maxLocals := 2, code := jdk_42_method_155_code, exceptionTable := #[], attributes := #[] }
def k7m7 : Method := { name := "checkIndex", desc := "(II)V", sig := { parameters := [.int, .int], returnType := none }, accessFlags := 8, code := some k7c7 }
/-- java/lang/String -/
def k7 : Class := { plain "java/lang/String" (some 0) with
  accessFlags := 49
  interfaces := #[2, 3, 4, 5, 6]
  cf := some (fileOf pool7 10 #[.nestMembers #[1103]] #[{ accessFlags := 1, nameIndex := 5, descriptorIndex := 6, attributes := #[] }, { accessFlags := 1, nameIndex := 5, descriptorIndex := 1010, attributes := #[] }, { accessFlags := 1, nameIndex := 507, descriptorIndex := 334, attributes := #[] }, { accessFlags := 1, nameIndex := 497, descriptorIndex := 427, attributes := #[] }, { accessFlags := 2, nameIndex := 5, descriptorIndex := 29, attributes := #[] }, { accessFlags := 0, nameIndex := 17, descriptorIndex := 337, attributes := #[] }, { accessFlags := 0, nameIndex := 494, descriptorIndex := 142, attributes := #[] }, { accessFlags := 8, nameIndex := 501, descriptorIndex := 391, attributes := #[] }] 49 2 #[1106, 1108, 575, 1110, 1112] #[{ accessFlags := 18, nameIndex := 13, descriptorIndex := 14, attributes := #[] }, { accessFlags := 18, nameIndex := 17, descriptorIndex := 18, attributes := #[] }, { accessFlags := 2, nameIndex := 21, descriptorIndex := 22, attributes := #[] }, { accessFlags := 2, nameIndex := 25, descriptorIndex := 26, attributes := #[] }, { accessFlags := 26, nameIndex := 1116, descriptorIndex := 1117, attributes := #[] }, { accessFlags := 24, nameIndex := 40, descriptorIndex := 26, attributes := #[] }, { accessFlags := 26, nameIndex := 1101, descriptorIndex := 1102, attributes := #[] }, { accessFlags := 26, nameIndex := 1121, descriptorIndex := 1122, attributes := #[] }, { accessFlags := 25, nameIndex := 599, descriptorIndex := 600, attributes := #[] }, { accessFlags := 24, nameIndex := 1125, descriptorIndex := 18, attributes := #[] }, { accessFlags := 24, nameIndex := 1127, descriptorIndex := 18, attributes := #[] }])
  fields := #[{ name := "value", type := (.array .byte), accessFlags := 18, slot := 0, constantValue := 0 }, { name := "coder", type := .byte, accessFlags := 18, slot := 1, constantValue := 0 }, { name := "hash", type := .int, accessFlags := 2, slot := 2, constantValue := 0 }, { name := "hashIsZero", type := .boolean, accessFlags := 2, slot := 3, constantValue := 0 }, { name := "serialVersionUID", type := .long, accessFlags := 26, slot := 0, constantValue := 0 }, { name := "COMPACT_STRINGS", type := .boolean, accessFlags := 24, slot := 1, constantValue := 0 }, { name := "serialPersistentFields", type := (.array (.object "java/io/ObjectStreamField")), accessFlags := 26, slot := 2, constantValue := 0 }, { name := "REPL", type := .char, accessFlags := 26, slot := 3, constantValue := 0 }, { name := "CASE_INSENSITIVE_ORDER", type := (.object "java/util/Comparator"), accessFlags := 25, slot := 4, constantValue := 0 }, { name := "LATIN1", type := .byte, accessFlags := 24, slot := 5, constantValue := 0 }, { name := "UTF16", type := .byte, accessFlags := 24, slot := 6, constantValue := 0 }]
  methods := #[k7m0, k7m1, k7m2, k7m3, k7m4, k7m5, k7m6, k7m7]
  instanceTypes := #[(.array .byte), .byte, .int, .boolean]
  staticTypes := #[.long, .boolean, (.array (.object "java/io/ObjectStreamField")), .char, (.object "java/util/Comparator"), .byte, .byte]
  resolved := Array.replicate 1451 none
  statics := some 0 }

def pool8 : Array CpInfo := pool [(6, .class_ 8), (1, u "java/lang/Object"), (0, u "<init>"), (0, u "()V"), (1, .class_ 14), (1, u "java/lang/StringUTF16"), (31, u "$assertionsDisabled"), (0, u "Z"), (13, u "HI_BYTE_SHIFT"), (0, u "I"), (2, u "LO_BYTE_SHIFT"), (49, .methodref 12 116), (0, .nameAndType 117 118), (0, u "compress"), (0, u "([CI[BII)I"), (3, u "([CII)[B"), (138, u "coderFromArrayLen"), (0, u "([BI)B"), (106, .class_ 371), (1, u "java/lang/StringUTF16$LinesSpliterator"), (58, u "MAX_LENGTH"), (196, .class_ 628), (0, u "java/lang/StringUTF16$CodePointsSpliterator"), (0, .class_ 630), (0, u "java/lang/StringUTF16$CharsSpliterator")] 4

def k8m0 : Method := { name := "<init>", desc := "()V", sig := { parameters := [], returnType := none }, accessFlags := 0, code := none }
def k8c1 : Code := { maxStack := 2, maxLocals := 2, code := jdk_52_method_15_code, exceptionTable := #[], attributes := #[] }
def k8m1 : Method := { name := "coderFromArrayLen", desc := "([BI)B", sig := { parameters := [(.array .byte), .int], returnType := some .byte }, accessFlags := 8, code := some k8c1 }
def k8c2 : Code := { maxStack := 5, maxLocals := 6, code := jdk_52_method_16_code, exceptionTable := #[], attributes := #[] }
def k8m2 : Method := { name := "compress", desc := "([CII)[B", sig := { parameters := [(.array .char), .int, .int], returnType := some (.array .byte) }, accessFlags := 9, code := some k8c2 }
def k8c3 : Code := { maxStack := 3, maxLocals := 7, code := jdk_52_method_21_code, exceptionTable := #[], attributes := #[] }
def k8m3 : Method := { name := "compress", desc := "([CI[BII)I", sig := { parameters := [(.array .char), .int, (.array .byte), .int, .int], returnType := some .int }, accessFlags := 9, code := some k8c3 }
/-- java/lang/StringUTF16 -/
def k8 : Class := { plain "java/lang/StringUTF16" (some 0) with
  accessFlags := 48
  interfaces := #[]
  cf := some (fileOf pool8 12 #[.nestMembers #[627, 629, 369]] #[{ accessFlags := 0, nameIndex := 9, descriptorIndex := 10, attributes := #[] }, { accessFlags := 8, nameIndex := 261, descriptorIndex := 262, attributes := #[] }, { accessFlags := 9, nameIndex := 117, descriptorIndex := 122, attributes := #[] }, { accessFlags := 9, nameIndex := 117, descriptorIndex := 118, attributes := #[] }] 48 6 #[] #[{ accessFlags := 26, nameIndex := 61, descriptorIndex := 62, attributes := #[] }, { accessFlags := 26, nameIndex := 65, descriptorIndex := 62, attributes := #[] }, { accessFlags := 24, nameIndex := 430, descriptorIndex := 62, attributes := #[] }, { accessFlags := 4120, nameIndex := 46, descriptorIndex := 47, attributes := #[] }])
  fields := #[{ name := "HI_BYTE_SHIFT", type := .int, accessFlags := 26, slot := 0, constantValue := 0 }, { name := "LO_BYTE_SHIFT", type := .int, accessFlags := 26, slot := 1, constantValue := 0 }, { name := "MAX_LENGTH", type := .int, accessFlags := 24, slot := 2, constantValue := 0 }, { name := "$assertionsDisabled", type := .boolean, accessFlags := 4120, slot := 3, constantValue := 0 }]
  methods := #[k8m0, k8m1, k8m2, k8m3]
  instanceTypes := #[]
  staticTypes := #[.int, .int, .int, .boolean]
  resolved := Array.replicate 635 none
  statics := none }

def pool9 : Array CpInfo := pool [(2, .class_ 4), (1, u "java/lang/Object"), (0, u "<init>"), (0, u "()V"), (0, .class_ 8), (0, u "java/lang/Record")] 13

def k9m0 : Method := { name := "<init>", desc := "()V", sig := { parameters := [], returnType := none }, accessFlags := 4, code := none }
/-- java/lang/Record -/
def k9 : Class := { plain "java/lang/Record" (some 0) with
  accessFlags := 1057
  interfaces := #[]
  cf := some (fileOf pool9 7 #[] #[{ accessFlags := 4, nameIndex := 5, descriptorIndex := 6, attributes := #[] }] 1057 2 #[] #[])
  fields := #[]
  methods := #[k9m0]
  instanceTypes := #[]
  staticTypes := #[]
  resolved := Array.replicate 22 none
  statics := none }

def pool10 : Array CpInfo := pool [(1, .class_ 2), (0, u "com/example/askel/askel/Uid"), (1, .class_ 6), (1, u "java/lang/Record"), (15, u "value"), (0, u "J"), (0, .fieldref 1 25), (0, .nameAndType 26 27), (0, u "MAX_DIGITS"), (0, u "I"), (0, .methodref 29 30), (0, .class_ 31), (0, .nameAndType 32 33), (0, u "com/example/askel/askel/Decimal"), (0, u "parse"), (0, u "(Ljava/lang/CharSequence;I)J"), (5, .long 42950), (29, u "MAX"), (1, u "SECTION_SIZE"), (1, u "SECTION_COUNT"), (1, u "MALFORMED"), (0, u "Ljava/lang/String;"), (5, u "parseSection"), (0, u "(Ljava/lang/CharSequence;)I")] 34

def k10c0 : Code := { maxStack := 4, maxLocals := 3, code := prog_13_method_3_code, exceptionTable := #[], attributes := #[] }
def k10m0 : Method := { name := "parseSection", desc := "(Ljava/lang/CharSequence;)I", sig := { parameters := [(.object "java/lang/CharSequence")], returnType := some .int }, accessFlags := 8, code := some k10c0 }
/-- com/example/askel/askel/Uid -/
def k10 : Class := { plain "com/example/askel/askel/Uid" (some 9) with
  accessFlags := 49
  interfaces := #[]
  cf := some (fileOf pool10 1 #[] #[{ accessFlags := 8, nameIndex := 82, descriptorIndex := 83, attributes := #[] }] 49 4 #[] #[{ accessFlags := 18, nameIndex := 22, descriptorIndex := 23, attributes := #[] }, { accessFlags := 25, nameIndex := 69, descriptorIndex := 23, attributes := #[] }, { accessFlags := 25, nameIndex := 71, descriptorIndex := 27, attributes := #[] }, { accessFlags := 25, nameIndex := 73, descriptorIndex := 27, attributes := #[] }, { accessFlags := 26, nameIndex := 26, descriptorIndex := 27, attributes := #[] }, { accessFlags := 26, nameIndex := 75, descriptorIndex := 76, attributes := #[] }])
  fields := #[{ name := "value", type := .long, accessFlags := 18, slot := 0, constantValue := 0 }, { name := "MAX", type := .long, accessFlags := 25, slot := 0, constantValue := 0 }, { name := "SECTION_SIZE", type := .int, accessFlags := 25, slot := 1, constantValue := 0 }, { name := "SECTION_COUNT", type := .int, accessFlags := 25, slot := 2, constantValue := 0 }, { name := "MAX_DIGITS", type := .int, accessFlags := 26, slot := 3, constantValue := 0 }, { name := "MALFORMED", type := (.object "java/lang/String"), accessFlags := 26, slot := 4, constantValue := 0 }]
  methods := #[k10m0]
  instanceTypes := #[.long]
  staticTypes := #[.long, .int, .int, .int, (.object "java/lang/String")]
  resolved := Array.replicate 118 none
  statics := some 1 }

def pool11 : Array CpInfo := pool [(2, .class_ 4), (1, u "java/lang/Object"), (0, u "<init>"), (0, u "()V"), (0, .interfaceMethodref 8 9), (0, .class_ 10), (0, .nameAndType 11 12), (0, u "java/lang/CharSequence"), (0, u "length"), (0, u "()I"), (0, .class_ 14), (0, u "com/example/askel/askel/Decimal"), (0, .methodref 16 17), (0, .class_ 18), (0, .nameAndType 19 20), (0, u "java/lang/Math"), (0, u "min"), (0, u "(II)I"), (0, .interfaceMethodref 8 22), (0, .nameAndType 23 24), (0, u "charAt"), (0, u "(I)C"), (0, .long 18446744073709551615), (1, .long 10), (1, u "MAX_DIGITS"), (0, u "I"), (4, u "parse"), (0, u "(Ljava/lang/CharSequence;I)J")] 3

def k11m0 : Method := { name := "<init>", desc := "()V", sig := { parameters := [], returnType := none }, accessFlags := 2, code := none }
def k11c1 : Code := { maxStack := 4, maxLocals := 7, code := prog_6_method_2_code, exceptionTable := #[], attributes := #[] }
def k11m1 : Method := { name := "parse", desc := "(Ljava/lang/CharSequence;I)J", sig := { parameters := [(.object "java/lang/CharSequence"), .int], returnType := some .long }, accessFlags := 8, code := some k11c1 }
/-- com/example/askel/askel/Decimal -/
def k11 : Class := { plain "com/example/askel/askel/Decimal" (some 0) with
  accessFlags := 48
  interfaces := #[]
  cf := some (fileOf pool11 13 #[] #[{ accessFlags := 2, nameIndex := 5, descriptorIndex := 6, attributes := #[] }, { accessFlags := 8, nameIndex := 35, descriptorIndex := 36, attributes := #[] }] 48 2 #[] #[{ accessFlags := 24, nameIndex := 29, descriptorIndex := 30, attributes := #[] }])
  fields := #[{ name := "MAX_DIGITS", type := .int, accessFlags := 24, slot := 0, constantValue := 0 }]
  methods := #[k11m0, k11m1]
  instanceTypes := #[]
  staticTypes := #[.int]
  resolved := Array.replicate 40 none
  statics := none }

def pool12 : Array CpInfo := pool [(1, .class_ 2), (0, u "java/lang/Math"), (1, .class_ 6), (1, u "java/lang/Object"), (0, u "<init>"), (0, u "()V"), (89, .class_ 100), (1, u "java/lang/Math$RandomNumberGeneratorHolder"), (71, u "negativeZeroFloatBits"), (0, u "J"), (2, u "negativeZeroDoubleBits"), (24, u "min"), (43, u "$assertionsDisabled"), (0, u "Z"), (88, u "(II)I"), (2, u "twoToTheDoubleScaleDown"), (0, u "D"), (4, u "twoToTheDoubleScaleUp"), (9, u "E"), (3, u "PI"), (2, u "TAU"), (2, u "DEGREES_TO_RADIANS"), (0, u "RADIANS_TO_DEGREES")] 94

def k12m0 : Method := { name := "<init>", desc := "()V", sig := { parameters := [], returnType := none }, accessFlags := 2, code := none }
def k12c1 : Code := { maxStack := 2, maxLocals := 2, code := jdk_29_method_69_code, exceptionTable := #[], attributes := #[] }
def k12m1 : Method := { name := "min", desc := "(II)I", sig := { parameters := [.int, .int], returnType := some .int }, accessFlags := 9, code := some k12c1 }
/-- java/lang/Math -/
def k12 : Class := { plain "java/lang/Math" (some 0) with
  accessFlags := 49
  interfaces := #[]
  cf := some (fileOf pool12 1 #[.nestMembers #[98]] #[{ accessFlags := 2, nameIndex := 7, descriptorIndex := 8, attributes := #[] }, { accessFlags := 9, nameIndex := 201, descriptorIndex := 335, attributes := #[] }] 49 4 #[] #[{ accessFlags := 25, nameIndex := 354, descriptorIndex := 339, attributes := #[] }, { accessFlags := 25, nameIndex := 358, descriptorIndex := 339, attributes := #[] }, { accessFlags := 25, nameIndex := 361, descriptorIndex := 339, attributes := #[] }, { accessFlags := 26, nameIndex := 364, descriptorIndex := 339, attributes := #[] }, { accessFlags := 26, nameIndex := 365, descriptorIndex := 339, attributes := #[] }, { accessFlags := 26, nameIndex := 172, descriptorIndex := 173, attributes := #[] }, { accessFlags := 26, nameIndex := 176, descriptorIndex := 173, attributes := #[] }, { accessFlags := 8, nameIndex := 344, descriptorIndex := 339, attributes := #[] }, { accessFlags := 8, nameIndex := 338, descriptorIndex := 339, attributes := #[] }, { accessFlags := 4120, nameIndex := 245, descriptorIndex := 246, attributes := #[] }])
  fields := #[{ name := "E", type := .double, accessFlags := 25, slot := 0, constantValue := 0 }, { name := "PI", type := .double, accessFlags := 25, slot := 1, constantValue := 0 }, { name := "TAU", type := .double, accessFlags := 25, slot := 2, constantValue := 0 }, { name := "DEGREES_TO_RADIANS", type := .double, accessFlags := 26, slot := 3, constantValue := 0 }, { name := "RADIANS_TO_DEGREES", type := .double, accessFlags := 26, slot := 4, constantValue := 0 }, { name := "negativeZeroFloatBits", type := .long, accessFlags := 26, slot := 5, constantValue := 0 }, { name := "negativeZeroDoubleBits", type := .long, accessFlags := 26, slot := 6, constantValue := 0 }, { name := "twoToTheDoubleScaleUp", type := .double, accessFlags := 8, slot := 7, constantValue := 0 }, { name := "twoToTheDoubleScaleDown", type := .double, accessFlags := 8, slot := 8, constantValue := 0 }, { name := "$assertionsDisabled", type := .boolean, accessFlags := 4120, slot := 9, constantValue := 0 }]
  methods := #[k12m0, k12m1]
  instanceTypes := #[]
  staticTypes := #[.double, .double, .double, .double, .double, .long, .long, .double, .double, .boolean]
  resolved := Array.replicate 460 none
  statics := none }

def pool13 : Array CpInfo := pool [(1, .class_ 2), (0, u "java/lang/String"), (1, .class_ 6), (1, u "java/lang/Object"), (0, u "<init>"), (0, u "()V"), (0, .methodref 1 10), (0, .nameAndType 11 12), (0, u "checkIndex"), (0, u "(II)V"), (1, .class_ 16), (1, u "java/lang/StringLatin1"), (36, u "([BI)C"), (67, u "$assertionsDisabled"), (0, u "Z"), (98, .class_ 223), (1, u "java/lang/StringLatin1$LinesSpliterator"), (28, u "charAt"), (137, .class_ 391), (0, u "java/lang/StringLatin1$CharsSpliterator")] 3

def k13m0 : Method := { name := "<init>", desc := "()V", sig := { parameters := [], returnType := none }, accessFlags := 0, code := none }
def k13c1 : Code := { maxStack := 2, maxLocals := 2, code := jdk_43_method_2_code, exceptionTable := #[], attributes := #[] }
def k13m1 : Method := { name := "charAt", desc := "([BI)C", sig := { parameters := [(.array .byte), .int], returnType := some .char }, accessFlags := 9, code := some k13c1 }
/-- java/lang/StringLatin1 -/
def k13 : Class := { plain "java/lang/StringLatin1" (some 0) with
  accessFlags := 48
  interfaces := #[]
  cf := some (fileOf pool13 14 #[.nestMembers #[390, 221]] #[{ accessFlags := 0, nameIndex := 7, descriptorIndex := 8, attributes := #[] }, { accessFlags := 9, nameIndex := 252, descriptorIndex := 53, attributes := #[] }] 48 4 #[] #[{ accessFlags := 4120, nameIndex := 121, descriptorIndex := 122, attributes := #[] }])
  fields := #[{ name := "$assertionsDisabled", type := .boolean, accessFlags := 4120, slot := 0, constantValue := 0 }]
  methods := #[k13m0, k13m1]
  instanceTypes := #[]
  staticTypes := #[.boolean]
  resolved := Array.replicate 395 none
  statics := none }

def pool14 : Array CpInfo := pool [(2, .class_ 4), (1, u "java/lang/Object"), (0, u "<init>"), (0, u "()V"), (17, .class_ 26), (1, u "jdk/internal/util/Preconditions"), (6, u "checkIndex"), (21, .class_ 56), (0, u "jdk/internal/util/Preconditions$4"), (57, .class_ 115), (0, u "jdk/internal/util/Preconditions$1"), (7, u "SIOOBE_FORMATTER"), (0, u "Ljava/util/function/BiFunction;"), (0, .class_ 126), (0, u "jdk/internal/util/Preconditions$2"), (3, u "AIOOBE_FORMATTER"), (0, .class_ 132), (0, u "jdk/internal/util/Preconditions$3"), (3, u "IOOBE_FORMATTER"), (41, u "(IILjava/util/function/BiFunction;)I")] 15

def k14m0 : Method := { name := "<init>", desc := "()V", sig := { parameters := [], returnType := none }, accessFlags := 1, code := none }
def k14c1 : Code := { maxStack := 3, maxLocals := 3, code := jdk_41_method_11_code, exceptionTable := #[], attributes := #[] }
def k14m1 : Method := { name := "checkIndex", desc := "(IILjava/util/function/BiFunction;)I", sig := { parameters := [.int, .int, (.object "java/util/function/BiFunction")], returnType := some .int }, accessFlags := 9, code := some k14c1 }
/-- jdk/internal/util/Preconditions -/
def k14 : Class := { plain "jdk/internal/util/Preconditions" (some 0) with
  accessFlags := 33
  interfaces := #[]
  cf := some (fileOf pool14 24 #[.nestMembers #[55, 131, 125, 114]] #[{ accessFlags := 1, nameIndex := 5, descriptorIndex := 6, attributes := #[] }, { accessFlags := 9, nameIndex := 33, descriptorIndex := 178, attributes := #[] }] 33 2 #[] #[{ accessFlags := 25, nameIndex := 123, descriptorIndex := 124, attributes := #[] }, { accessFlags := 25, nameIndex := 130, descriptorIndex := 124, attributes := #[] }, { accessFlags := 25, nameIndex := 136, descriptorIndex := 124, attributes := #[] }])
  fields := #[{ name := "SIOOBE_FORMATTER", type := (.object "java/util/function/BiFunction"), accessFlags := 25, slot := 0, constantValue := 0 }, { name := "AIOOBE_FORMATTER", type := (.object "java/util/function/BiFunction"), accessFlags := 25, slot := 1, constantValue := 0 }, { name := "IOOBE_FORMATTER", type := (.object "java/util/function/BiFunction"), accessFlags := 25, slot := 2, constantValue := 0 }]
  methods := #[k14m0, k14m1]
  instanceTypes := #[]
  staticTypes := #[(.object "java/util/function/BiFunction"), (.object "java/util/function/BiFunction"), (.object "java/util/function/BiFunction")]
  resolved := Array.replicate 194 none
  statics := some 2 }

def pool15 : Array CpInfo := pool [(9, u "<init>"), (6, .class_ 18), (1, u "java/lang/Object"), (0, u "()V"), (1, .class_ 23), (1, u "jdk/internal/util/ArraysSupport"), (0, u "LOG2_ARRAY_LONG_INDEX_SCALE"), (0, u "I"), (2, u "U"), (0, u "Ljdk/internal/misc/Unsafe;"), (8, u "BIG_ENDIAN"), (0, u "Z"), (8, u "LOG2_BYTE_BIT_SIZE"), (4, u "LOG2_ARRAY_INT_INDEX_SCALE"), (54, u "JLA"), (0, u "Ljdk/internal/access/JavaLangAccess;"), (11, u "LOG2_ARRAY_BOOLEAN_INDEX_SCALE"), (9, u "LOG2_ARRAY_BYTE_INDEX_SCALE"), (5, u "LOG2_ARRAY_CHAR_INDEX_SCALE"), (5, u "LOG2_ARRAY_SHORT_INDEX_SCALE"), (18, u "LOG2_ARRAY_FLOAT_INDEX_SCALE"), (24, u "LOG2_ARRAY_DOUBLE_INDEX_SCALE"), (89, u "T_BOOLEAN"), (2, u "T_CHAR"), (1, u "T_FLOAT"), (1, u "T_DOUBLE"), (1, u "T_BYTE"), (1, u "T_SHORT"), (1, u "T_INT"), (1, u "T_LONG"), (1, u "SOFT_MAX_ARRAY_LENGTH")] 83

def k15m0 : Method := { name := "<init>", desc := "()V", sig := { parameters := [], returnType := none }, accessFlags := 2, code := none }
/-- jdk/internal/util/ArraysSupport -/
def k15 : Class := { plain "jdk/internal/util/ArraysSupport" (some 0) with
  accessFlags := 33
  interfaces := #[]
  cf := some (fileOf pool15 21 #[] #[{ accessFlags := 2, nameIndex := 9, descriptorIndex := 19, attributes := #[] }] 33 16 #[] #[{ accessFlags := 24, nameIndex := 28, descriptorIndex := 29, attributes := #[] }, { accessFlags := 26, nameIndex := 38, descriptorIndex := 39, attributes := #[] }, { accessFlags := 25, nameIndex := 121, descriptorIndex := 25, attributes := #[] }, { accessFlags := 25, nameIndex := 131, descriptorIndex := 25, attributes := #[] }, { accessFlags := 25, nameIndex := 137, descriptorIndex := 25, attributes := #[] }, { accessFlags := 25, nameIndex := 143, descriptorIndex := 25, attributes := #[] }, { accessFlags := 25, nameIndex := 53, descriptorIndex := 25, attributes := #[] }, { accessFlags := 25, nameIndex := 24, descriptorIndex := 25, attributes := #[] }, { accessFlags := 25, nameIndex := 162, descriptorIndex := 25, attributes := #[] }, { accessFlags := 25, nameIndex := 187, descriptorIndex := 25, attributes := #[] }, { accessFlags := 26, nameIndex := 48, descriptorIndex := 25, attributes := #[] }, { accessFlags := 25, nameIndex := 277, descriptorIndex := 25, attributes := #[] }, { accessFlags := 25, nameIndex := 280, descriptorIndex := 25, attributes := #[] }, { accessFlags := 25, nameIndex := 282, descriptorIndex := 25, attributes := #[] }, { accessFlags := 25, nameIndex := 284, descriptorIndex := 25, attributes := #[] }, { accessFlags := 25, nameIndex := 286, descriptorIndex := 25, attributes := #[] }, { accessFlags := 25, nameIndex := 288, descriptorIndex := 25, attributes := #[] }, { accessFlags := 25, nameIndex := 290, descriptorIndex := 25, attributes := #[] }, { accessFlags := 25, nameIndex := 292, descriptorIndex := 25, attributes := #[] }, { accessFlags := 26, nameIndex := 108, descriptorIndex := 109, attributes := #[] }, { accessFlags := 25, nameIndex := 294, descriptorIndex := 25, attributes := #[] }])
  fields := #[{ name := "U", type := (.object "jdk/internal/misc/Unsafe"), accessFlags := 24, slot := 0, constantValue := 0 }, { name := "BIG_ENDIAN", type := .boolean, accessFlags := 26, slot := 1, constantValue := 0 }, { name := "LOG2_ARRAY_BOOLEAN_INDEX_SCALE", type := .int, accessFlags := 25, slot := 2, constantValue := 0 }, { name := "LOG2_ARRAY_BYTE_INDEX_SCALE", type := .int, accessFlags := 25, slot := 3, constantValue := 0 }, { name := "LOG2_ARRAY_CHAR_INDEX_SCALE", type := .int, accessFlags := 25, slot := 4, constantValue := 0 }, { name := "LOG2_ARRAY_SHORT_INDEX_SCALE", type := .int, accessFlags := 25, slot := 5, constantValue := 0 }, { name := "LOG2_ARRAY_INT_INDEX_SCALE", type := .int, accessFlags := 25, slot := 6, constantValue := 0 }, { name := "LOG2_ARRAY_LONG_INDEX_SCALE", type := .int, accessFlags := 25, slot := 7, constantValue := 0 }, { name := "LOG2_ARRAY_FLOAT_INDEX_SCALE", type := .int, accessFlags := 25, slot := 8, constantValue := 0 }, { name := "LOG2_ARRAY_DOUBLE_INDEX_SCALE", type := .int, accessFlags := 25, slot := 9, constantValue := 0 }, { name := "LOG2_BYTE_BIT_SIZE", type := .int, accessFlags := 26, slot := 10, constantValue := 0 }, { name := "T_BOOLEAN", type := .int, accessFlags := 25, slot := 11, constantValue := 0 }, { name := "T_CHAR", type := .int, accessFlags := 25, slot := 12, constantValue := 0 }, { name := "T_FLOAT", type := .int, accessFlags := 25, slot := 13, constantValue := 0 }, { name := "T_DOUBLE", type := .int, accessFlags := 25, slot := 14, constantValue := 0 }, { name := "T_BYTE", type := .int, accessFlags := 25, slot := 15, constantValue := 0 }, { name := "T_SHORT", type := .int, accessFlags := 25, slot := 16, constantValue := 0 }, { name := "T_INT", type := .int, accessFlags := 25, slot := 17, constantValue := 0 }, { name := "T_LONG", type := .int, accessFlags := 25, slot := 18, constantValue := 0 }, { name := "JLA", type := (.object "jdk/internal/access/JavaLangAccess"), accessFlags := 26, slot := 19, constantValue := 0 }, { name := "SOFT_MAX_ARRAY_LENGTH", type := .int, accessFlags := 25, slot := 20, constantValue := 0 }]
  methods := #[k15m0]
  instanceTypes := #[]
  staticTypes := #[(.object "jdk/internal/misc/Unsafe"), .boolean, .int, .int, .int, .int, .int, .int, .int, .int, .int, .int, .int, .int, .int, .int, .int, .int, .int, (.object "jdk/internal/access/JavaLangAccess"), .int]
  resolved := Array.replicate 378 none
  statics := none }

def pool16 : Array CpInfo := pool [(1, u "java/lang/Cloneable"), (0, .class_ 1), (0, u "java/lang/Object"), (0, .class_ 3)] 3

/-- java/lang/Cloneable -/
def k16 : Class := { plain "java/lang/Cloneable" (some 0) with
  accessFlags := 1537
  interfaces := #[]
  cf := some (fileOf pool16 2 #[] #[] 1537 4 #[] #[])
  fields := #[]
  methods := #[]
  instanceTypes := #[]
  staticTypes := #[]
  resolved := Array.replicate 8 none
  statics := none }

/-- the primitive byte -/
def k17 : Class := { plain "byte" none with kind := .primitive 'B', accessFlags := 0x411 }
/-- [B -/
def k18 : Class := { plain "[B" (some 0) with kind := .array 17 .byte, interfaces := #[16, 2], accessFlags := 1041 }

/-- the primitive char -/
def k19 : Class := { plain "char" none with kind := .primitive 'C', accessFlags := 0x411 }
/-- [C -/
def k20 : Class := { plain "[C" (some 0) with kind := .array 19 .char, interfaces := #[16, 2], accessFlags := 1041 }

/-- the primitive int -/
def k21 : Class := { plain "int" none with kind := .primitive 'I', accessFlags := 0x411 }
/-- [I -/
def k22 : Class := { plain "[I" (some 0) with kind := .array 21 .int, interfaces := #[16, 2], accessFlags := 1041 }

def heap : Heap := #[{ cls := 7, slots := #[.long 0, .int 1, .null, .int 0, .null, .int 0, .int 0], vm := .statics 7 },
  { cls := 10, slots := #[.long 0, .int 0, .int 0, .int 10, .null], vm := .statics 10 },
  { cls := 14, slots := #[.null, .null, .null], vm := .statics 14 }]
def classes : Array Class := #[k0, k1, k2, k3, k4, k5, k6, k7, k8, k9, k10, k11, k12, k13, k14, k15, k16, k17, k18, k19, k20, k21, k22]
def interned : List (Array UInt16 × Addr) := []
def slotsUsed : Nat := 15
def theMethod : MethodId := ⟨1, 1⟩
def args0 : Array Value := #[.int 5, .int 7]
def aboutOver (below : List Frame) : State where
  vm := { classes := classes, interned := interned.toArray }
  heap := heap
  slotsUsed := slotsUsed
  threads := #[{ frames := .invoking theMethod args0 :: below }]
def below0 : List Frame := [.native { method := ⟨0, 0⟩, args := #[] }]
def about1 : State := aboutOver below0
def p0 : Program := .bare "" "" ""
def e0 : Env := launch0.env 0 0 0
theorem w_frames : about1.frames = Frame.invoking theMethod args0 :: below0 := rfl
set_option maxRecDepth 65536 in
theorem w_args : argsFit about1.vm theMethod args0 = true := by decide +kernel
set_option maxRecDepth 65536 in
theorem w_heap : heapFits about1 = true := by decide +kernel
set_option maxRecDepth 65536 in
theorem w_runnable : about1.curStatus? = some .runnable := by decide +kernel
set_option maxRecDepth 65536 in
theorem w_alone : about1.alone = true := by decide +kernel
set_option maxRecDepth 65536 in
theorem w_named : about1.methodNamed? x = some theMethod := by decide +kernel
set_option maxRecDepth 65536 in
theorem w_hears : about1.hears theMethod below0 = true := by decide +kernel
set_option maxRecDepth 65536 in
theorem w_ripe : about1.ripe theMethod args0 below0 = true := by decide +kernel
theorem w_running : about1.status = .running := rfl
set_option maxRecDepth 65536 in
theorem w_room : about1.hasRoom e0.platform room_1 = true :=
  launch0.hasRoom_least _ room_1 (by decide +kernel) (by decide +kernel) (by decide +kernel) (by decide +kernel) (by decide +kernel) (by decide +kernel)
theorem allAtoms_all (ts : List Jvm.Cond) (a : Array Jvm.Value) (st : Jvm.State) : (allAtoms ts).before a st = ts.all (fun c => c.before a st) := by
  induction ts with
  | nil => rfl
  | cons c t ih =>
    show (Jvm.Cond.and c (allAtoms t)).before a st = _
    rw [Jvm.Cond.before_and, ih, List.all_cons]
def words1 : List Jvm.Cond := Jvm.Cond.code x code maxLocals ret :: tables_1
/-- a 'code' word, met by the world's own term for the bytes: nothing is compared byte by byte -/
theorem code_word {y : MethodName} {bytes : ByteArray} {mx : Nat} {rt : Option FieldType} {a : Array Value} {s : State} {m : MethodId} {meth : Method} {c : Code} (h1 : s.methodNamed? y = some m) (h2 : s.vm.method? m = some meth) (h3 : meth.code = some c) (h4 : c.code = bytes)
    (h5 : (c.maxLocals == mx && c.exceptionTable.isEmpty && decide (c.maxStack ≤ mostOperands) && decide (meth.sig.returnType = rt) && !meth.locks && decide (parseMethodDescriptor y.desc = some meth.sig)) = true) : (Jvm.Cond.code y bytes mx rt).before a s = true := by
  simp only [Bool.and_eq_true, beq_iff_eq, Bool.not_eq_true', decide_eq_true_eq] at h5
  obtain ⟨⟨⟨⟨⟨g1, g2⟩, g3⟩, g4⟩, g5⟩, g6⟩ := h5
  simp [Cond.before, Cond.holds, Cond.value, h1, h2, h3, h4, g1, g2, g3, g4, g5, g6]
def isCode : Jvm.Cond → Bool
  | .code _ _ _ _ => true
  | _ => false
theorem all_split {L : List Jvm.Cond} {P : Jvm.Cond → Bool} (h1 : L.all (fun c => isCode c || P c) = true) (h2 : ∀ c ∈ L.filter isCode, P c = true) : L.all P = true := by
  refine List.all_eq_true.mpr fun c hc => ?_
  have h := List.all_eq_true.mp h1 c hc
  rcases Bool.eq_false_or_eq_true (isCode c) with hi | hi
  · exact h2 c (List.mem_filter.mpr ⟨hc, hi⟩)
  · simpa [hi] using h
set_option maxRecDepth 65536 in
theorem w_c0 : (Jvm.Cond.code x code maxLocals ret).before args0 about1 = true := code_word (m := ⟨1, 1⟩) (meth := k1m1) (c := k1c1) (by decide +kernel) rfl rfl rfl (by decide +kernel)
set_option maxRecDepth 65536 in
theorem w_c1 : (Jvm.Cond.code ({ cls := "com/example/askel/askel/UidParseSectionPinLaw", name := "spell", desc := "(II)Ljava/lang/String;" } : Jvm.MethodName) method_4_code (7 : Nat) (Option.some (Jvm.ClassFile.FieldType.object "java/lang/String"))).before args0 about1 = true := code_word (m := ⟨1, 3⟩) (meth := k1m3) (c := k1c3) (by decide +kernel) rfl rfl rfl (by decide +kernel)
set_option maxRecDepth 65536 in
theorem w_c2 : (Jvm.Cond.code ({ cls := "com/example/askel/askel/UidParseSectionPinLaw", name := "d", desc := "(I)C" } : Jvm.MethodName) method_3_code (1 : Nat) (Option.some Jvm.ClassFile.FieldType.char)).before args0 about1 = true := code_word (m := ⟨1, 2⟩) (meth := k1m2) (c := k1c2) (by decide +kernel) rfl rfl rfl (by decide +kernel)
set_option maxRecDepth 65536 in
theorem w_c3 : (Jvm.Cond.code ({ cls := "java/lang/String", name := "<init>", desc := "([C)V" } : Jvm.MethodName) jdk_42_method_3_code (2 : Nat) (Option.none : Option Jvm.ClassFile.FieldType)).before args0 about1 = true := code_word (m := ⟨7, 1⟩) (meth := k7m1) (c := k7c1) (by decide +kernel) rfl rfl rfl (by decide +kernel)
set_option maxRecDepth 65536 in
theorem w_c4 : (Jvm.Cond.code ({ cls := "java/lang/String", name := "<init>", desc := "([CIILjava/lang/Void;)V" } : Jvm.MethodName) jdk_42_method_149_code (6 : Nat) (Option.none : Option Jvm.ClassFile.FieldType)).before args0 about1 = true := code_word (m := ⟨7, 4⟩) (meth := k7m4) (c := k7c4) (by decide +kernel) rfl rfl rfl (by decide +kernel)
set_option maxRecDepth 65536 in
theorem w_c5 : (Jvm.Cond.code ({ cls := "java/lang/Object", name := "<init>", desc := "()V" } : Jvm.MethodName) object_method_1_code (1 : Nat) (Option.none : Option Jvm.ClassFile.FieldType)).before args0 about1 = true := code_word (m := ⟨0, 0⟩) (meth := k0m0) (c := k0c0) (by decide +kernel) rfl rfl rfl (by decide +kernel)
set_option maxRecDepth 65536 in
theorem w_c6 : (Jvm.Cond.code ({ cls := "java/lang/StringUTF16", name := "compress", desc := "([CII)[B" } : Jvm.MethodName) jdk_52_method_16_code (6 : Nat) (Option.some (Jvm.ClassFile.FieldType.array Jvm.ClassFile.FieldType.byte))).before args0 about1 = true := code_word (m := ⟨8, 2⟩) (meth := k8m2) (c := k8c2) (by decide +kernel) rfl rfl rfl (by decide +kernel)
set_option maxRecDepth 65536 in
theorem w_c7 : (Jvm.Cond.code ({ cls := "java/lang/StringUTF16", name := "compress", desc := "([CI[BII)I" } : Jvm.MethodName) jdk_52_method_21_code (7 : Nat) (Option.some Jvm.ClassFile.FieldType.int)).before args0 about1 = true := code_word (m := ⟨8, 3⟩) (meth := k8m3) (c := k8c3) (by decide +kernel) rfl rfl rfl (by decide +kernel)
set_option maxRecDepth 65536 in
theorem w_c8 : (Jvm.Cond.code ({ cls := "java/lang/StringUTF16", name := "coderFromArrayLen", desc := "([BI)B" } : Jvm.MethodName) jdk_52_method_15_code (2 : Nat) (Option.some Jvm.ClassFile.FieldType.byte)).before args0 about1 = true := code_word (m := ⟨8, 1⟩) (meth := k8m1) (c := k8c1) (by decide +kernel) rfl rfl rfl (by decide +kernel)
set_option maxRecDepth 65536 in
theorem w_c9 : (Jvm.Cond.code ({ cls := "com/example/askel/askel/Uid", name := "parseSection", desc := "(Ljava/lang/CharSequence;)I" } : Jvm.MethodName) prog_13_method_3_code (3 : Nat) (Option.some Jvm.ClassFile.FieldType.int)).before args0 about1 = true := code_word (m := ⟨10, 0⟩) (meth := k10m0) (c := k10c0) (by decide +kernel) rfl rfl rfl (by decide +kernel)
set_option maxRecDepth 65536 in
theorem w_c10 : (Jvm.Cond.code ({ cls := "com/example/askel/askel/Decimal", name := "parse", desc := "(Ljava/lang/CharSequence;I)J" } : Jvm.MethodName) prog_6_method_2_code (7 : Nat) (Option.some Jvm.ClassFile.FieldType.long)).before args0 about1 = true := code_word (m := ⟨11, 1⟩) (meth := k11m1) (c := k11c1) (by decide +kernel) rfl rfl rfl (by decide +kernel)
set_option maxRecDepth 65536 in
theorem w_c11 : (Jvm.Cond.code ({ cls := "java/lang/String", name := "length", desc := "()I" } : Jvm.MethodName) jdk_42_method_54_code (1 : Nat) (Option.some Jvm.ClassFile.FieldType.int)).before args0 about1 = true := code_word (m := ⟨7, 2⟩) (meth := k7m2) (c := k7c2) (by decide +kernel) rfl rfl rfl (by decide +kernel)
set_option maxRecDepth 65536 in
theorem w_c12 : (Jvm.Cond.code ({ cls := "java/lang/String", name := "coder", desc := "()B" } : Jvm.MethodName) jdk_42_method_152_code (1 : Nat) (Option.some Jvm.ClassFile.FieldType.byte)).before args0 about1 = true := code_word (m := ⟨7, 5⟩) (meth := k7m5) (c := k7c5) (by decide +kernel) rfl rfl rfl (by decide +kernel)
set_option maxRecDepth 65536 in
theorem w_c13 : (Jvm.Cond.code ({ cls := "java/lang/Math", name := "min", desc := "(II)I" } : Jvm.MethodName) jdk_29_method_69_code (2 : Nat) (Option.some Jvm.ClassFile.FieldType.int)).before args0 about1 = true := code_word (m := ⟨12, 1⟩) (meth := k12m1) (c := k12c1) (by decide +kernel) rfl rfl rfl (by decide +kernel)
set_option maxRecDepth 65536 in
theorem w_c14 : (Jvm.Cond.code ({ cls := "java/lang/String", name := "charAt", desc := "(I)C" } : Jvm.MethodName) jdk_42_method_56_code (2 : Nat) (Option.some Jvm.ClassFile.FieldType.char)).before args0 about1 = true := code_word (m := ⟨7, 3⟩) (meth := k7m3) (c := k7c3) (by decide +kernel) rfl rfl rfl (by decide +kernel)
set_option maxRecDepth 65536 in
theorem w_c15 : (Jvm.Cond.code ({ cls := "java/lang/String", name := "isLatin1", desc := "()Z" } : Jvm.MethodName) jdk_42_method_154_code (1 : Nat) (Option.some Jvm.ClassFile.FieldType.boolean)).before args0 about1 = true := code_word (m := ⟨7, 6⟩) (meth := k7m6) (c := k7c6) (by decide +kernel) rfl rfl rfl (by decide +kernel)
set_option maxRecDepth 65536 in
theorem w_c16 : (Jvm.Cond.code ({ cls := "java/lang/StringLatin1", name := "charAt", desc := "([BI)C" } : Jvm.MethodName) jdk_43_method_2_code (2 : Nat) (Option.some Jvm.ClassFile.FieldType.char)).before args0 about1 = true := code_word (m := ⟨13, 1⟩) (meth := k13m1) (c := k13c1) (by decide +kernel) rfl rfl rfl (by decide +kernel)
set_option maxRecDepth 65536 in
theorem w_c17 : (Jvm.Cond.code ({ cls := "java/lang/String", name := "checkIndex", desc := "(II)V" } : Jvm.MethodName) jdk_42_method_155_code (2 : Nat) (Option.none : Option Jvm.ClassFile.FieldType)).before args0 about1 = true := code_word (m := ⟨7, 7⟩) (meth := k7m7) (c := k7c7) (by decide +kernel) rfl rfl rfl (by decide +kernel)
set_option maxRecDepth 65536 in
theorem w_c18 : (Jvm.Cond.code ({ cls := "jdk/internal/util/Preconditions", name := "checkIndex", desc := "(IILjava/util/function/BiFunction;)I" } : Jvm.MethodName) jdk_41_method_11_code (3 : Nat) (Option.some Jvm.ClassFile.FieldType.int)).before args0 about1 = true := code_word (m := ⟨14, 1⟩) (meth := k14m1) (c := k14c1) (by decide +kernel) rfl rfl rfl (by decide +kernel)
def codes1 : List Jvm.Cond := [Jvm.Cond.code x code maxLocals ret, Jvm.Cond.code ({ cls := "com/example/askel/askel/UidParseSectionPinLaw", name := "spell", desc := "(II)Ljava/lang/String;" } : Jvm.MethodName) method_4_code (7 : Nat) (Option.some (Jvm.ClassFile.FieldType.object "java/lang/String")), Jvm.Cond.code ({ cls := "com/example/askel/askel/UidParseSectionPinLaw", name := "d", desc := "(I)C" } : Jvm.MethodName) method_3_code (1 : Nat) (Option.some Jvm.ClassFile.FieldType.char), Jvm.Cond.code ({ cls := "java/lang/String", name := "<init>", desc := "([C)V" } : Jvm.MethodName) jdk_42_method_3_code (2 : Nat) (Option.none : Option Jvm.ClassFile.FieldType), Jvm.Cond.code ({ cls := "java/lang/String", name := "<init>", desc := "([CIILjava/lang/Void;)V" } : Jvm.MethodName) jdk_42_method_149_code (6 : Nat) (Option.none : Option Jvm.ClassFile.FieldType), Jvm.Cond.code ({ cls := "java/lang/Object", name := "<init>", desc := "()V" } : Jvm.MethodName) object_method_1_code (1 : Nat) (Option.none : Option Jvm.ClassFile.FieldType), Jvm.Cond.code ({ cls := "java/lang/StringUTF16", name := "compress", desc := "([CII)[B" } : Jvm.MethodName) jdk_52_method_16_code (6 : Nat) (Option.some (Jvm.ClassFile.FieldType.array Jvm.ClassFile.FieldType.byte)), Jvm.Cond.code ({ cls := "java/lang/StringUTF16", name := "compress", desc := "([CI[BII)I" } : Jvm.MethodName) jdk_52_method_21_code (7 : Nat) (Option.some Jvm.ClassFile.FieldType.int), Jvm.Cond.code ({ cls := "java/lang/StringUTF16", name := "coderFromArrayLen", desc := "([BI)B" } : Jvm.MethodName) jdk_52_method_15_code (2 : Nat) (Option.some Jvm.ClassFile.FieldType.byte), Jvm.Cond.code ({ cls := "com/example/askel/askel/Uid", name := "parseSection", desc := "(Ljava/lang/CharSequence;)I" } : Jvm.MethodName) prog_13_method_3_code (3 : Nat) (Option.some Jvm.ClassFile.FieldType.int), Jvm.Cond.code ({ cls := "com/example/askel/askel/Decimal", name := "parse", desc := "(Ljava/lang/CharSequence;I)J" } : Jvm.MethodName) prog_6_method_2_code (7 : Nat) (Option.some Jvm.ClassFile.FieldType.long), Jvm.Cond.code ({ cls := "java/lang/String", name := "length", desc := "()I" } : Jvm.MethodName) jdk_42_method_54_code (1 : Nat) (Option.some Jvm.ClassFile.FieldType.int), Jvm.Cond.code ({ cls := "java/lang/String", name := "coder", desc := "()B" } : Jvm.MethodName) jdk_42_method_152_code (1 : Nat) (Option.some Jvm.ClassFile.FieldType.byte), Jvm.Cond.code ({ cls := "java/lang/Math", name := "min", desc := "(II)I" } : Jvm.MethodName) jdk_29_method_69_code (2 : Nat) (Option.some Jvm.ClassFile.FieldType.int), Jvm.Cond.code ({ cls := "java/lang/String", name := "charAt", desc := "(I)C" } : Jvm.MethodName) jdk_42_method_56_code (2 : Nat) (Option.some Jvm.ClassFile.FieldType.char), Jvm.Cond.code ({ cls := "java/lang/String", name := "isLatin1", desc := "()Z" } : Jvm.MethodName) jdk_42_method_154_code (1 : Nat) (Option.some Jvm.ClassFile.FieldType.boolean), Jvm.Cond.code ({ cls := "java/lang/StringLatin1", name := "charAt", desc := "([BI)C" } : Jvm.MethodName) jdk_43_method_2_code (2 : Nat) (Option.some Jvm.ClassFile.FieldType.char), Jvm.Cond.code ({ cls := "java/lang/String", name := "checkIndex", desc := "(II)V" } : Jvm.MethodName) jdk_42_method_155_code (2 : Nat) (Option.none : Option Jvm.ClassFile.FieldType), Jvm.Cond.code ({ cls := "jdk/internal/util/Preconditions", name := "checkIndex", desc := "(IILjava/util/function/BiFunction;)I" } : Jvm.MethodName) jdk_41_method_11_code (3 : Nat) (Option.some Jvm.ClassFile.FieldType.int)]
set_option maxRecDepth 65536 in
theorem codes_eq : words1.filter isCode = codes1 := rfl
theorem w_codes : ∀ c ∈ words1.filter isCode, c.before args0 about1 = true := by
  rw [codes_eq]
  intro c hc
  simp only [codes1, List.mem_cons, List.not_mem_nil, or_false] at hc
  rcases hc with rfl | rfl | rfl | rfl | rfl | rfl | rfl | rfl | rfl | rfl | rfl | rfl | rfl | rfl | rfl | rfl | rfl | rfl | rfl
  · exact w_c0
  · exact w_c1
  · exact w_c2
  · exact w_c3
  · exact w_c4
  · exact w_c5
  · exact w_c6
  · exact w_c7
  · exact w_c8
  · exact w_c9
  · exact w_c10
  · exact w_c11
  · exact w_c12
  · exact w_c13
  · exact w_c14
  · exact w_c15
  · exact w_c16
  · exact w_c17
  · exact w_c18
set_option maxRecDepth 65536 in
theorem w_t1 : (words1.take 24).all (fun c => isCode c || c.before args0 about1) = true := by decide +kernel
set_option maxRecDepth 65536 in
theorem w_t2 : ((words1.drop 24).take 24).all (fun c => isCode c || c.before args0 about1) = true := by decide +kernel
set_option maxRecDepth 65536 in
theorem w_t3 : (((words1.drop 24).drop 24).take 24).all (fun c => isCode c || c.before args0 about1) = true := by decide +kernel
set_option maxRecDepth 65536 in
theorem w_t4 : (((words1.drop 24).drop 24).drop 24).all (fun c => isCode c || c.before args0 about1) = true := by decide +kernel
theorem w_tables : (allAtoms (Jvm.Cond.code x code maxLocals ret :: tables_1)).before args0 about1 = true := by
  rw [allAtoms_all]
  show words1.all (fun c => c.before args0 about1) = true
  refine all_split ?_ w_codes
  rw [← List.take_append_drop 24 words1, List.all_append, w_t1, ← List.take_append_drop 24 (words1.drop 24), List.all_append, w_t2, ← List.take_append_drop 24 ((words1.drop 24).drop 24), List.all_append, w_t3, w_t4]
  rfl
set_option maxRecDepth 65536 in
theorem w_rest : rest_1_c.before args0 about1 = true := by decide +kernel
set_option maxRecDepth 65536 in
theorem w_case : (Jvm.Cond.and given_1 narrow_1).before args0 about1 = true := by decide +kernel
theorem w_applies : (headSpec (Jvm.Cond.code x code maxLocals ret :: tables_1) room_1).applies x e0.platform about1 = true :=
  (Spec.applies_iff w_frames).mpr ⟨w_running, w_runnable, w_alone, w_named, w_hears, w_ripe, w_room, w_tables⟩
theorem atStart : AtStart classFile x code maxLocals ret World_1 tables_1 room_1 Calls_1 rest_1 Pre_1 launch0 p0 e0 about1 theMethod args0 below0 :=
  ⟨lists_1, trivial, launch0.admits_env _ _ _, launch0.least_env, fairChoices_fair.cas, fairChoices_fair.clock, w_frames, w_args, w_heap, w_applies, trivial, w_rest, w_case⟩
end start1
theorem witness_1 : WitnessClaimed_1 := ⟨start1.p0, start1.e0, start1.about1, start1.theMethod, start1.args0, start1.below0, start1.atStart⟩
end Jvm.Pilot.@@N@@
