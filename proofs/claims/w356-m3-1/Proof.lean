import JvmDerived
import JvmDerived.Pilot.@@N@@Statement
import JvmDerived.Pilot.@@N@@Code
set_option linter.unusedVariables false
set_option linter.unusedSimpArgs false
/- laws to paste: Road.backV, Road.lenW, Road.chN, Road.eqW, Road.codOf (cut by pick.py; bodies as the Statement names them) -/
namespace Jvm.Pilot.@@N@@
namespace StrChars
open Jvm Sem ClassFile Op Lib Jvm.Stand Jvm.Free.XT Jvm.Free.ALB Jvm.Free.JM Jvm.Free
open Jvm.Lib.Cold (StaticIs)
/-- a char array whose places are chars -/
def Ch (a : Addr) (A : Cell) (U : State) : Prop := Arr .char a A U ∧ Typed .char A
theorem Ch.mv {a : Addr} {A : Cell} {U U' : State} (h : Ch a A U) (hal : U.vm.Alike U'.vm) (hh : U'.heap = U.heap) : Ch a A U' := ⟨h.1.mv hal hh, h.2⟩
theorem Ch.keep {a : Addr} {A : Cell} {U U' : State} (h : Ch a A U) (hal : U.vm.Alike U'.vm) (hk : U'.heap[a]? = some A) : Ch a A U' := ⟨h.1.keep hal hk, h.2⟩
/-- what place i of a char[]'s cell holds -/
def cv (A : Cell) (i : Nat) : Int32 := match A.slots[i]? with | some (.int x) => x | _ => 0
theorem Ch.get {a : Addr} {A : Cell} {U : State} (h : Ch a A U) {i : Nat} (hi : i < A.slots.size) : A.slots[i]? = some (.int (cv A i)) := by
  have e := Array.getElem?_eq_getElem hi
  have f := h.2 i _ e
  unfold cv; rw [e]
  generalize A.slots[i] = v at f
  cases v <;> simp [fits] at f ⊢
/-- the byte that i2b leaves of a char -/
def lo8 (x : Int32) : Int32 := x.toInt8.toInt32
theorem fits_lo8 (y : Int32) : fits .byte (.int (lo8 y)) = true := by
  have h1 := y.toInt8.le_toInt
  have h2 := y.toInt8.toInt_lt
  simp only [lo8, fits, Bool.and_eq_true, decide_eq_true_eq, Int32.le_iff_toInt_le, Int8.toInt_toInt32, show (-128 : Int32).toInt = -128 from by decide, show (127 : Int32).toInt = 127 from by decide]
  omega
/-- A' is A but that each place j of lo .. hi - 1 holds f j -/
def Laid (A A' : Cell) (lo hi : Nat) (f : Nat → Value) : Prop := A'.cls = A.cls ∧ A'.vm = A.vm ∧ A'.slots.size = A.slots.size ∧ ∀ i, A'.slots[i]? = if lo ≤ i ∧ i < hi then some (f i) else A.slots[i]?
theorem Laid.zero (A : Cell) (lo : Nat) (f : Nat → Value) : Laid A A lo (lo + 0) f := ⟨rfl, rfl, rfl, fun i => by rw [if_neg (by omega)]⟩
theorem Laid.step {A Ak : Cell} {lo k : Nat} {f : Nat → Value} {v : Value} (h : Laid A Ak lo k f) (hlo : lo ≤ k) (hk : k < Ak.slots.size) (hv : v = f k) : Laid A (Ak.setSlot k v) lo (k + 1) f := by
  refine ⟨h.1, h.2.1, by simpa [Cell.setSlot] using h.2.2.1, fun i => ?_⟩
  by_cases e : k = i
  · subst e; rw [Cell.slots_setSlot_self v hk, if_pos (by omega), hv]
  · rw [Cell.slots_setSlot_ne v e, h.2.2.2 i]
    by_cases q : lo ≤ i ∧ i < k
    · rw [if_pos q, if_pos (by omega)]
    · rw [if_neg q, if_neg (by omega)]
def U16 : String := "java/lang/StringUTF16"
namespace Cmp5
def yN : MethodName := ⟨"java/lang/StringUTF16", "compress", "([CI[BII)I"⟩
abbrev yB : ByteArray := jdk_52_method_21_code
theorem d0 : decode yB 0 = .ok (.iconst 0, 1) := by decide +kernel
theorem d1 : decode yB 1 = .ok (.istore 5, 2) := by decide +kernel
theorem d3 : decode yB 3 = .ok (.iload 5, 2) := by decide +kernel
theorem d5 : decode yB 5 = .ok (.iload 4, 2) := by decide +kernel
theorem d7 : decode yB 7 = .ok (.if_icmp (.ge) 37, 3) := by decide +kernel
theorem d10 : decode yB 10 = .ok (.aload_n 0, 1) := by decide +kernel
theorem d11 : decode yB 11 = .ok (.iload_n 1, 1) := by decide +kernel
theorem d12 : decode yB 12 = .ok (.caload, 1) := by decide +kernel
theorem d13 : decode yB 13 = .ok (.istore 6, 2) := by decide +kernel
theorem d15 : decode yB 15 = .ok (.iload 6, 2) := by decide +kernel
theorem d17 : decode yB 17 = .ok (.sipush 255, 3) := by decide +kernel
theorem d20 : decode yB 20 = .ok (.if_icmp (.le) 6, 3) := by decide +kernel
theorem d26 : decode yB 26 = .ok (.aload_n 2, 1) := by decide +kernel
theorem d27 : decode yB 27 = .ok (.iload_n 3, 1) := by decide +kernel
theorem d28 : decode yB 28 = .ok (.iload 6, 2) := by decide +kernel
theorem d30 : decode yB 30 = .ok (.i2b, 1) := by decide +kernel
theorem d31 : decode yB 31 = .ok (.bastore, 1) := by decide +kernel
theorem d32 : decode yB 32 = .ok (.iinc 1 1, 3) := by decide +kernel
theorem d35 : decode yB 35 = .ok (.iinc 3 1, 3) := by decide +kernel
theorem d38 : decode yB 38 = .ok (.iinc 5 1, 3) := by decide +kernel
theorem d41 : decode yB 41 = .ok (.goto (-38), 3) := by decide +kernel
theorem d44 : decode yB 44 = .ok (.iload 4, 2) := by decide +kernel
theorem d46 : decode yB 46 = .ok (.ireturn, 1) := by decide +kernel
def site : List Cond := []
def tab : Cond := tabOf yN yB 7 (some .int) site
def P (b : Addr) (A : Cell) (d : Addr) (B : Cell) (o q len : Nat) (args : Array Value) (s : State) : Prop := args = #[.ref b, .int (Int32.ofNat o), .ref d, .int (Int32.ofNat q), .int (Int32.ofNat len)] ∧ Ch b A s ∧ Arr .byte d B s ∧ b ≠ d ∧ o + len ≤ A.slots.size ∧ q + len ≤ B.slots.size ∧ ∀ i, i < len → ¬ 255 < cv A (o + i)
def E (b : Addr) (A : Cell) (d : Addr) (B : Cell) (o q len : Nat) (r : Option Value) (s u : State) : Prop := r = some (.int (Int32.ofNat len)) ∧ ∃ B', Put d B' s u ∧ Laid B B' q (q + len) (fun j => Value.int (lo8 (cv A (o + (j - q)))))
/-- no char of the range above 255: len; the places written hold each char's low byte -/
theorem law (l : Launch) (b : Addr) (A : Cell) (d : Addr) (B : Cell) (o q len : Nat) : Law l yN 5 5 0 0 yB 7 (some .int) site (P b A d B o q len) (E b A d B o q len) (copyLocs d q len) 0 0 := by
  refine Law.of_walk (plainFor_of_name (by decide +kernel)) (by decide +kernel) (by decide +kernel) (by decide) (fun _ _ h => by rw [h.1]; rfl) (fun _ U U' hal hh h => ⟨h.1, h.2.1.mv hal hh, h.2.2.1.mv hal hh, h.2.2.2⟩) (fun r U U' V V' h1 hal h2 h => ⟨h.1, h.2.elim fun B' q => ⟨B', q.1.mv h1 h2, q.2⟩⟩) ?_
  intro p e s m args below meth c s₁ X0 hexec hbytes hml hret hlk hnm hown hh0 W hP
  obtain ⟨rfl, hA, hB, hne, l1, l2, hp⟩ := hP
  have c1 : Steps p.tables e below (s₁.setTop (entryFrame m #[.ref b, .int (Int32.ofNat o), .ref d, .int (Int32.ofNat q), .int (Int32.ofNat len)] 7)) (s₁.setTop (mkF m 0 #[.val (.ref b), .val (.int (Int32.ofNat o)), .val (.ref d), .val (.int (Int32.ofNat q)), .val (.int (Int32.ofNat len)), .unset, .unset] [])) := entry rfl
  have hA0 := hA.1.mv X0.warmed.alike hh0
  have hB0 := hB.mv X0.warmed.alike hh0
  have a31 := hA.1.2.2.2
  have c2 : Steps p.tables e below (s₁.setTop (entryFrame m #[.ref b, .int (Int32.ofNat o), .ref d, .int (Int32.ofNat q), .int (Int32.ofNat len)] 7)) (s₁.setTop (mkF m 3 #[.val (.ref b), .val (.int (Int32.ofNat o)), .val (.ref d), .val (.int (Int32.ofNat q)), .val (.int (Int32.ofNat len)), .val (.int 0), .unset] [])) := c1.trans (by
    refine iconstV X0.here hexec rfl 0 (hb hbytes d0) (by decide) ?_
    refine XS.istore X0.here hexec rfl (hb hbytes d1) rfl rfl ?_
    exact Steps.refl _)
  have loop : ∀ (r i : Nat), i + r = len → ∀ (z : Slot), (z = .unset ∨ ∃ w, z = .val w ∧ w.category = 1) → ∀ (Tl : State) (Bk : Cell), Stand p l e { frames := 0, locals := 0, cells := 0, slots := 0 } s m #[.ref b, .int (Int32.ofNat o), .ref d, .int (Int32.ofNat q), .int (Int32.ofNat len)] below meth c Tl ([] ++ copyLocs d q i) 0 0 → Put d Bk s₁ Tl → Laid B Bk q (q + i) (fun j => Value.int (lo8 (cv A (o + (j - q))))) →
      Steps p.tables e below (s₁.setTop (entryFrame m #[.ref b, .int (Int32.ofNat o), .ref d, .int (Int32.ofNat q), .int (Int32.ofNat len)] 7)) (Tl.setTop (mkF m 3 #[.val (.ref b), .val (.int (Int32.ofNat (o + i))), .val (.ref d), .val (.int (Int32.ofNat (q + i))), .val (.int (Int32.ofNat len)), .val (.int (Int32.ofNat i)), z] [])) → ∃ (T' : State) (B' : Cell) (z' : Slot), Stand p l e { frames := 0, locals := 0, cells := 0, slots := 0 } s m #[.ref b, .int (Int32.ofNat o), .ref d, .int (Int32.ofNat q), .int (Int32.ofNat len)] below meth c T' ([] ++ copyLocs d q len) 0 0 ∧ Put d B' s₁ T' ∧ Laid B B' q (q + len) (fun j => Value.int (lo8 (cv A (o + (j - q))))) ∧
      Steps p.tables e below (s₁.setTop (entryFrame m #[.ref b, .int (Int32.ofNat o), .ref d, .int (Int32.ofNat q), .int (Int32.ofNat len)] 7)) (T'.setTop (mkF m 3 #[.val (.ref b), .val (.int (Int32.ofNat (o + len))), .val (.ref d), .val (.int (Int32.ofNat (q + len))), .val (.int (Int32.ofNat len)), .val (.int (Int32.ofNat len)), z'] [])) := by
    intro r
    induction r with
    | zero =>
      intro i hi z hz Tl Bk Xl pl fl cl
      have hil : i = len := by omega
      rw [hil] at Xl fl cl
      exact ⟨Tl, Bk, z, Xl, pl, fl, cl⟩
    | succ r ih =>
      intro i hi z hz Tl Bk Xl pl fl cl
      have all := X0.warmed.alike.symm.trans Xl.warmed.alike
      have hAl := hA0.keep all (pl.other hne hA0.1)
      have hBk := hB0.like all pl.1 fl.1 fl.2.1 fl.2.2.1
      have hlt : q + i < Bk.slots.size := by rw [fl.2.2.1]; omega
      have c3 : Steps p.tables e below (s₁.setTop (entryFrame m #[.ref b, .int (Int32.ofNat o), .ref d, .int (Int32.ofNat q), .int (Int32.ofNat len)] 7)) (Tl.setTop (mkF m 12 #[.val (.ref b), .val (.int (Int32.ofNat (o + i))), .val (.ref d), .val (.int (Int32.ofNat (q + i))), .val (.int (Int32.ofNat len)), .val (.int (Int32.ofNat i)), z] [.int (Int32.ofNat (o + i)), .ref b])) := cl.trans (by
        refine XS.iload Xl.here hexec rfl (hb hbytes d3) rfl ?_
        refine XS.iload Xl.here hexec rfl (hb hbytes d5) rfl ?_
        refine XS.icmpNo Xl.here hexec rfl (hb hbytes d7) rfl (ii_ge_f (lt32 (by omega) (by omega))) ?_
        refine XS.aloadN Xl.here hexec rfl (hb hbytes d10) rfl rfl ?_
        refine XS.iloadN Xl.here hexec rfl (hb hbytes d11) rfl ?_
        exact Steps.refl _)
      have c4 : Steps p.tables e below (s₁.setTop (entryFrame m #[.ref b, .int (Int32.ofNat o), .ref d, .int (Int32.ofNat q), .int (Int32.ofNat len)] 7)) (Tl.setTop (mkF m 13 #[.val (.ref b), .val (.int (Int32.ofNat (o + i))), .val (.ref d), .val (.int (Int32.ofNat (q + i))), .val (.int (Int32.ofNat len)), .val (.int (Int32.ofNat i)), z] [.int (cv A (o + i))])) := c3.trans (by
        refine Xl.aget hexec hAl rfl (hA.get (i := o + i) (by omega)) rfl rfl (hb hbytes d12) ?_
        exact Steps.refl _)
      have c5 : Steps p.tables e below (s₁.setTop (entryFrame m #[.ref b, .int (Int32.ofNat o), .ref d, .int (Int32.ofNat q), .int (Int32.ofNat len)] 7)) (Tl.setTop (mkF m 15 #[.val (.ref b), .val (.int (Int32.ofNat (o + i))), .val (.ref d), .val (.int (Int32.ofNat (q + i))), .val (.int (Int32.ofNat len)), .val (.int (Int32.ofNat i)), .val (.int (cv A (o + i)))] [])) := c4.trans (by
        refine XS.istoreS Xl.here hexec rfl (hb hbytes d13) rfl rfl hz ?_
        exact Steps.refl _)
      have c6 : Steps p.tables e below (s₁.setTop (entryFrame m #[.ref b, .int (Int32.ofNat o), .ref d, .int (Int32.ofNat q), .int (Int32.ofNat len)] 7)) (Tl.setTop (mkF m 31 #[.val (.ref b), .val (.int (Int32.ofNat (o + i))), .val (.ref d), .val (.int (Int32.ofNat (q + i))), .val (.int (Int32.ofNat len)), .val (.int (Int32.ofNat i)), .val (.int (cv A (o + i)))] [.int (lo8 (cv A (o + i))), .int (Int32.ofNat (q + i)), .ref d])) := c5.trans (by
        refine XS.iload Xl.here hexec rfl (hb hbytes d15) rfl ?_
        refine sipushV Xl.here hexec rfl 255 (hb hbytes d17) (by decide) ?_
        refine XS.icmpYes Xl.here hexec rfl (pc0 := 20) rfl (hb hbytes d20) rfl (ii_le_t (hp i (by omega))) (by decide) rfl ?_
        refine XS.aloadN Xl.here hexec rfl (hb hbytes d26) rfl rfl ?_
        refine XS.iloadN Xl.here hexec rfl (hb hbytes d27) rfl ?_
        refine XS.iload Xl.here hexec rfl (hb hbytes d28) rfl ?_
        refine i2b Xl.here hexec rfl (hb hbytes d30) rfl ?_
        exact Steps.refl _)
      obtain ⟨T7, X7, p7, st7⟩ := Xl.aput hexec hBk rfl hlt rfl (fits_lo8 (cv A (o + i))) (g := (mkF m 31 #[.val (.ref b), .val (.int (Int32.ofNat (o + i))), .val (.ref d), .val (.int (Int32.ofNat (q + i))), .val (.int (Int32.ofNat len)), .val (.int (Int32.ofNat i)), .val (.int (cv A (o + i)))] [.int (lo8 (cv A (o + i))), .int (Int32.ofNat (q + i)), .ref d])) rfl (rest := []) rfl (hb hbytes d31)
      have c8 : Steps p.tables e below (s₁.setTop (entryFrame m #[.ref b, .int (Int32.ofNat o), .ref d, .int (Int32.ofNat q), .int (Int32.ofNat len)] 7)) (T7.setTop (mkF m 32 #[.val (.ref b), .val (.int (Int32.ofNat (o + i))), .val (.ref d), .val (.int (Int32.ofNat (q + i))), .val (.int (Int32.ofNat len)), .val (.int (Int32.ofNat i)), .val (.int (cv A (o + i)))] [])) := c6.trans (st7 _ (Steps.refl _))
      have c9 : Steps p.tables e below (s₁.setTop (entryFrame m #[.ref b, .int (Int32.ofNat o), .ref d, .int (Int32.ofNat q), .int (Int32.ofNat len)] 7)) (T7.setTop (mkF m 3 #[.val (.ref b), .val (.int (Int32.ofNat (o + i) + 1)), .val (.ref d), .val (.int (Int32.ofNat (q + i) + 1)), .val (.int (Int32.ofNat len)), .val (.int (Int32.ofNat i + 1)), .val (.int (cv A (o + i)))] [])) := c8.trans (by
        refine iincV X7.here hexec rfl 1 (hb hbytes d32) (by decide) rfl rfl ?_
        refine iincV X7.here hexec rfl 1 (hb hbytes d35) (by decide) rfl rfl ?_
        refine iincV X7.here hexec rfl 1 (hb hbytes d38) (by decide) rfl rfl ?_
        refine XS.goto X7.here hexec rfl (pc0 := 41) rfl (hb hbytes d41) (by decide) rfl ?_
        exact Steps.refl _)
      have c10 : Steps p.tables e below (s₁.setTop (entryFrame m #[.ref b, .int (Int32.ofNat o), .ref d, .int (Int32.ofNat q), .int (Int32.ofNat len)] 7)) (T7.setTop (mkF m 3 #[.val (.ref b), .val (.int (Int32.ofNat (o + (i + 1)))), .val (.ref d), .val (.int (Int32.ofNat (q + (i + 1)))), .val (.int (Int32.ofNat len)), .val (.int (Int32.ofNat (i + 1))), .val (.int (cv A (o + i)))] [])) := by
        have := c9
        rw [succ32, succ32, succ32] at this
        exact this
      exact ih (i + 1) (by omega) _ (Or.inr ⟨_, rfl, rfl⟩) T7 _ (by rw [copyLocs_step, ← List.append_assoc]; exact X7) (pl.trans p7) (fl.step (by omega) hlt (by simp)) c10
  obtain ⟨T9, B9, z9, X9, p9, f9, g9⟩ := loop len 0 (by omega) .unset (Or.inl rfl) s₁ B (by simpa [copyLocs] using X0) ⟨hB0.1, fun _ _ => rfl, rfl⟩ (Laid.zero _ _ _) c2
  have c11 : Steps p.tables e below (s₁.setTop (entryFrame m #[.ref b, .int (Int32.ofNat o), .ref d, .int (Int32.ofNat q), .int (Int32.ofNat len)] 7)) (T9.setTop (mkF m 46 #[.val (.ref b), .val (.int (Int32.ofNat (o + len))), .val (.ref d), .val (.int (Int32.ofNat (q + len))), .val (.int (Int32.ofNat len)), .val (.int (Int32.ofNat len)), z9] [.int (Int32.ofNat len)])) := g9.trans (by
    refine XS.iload X9.here hexec rfl (hb hbytes d3) rfl ?_
    refine XS.iload X9.here hexec rfl (hb hbytes d5) rfl ?_
    refine XS.icmpYes X9.here hexec rfl (pc0 := 7) rfl (hb hbytes d7) rfl (ii_ge_t (nlt32 (by omega) (Nat.le_refl _))) (by decide) rfl ?_
    refine XS.iload X9.here hexec rfl (hb hbytes d44) rfl ?_
    exact Steps.refl _)
  exact ⟨T9, some (.int (Int32.ofNat len)), _, _, _, X9, by simp, rfl, rfl, (fun h => by cases h), ⟨rfl, B9, p9.from hh0, f9⟩, fun fs hl => c11.trans (X9.ireturnOut hexec hret rfl (Or.inl rfl) (hb hbytes d46) hl)⟩
end Cmp5
namespace Cmp3
def yN : MethodName := ⟨"java/lang/StringUTF16", "compress", "([CII)[B"⟩
abbrev yB : ByteArray := jdk_52_method_16_code
theorem d0 : decode yB 0 = .ok (.iload_n 2, 1) := by decide +kernel
theorem d1 : decode yB 1 = .ok (.newarray .byte, 2) := by decide +kernel
theorem d3 : decode yB 3 = .ok (.astore_n 3, 1) := by decide +kernel
theorem d4 : decode yB 4 = .ok (.aload_n 0, 1) := by decide +kernel
theorem d5 : decode yB 5 = .ok (.iload_n 1, 1) := by decide +kernel
theorem d6 : decode yB 6 = .ok (.aload_n 3, 1) := by decide +kernel
theorem d7 : decode yB 7 = .ok (.iconst 0, 1) := by decide +kernel
theorem d8 : decode yB 8 = .ok (.iload_n 2, 1) := by decide +kernel
theorem d9 : decode yB 9 = .ok (.invokestatic 115, 3) := by decide +kernel
theorem d12 : decode yB 12 = .ok (.istore 4, 2) := by decide +kernel
theorem d14 : decode yB 14 = .ok (.iload 4, 2) := by decide +kernel
theorem d16 : decode yB 16 = .ok (.iload_n 2, 1) := by decide +kernel
theorem d17 : decode yB 17 = .ok (.if_icmp (.eq) 40, 3) := by decide +kernel
theorem d57 : decode yB 57 = .ok (.aload_n 3, 1) := by decide +kernel
theorem d58 : decode yB 58 = .ok (.areturn, 1) := by decide +kernel
def site : List Cond := [.arrayClass .byte, Cmp5.tab] ++ staticW U16 115 Cmp5.yN
def tab : Cond := tabOf yN yB 6 (some (.array .byte)) site
def P (b : Addr) (A : Cell) (o len : Nat) (args : Array Value) (s : State) : Prop := args = #[.ref b, .int (Int32.ofNat o), .int (Int32.ofNat len)] ∧ Ch b A s ∧ o + len ≤ A.slots.size ∧ len ≤ 536870912 ∧ ∀ i, i < len → ¬ 255 < cv A (o + i)
def E (b : Addr) (A : Cell) (o len : Nat) (r : Option Value) (s u : State) : Prop := NewArr .byte "[B" len (fun j => .int (lo8 (cv A (o + j)))) r s u ∧ u.heap.size = s.heap.size + 1
/-- no char of the range above 255: a new byte[] of their low bytes -/
theorem law (l : Launch) (b : Addr) (A : Cell) (o len : Nat) : Law l yN 3 3 1 18 yB 6 (some (.array .byte)) site (P b A o len) (E b A o len) [] 1 len := by
  refine Law.of_walk (plainFor_of_name (by decide +kernel)) (by decide +kernel) (by decide +kernel) (by decide) (fun _ _ h => by rw [h.1]; rfl) (fun _ U U' hal hh h => ⟨h.1, h.2.1.mv hal hh, h.2.2⟩) (fun r U U' V V' h1 hal h2 h => ⟨NewArr.mv r U U' V V' h1 hal h2 h.1, by rw [h1, h2]; exact h.2⟩) ?_
  intro p e s m args below meth c s₁ X0 hexec hbytes hml hret hlk hnm hown hh0 W hP
  obtain ⟨rfl, hA, l1, l2, hp⟩ := hP
  have a31 := hA.1.2.2.2
  have c1 : Steps p.tables e below (s₁.setTop (entryFrame m #[.ref b, .int (Int32.ofNat o), .int (Int32.ofNat len)] 6)) (s₁.setTop (mkF m 0 #[.val (.ref b), .val (.int (Int32.ofNat o)), .val (.int (Int32.ofNat len)), .unset, .unset, .unset] [])) := entry rfl
  have c2 : Steps p.tables e below (s₁.setTop (entryFrame m #[.ref b, .int (Int32.ofNat o), .int (Int32.ofNat len)] 6)) (s₁.setTop (mkF m 1 #[.val (.ref b), .val (.int (Int32.ofNat o)), .val (.int (Int32.ofNat len)), .unset, .unset, .unset] [.int (Int32.ofNat len)])) := c1.trans (by
    refine XS.iloadN X0.here hexec rfl (hb hbytes d0) rfl ?_
    exact Steps.refl _)
  obtain ⟨T3, B3, X3, ba3, bs3, bv3, bh3, bf3, st3⟩ := X0.anew hexec (atype := .byte) (wk W (.arrayClass .byte)) rfl (by show len * 1 ≤ _; omega) (by omega) (g := (mkF m 1 #[.val (.ref b), .val (.int (Int32.ofNat o)), .val (.int (Int32.ofNat len)), .unset, .unset, .unset] [.int (Int32.ofNat len)])) rfl (hb hbytes d1) (rest := []) rfl (Nat.le_refl _) (by show 0 + len ≤ len; omega)
  rw [hh0] at ba3 st3
  have kp3 : XT.Kept s T3 := (XT.Kept.of_eq hh0).push bh3
  have hA3 := hA.keep X3.warmed.alike (kp3 _ _ hA.1.1)
  have hne : b ≠ s.heap.size := hA.1.ne
  have c4 : Steps p.tables e below (s₁.setTop (entryFrame m #[.ref b, .int (Int32.ofNat o), .int (Int32.ofNat len)] 6)) (T3.setTop (mkF m 3 #[.val (.ref b), .val (.int (Int32.ofNat o)), .val (.int (Int32.ofNat len)), .unset, .unset, .unset] [.ref s.heap.size])) := c2.trans (st3 _ (Steps.refl _))
  have c5 : Steps p.tables e below (s₁.setTop (entryFrame m #[.ref b, .int (Int32.ofNat o), .int (Int32.ofNat len)] 6)) (T3.setTop (mkF m 9 #[.val (.ref b), .val (.int (Int32.ofNat o)), .val (.int (Int32.ofNat len)), .val (.ref s.heap.size), .unset, .unset] [.int (Int32.ofNat len), .int 0, .ref s.heap.size, .int (Int32.ofNat o), .ref b])) := c4.trans (by
    refine XS.astoreN X3.here hexec rfl (hb hbytes d3) rfl rfl rfl ?_
    refine XS.aloadN X3.here hexec rfl (hb hbytes d4) rfl rfl ?_
    refine XS.iloadN X3.here hexec rfl (hb hbytes d5) rfl ?_
    refine XS.aloadN X3.here hexec rfl (hb hbytes d6) rfl rfl ?_
    refine iconstV X3.here hexec rfl 0 (hb hbytes d7) (by decide) ?_
    refine XS.iloadN X3.here hexec rfl (hb hbytes d8) rfl ?_
    exact Steps.refl _)
  obtain ⟨v6, T6, X6, E6, g6⟩ := X3.callS hexec (Cmp5.law l b A s.heap.size B3 o 0 len) hown (wks W (staticW U16 115 Cmp5.yN)) (wk W Cmp5.tab) (W := 0) (Nat.le_of_ble_eq_true rfl) (Nat.le_of_ble_eq_true rfl) (Nat.le_refl _) (by show 0 + len + 0 ≤ len; omega) (g := (mkF m 9 #[.val (.ref b), .val (.int (Int32.ofNat o)), .val (.int (Int32.ofNat len)), .val (.ref s.heap.size), .unset, .unset] [.int (Int32.ofNat len), .int (Int32.ofNat 0), .ref s.heap.size, .int (Int32.ofNat o), .ref b])) rfl (by rw [hml]; rfl) c5 (argsL := [.ref b, .int (Int32.ofNat o), .ref s.heap.size, .int (Int32.ofNat 0), .int (Int32.ofNat len)]) (rest := []) rfl rfl (by show 2 * 0 + 0 ≤ _; decide) (hb hbytes d9) (⟨rfl, hA3, ba3, hne, l1, by rw [bs3]; simp, hp⟩)
  obtain ⟨rfl, B6, p6, f6⟩ := E6
  have c7 : Steps p.tables e below (s₁.setTop (entryFrame m #[.ref b, .int (Int32.ofNat o), .int (Int32.ofNat len)] 6)) (T6.setTop (mkF m 12 #[.val (.ref b), .val (.int (Int32.ofNat o)), .val (.int (Int32.ofNat len)), .val (.ref s.heap.size), .unset, .unset] [.int (Int32.ofNat len)])) := g6
  have c8 : Steps p.tables e below (s₁.setTop (entryFrame m #[.ref b, .int (Int32.ofNat o), .int (Int32.ofNat len)] 6)) (T6.setTop (mkF m 58 #[.val (.ref b), .val (.int (Int32.ofNat o)), .val (.int (Int32.ofNat len)), .val (.ref s.heap.size), .val (.int (Int32.ofNat len)), .unset] [.ref s.heap.size])) := c7.trans (by
    refine XS.istore X6.here hexec rfl (hb hbytes d12) rfl rfl ?_
    refine XS.iload X6.here hexec rfl (hb hbytes d14) rfl ?_
    refine XS.iloadN X6.here hexec rfl (hb hbytes d16) rfl ?_
    refine XS.icmpYes X6.here hexec rfl (pc0 := 17) rfl (hb hbytes d17) rfl (ii_eq_t rfl) (by decide) rfl ?_
    refine XS.aloadN X6.here hexec rfl (hb hbytes d57) rfl rfl ?_
    exact Steps.refl _)
  have X8 := X6.wide (L' := []) (cells' := 1) (slots' := len) (fun x hx hlt => by
    simp only [List.nil_append, copyLocs, List.mem_map, List.mem_range] at hx
    obtain ⟨i, -, rfl⟩ := hx
    exact absurd hlt (Nat.lt_irrefl _)) (Nat.le_refl _) (by omega)
  exact ⟨T6, some (.ref s.heap.size), _, _, _, X8, rfl, rfl, rfl, (fun h => by cases h), ⟨⟨rfl, B6, ba3.like (X3.warmed.alike.symm.trans X6.warmed.alike) p6.1 f6.1 f6.2.1 f6.2.2.1, f6.2.1.trans bv3, by rw [X6.warmed.alike.findClass, f6.1]; exact bf3, by rw [f6.2.2.1, bs3]; simp, fun j hj => by rw [f6.2.2.2 j, if_pos (by omega)]; rfl, kp3.put p6 (Nat.le_refl _)⟩, by rw [p6.2.2, bh3, hh0]; simp⟩, fun fs hl => c8.trans (X8.areturnOut hexec rfl hret rfl (hb hbytes d58) hl)⟩
end Cmp3
namespace CodL
def yN : MethodName := ⟨"java/lang/StringUTF16", "coderFromArrayLen", "([BI)B"⟩
abbrev yB : ByteArray := jdk_52_method_15_code
theorem d0 : decode yB 0 = .ok (.iload_n 1, 1) := by decide +kernel
theorem d1 : decode yB 1 = .ok (.aload_n 0, 1) := by decide +kernel
theorem d2 : decode yB 2 = .ok (.arraylength, 1) := by decide +kernel
theorem d3 : decode yB 3 = .ok (.isub, 1) := by decide +kernel
theorem d4 : decode yB 4 = .ok (.bipush 31, 2) := by decide +kernel
theorem d6 : decode yB 6 = .ok (.iushr, 1) := by decide +kernel
theorem d7 : decode yB 7 = .ok (.i2b, 1) := by decide +kernel
theorem d8 : decode yB 8 = .ok (.ireturn, 1) := by decide +kernel
def site : List Cond := []
def tab : Cond := tabOf yN yB 2 (some .byte) site
def P (d : Addr) (B : Cell) (args : Array Value) (s : State) : Prop := args = #[.ref d, .int (Int32.ofNat B.slots.size)] ∧ Arr .byte d B s
def E (r : Option Value) (s u : State) : Prop := XT.PureE (some (.int 0)) r s u
/-- an array as long as the number of chars: LATIN1 -/
theorem law (l : Launch) (d : Addr) (B : Cell) : Law l yN 2 2 0 0 yB 2 (some .byte) site (P d B) E [] 0 0 := by
  refine Law.of_walk (plainFor_of_name (by decide +kernel)) (by decide +kernel) (by decide +kernel) (by decide) (fun _ _ h => by rw [h.1]; rfl) (fun _ U U' hal hh h => ⟨h.1, h.2.mv hal hh⟩) (fun r U U' V V' h1 hal h2 h => XT.PureE.mv r U U' V V' h1 hal h2 h) ?_
  intro p e s m args below meth c s₁ X0 hexec hbytes hml hret hlk hnm hown hh0 W hP
  obtain ⟨rfl, hB⟩ := hP
  have hB0 := hB.mv X0.warmed.alike hh0
  have c1 : Steps p.tables e below (s₁.setTop (entryFrame m #[.ref d, .int (Int32.ofNat B.slots.size)] 2)) (s₁.setTop (mkF m 0 #[.val (.ref d), .val (.int (Int32.ofNat B.slots.size))] [])) := entry rfl
  have c2 : Steps p.tables e below (s₁.setTop (entryFrame m #[.ref d, .int (Int32.ofNat B.slots.size)] 2)) (s₁.setTop (mkF m 2 #[.val (.ref d), .val (.int (Int32.ofNat B.slots.size))] [.ref d, .int (Int32.ofNat B.slots.size)])) := c1.trans (by
    refine XS.iloadN X0.here hexec rfl (hb hbytes d0) rfl ?_
    refine XS.aloadN X0.here hexec rfl (hb hbytes d1) rfl rfl ?_
    exact Steps.refl _)
  have c3 : Steps p.tables e below (s₁.setTop (entryFrame m #[.ref d, .int (Int32.ofNat B.slots.size)] 2)) (s₁.setTop (mkF m 8 #[.val (.ref d), .val (.int (Int32.ofNat B.slots.size))] [.int (lo8 (ushr (Int32.ofNat B.slots.size - Int32.ofNat B.slots.size) 31))])) := c2.trans (by
    refine X0.alen hexec hB0 rfl rfl (hb hbytes d2) ?_
    refine XS.isub X0.here hexec rfl (hb hbytes d3) rfl ?_
    refine bipushV X0.here hexec rfl 31 (hb hbytes d4) (by decide) ?_
    refine iushr X0.here hexec rfl (hb hbytes d6) rfl ?_
    refine i2b X0.here hexec rfl (hb hbytes d7) rfl ?_
    exact Steps.refl _)
  have e0 : lo8 (ushr (Int32.ofNat B.slots.size - Int32.ofNat B.slots.size) 31) = 0 := by rw [Int32.sub_self]; decide
  rw [e0] at c3
  exact ⟨s₁, some (.int 0), _, _, _, X0, rfl, rfl, rfl, (fun h => by cases h), ⟨rfl, hh0⟩, fun fs hl => c3.trans (X0.ireturnOut hexec hret rfl (Or.inr (Or.inr (Or.inl rfl))) (hb hbytes d8) hl)⟩
end CodL
/-- the String at a is Latin-1 over a new byte[] (the heap's one new cell): the low bytes of the len chars of A from o on; every cell but a is kept -/
def Got (a : Addr) (D : Cell) (fV fC : Field) (A : Cell) (o len : Nat) (r : Option Value) (s u : State) : Prop := r = none ∧ ∃ D' V : Cell, Blank "java/lang/String" a D' u ∧ Same D D' [fV.slot, fC.slot] ∧ D'.slots[fV.slot]? = some (.ref s.heap.size) ∧ D'.slots[fC.slot]? = some (.int 0) ∧ Arr .byte s.heap.size V u ∧ V.vm = .none ∧ u.vm.findClass "[B" = some V.cls ∧ V.slots.size = len ∧ (∀ j, j < len → V.slots[j]? = some (.int (lo8 (cv A (o + j))))) ∧ (∀ (y : Addr) (c : Cell), y ≠ a → s.heap[y]? = some c → u.heap[y]? = some c) ∧ u.heap.size = s.heap.size + 1
theorem Got.mv {a : Addr} {D A : Cell} {fV fC : Field} {o len : Nat} : ∀ r (U U' V V' : State), U'.heap = U.heap → V.vm.Alike V'.vm → V'.heap = V.heap → Got a D fV fC A o len r U V → Got a D fV fC A o len r U' V' :=
  fun r U U' V V' h1 hal h2 ⟨e0, D', X, a1, a2, a3, a4, a5, a6, a7, a8, a9, a10, a11⟩ => ⟨e0, D', X, a1.mv hal h2, a2, by rw [h1]; exact a3, a4, by rw [h1]; exact a5.mv hal h2, a6, by rw [hal.findClass]; exact a7, a8, a9, by rw [h1, h2]; exact a10, by rw [h1, h2]; exact a11⟩
namespace New4
def yN : MethodName := ⟨"java/lang/String", "<init>", "([CIILjava/lang/Void;)V"⟩
abbrev yB : ByteArray := jdk_42_method_149_code
theorem d0 : decode yB 0 = .ok (.aload_n 0, 1) := by decide +kernel
theorem d1 : decode yB 1 = .ok (.invokespecial 1, 3) := by decide +kernel
theorem d4 : decode yB 4 = .ok (.iload_n 3, 1) := by decide +kernel
theorem d5 : decode yB 5 = .ok (.ifCond (.ne) 22, 3) := by decide +kernel
theorem d27 : decode yB 27 = .ok (.getstatic 38, 3) := by decide +kernel
theorem d30 : decode yB 30 = .ok (.ifCond (.eq) 28, 3) := by decide +kernel
theorem d33 : decode yB 33 = .ok (.aload_n 1, 1) := by decide +kernel
theorem d34 : decode yB 34 = .ok (.iload_n 2, 1) := by decide +kernel
theorem d35 : decode yB 35 = .ok (.iload_n 3, 1) := by decide +kernel
theorem d36 : decode yB 36 = .ok (.invokestatic 177, 3) := by decide +kernel
theorem d39 : decode yB 39 = .ok (.astore 5, 2) := by decide +kernel
theorem d41 : decode yB 41 = .ok (.aload_n 0, 1) := by decide +kernel
theorem d42 : decode yB 42 = .ok (.aload 5, 2) := by decide +kernel
theorem d44 : decode yB 44 = .ok (.iload_n 3, 1) := by decide +kernel
theorem d45 : decode yB 45 = .ok (.invokestatic 47, 3) := by decide +kernel
theorem d48 : decode yB 48 = .ok (.putfield 15, 3) := by decide +kernel
theorem d51 : decode yB 51 = .ok (.aload_n 0, 1) := by decide +kernel
theorem d52 : decode yB 52 = .ok (.aload 5, 2) := by decide +kernel
theorem d54 : decode yB 54 = .ok (.putfield 9, 3) := by decide +kernel
theorem d57 : decode yB 57 = .ok (.return_, 1) := by decide +kernel
def site : List Cond := [.fieldLink "java/lang/String" 38 "java/lang/String" "COMPACT_STRINGS" "Z", Cmp3.tab, CodL.tab, .laysFinal "java/lang/String" "java/lang/String" "value" "[B", .fieldLink "java/lang/String" 9 "java/lang/String" "value" "[B", .laysFinal "java/lang/String" "java/lang/String" "coder" "B", .fieldLink "java/lang/String" 15 "java/lang/String" "coder" "B"] ++ objW "java/lang/String" 1 ++ staticW "java/lang/String" 177 Cmp3.yN ++ staticW "java/lang/String" 47 CodL.yN
def tab : Cond := tabOf yN yB 6 none site
def P (a : Addr) (D : Cell) (fV fC : Field) (b : Addr) (A : Cell) (z : Int32) (o len : Nat) (args : Array Value) (s : State) : Prop := args = #[.ref a, .ref b, .int (Int32.ofNat o), .int (Int32.ofNat len), .null] ∧ Blank "java/lang/String" a D s ∧ Found "java/lang/String" "value" "[B" fV s ∧ Found "java/lang/String" "coder" "B" fC s ∧ Ch b A s ∧ StaticIs s "java/lang/String" "COMPACT_STRINGS" "Z" (.int z) ∧ ¬ z = 0 ∧ 0 < len ∧ o + len ≤ A.slots.size ∧ len ≤ 536870912 ∧ ∀ i, i < len → ¬ 255 < cv A (o + i)
def E (a : Addr) (D : Cell) (fV fC : Field) (A : Cell) (o len : Nat) (r : Option Value) (s u : State) : Prop := Got a D fV fC A o len r s u
/-- len > 0, no char of the range above 255: a Latin-1 String of their low bytes -/
theorem law (l : Launch) (a : Addr) (D : Cell) (fV fC : Field) (b : Addr) (A : Cell) (z : Int32) (o len : Nat) : Law l yN 5 4 2 35 yB 6 none site (P a D fV fC b A z o len) (E a D fV fC A o len) [⟨a, fC.slot⟩, ⟨a, fV.slot⟩] 1 len := by
  refine Law.of_walk (plainFor_of_name (by decide +kernel)) (by decide +kernel) (by decide +kernel) (by decide) (fun _ _ h => by rw [h.1]; rfl) (fun _ U U' hal hh h => ⟨h.1, h.2.1.mv hal hh, h.2.2.1.al hal, h.2.2.2.1.al hal, h.2.2.2.2.1.mv hal hh, h.2.2.2.2.2.1.there hal hh, h.2.2.2.2.2.2⟩) (fun r U U' V V' h1 hal h2 h => Got.mv r U U' V V' h1 hal h2 h) ?_
  intro p e s m args below meth c s₁ X0 hexec hbytes hml hret hlk hnm hown hh0 W hP
  obtain ⟨rfl, hB, f1, f2, hA, s1, hz, l0, l1, l2, hp⟩ := hP
  have a31 := hA.1.2.2.2
  have c1 : Steps p.tables e below (s₁.setTop (entryFrame m #[.ref a, .ref b, .int (Int32.ofNat o), .int (Int32.ofNat len), .null] 6)) (s₁.setTop (mkF m 0 #[.val (.ref a), .val (.ref b), .val (.int (Int32.ofNat o)), .val (.int (Int32.ofNat len)), .val .null, .unset] [])) := entry rfl
  have c2 : Steps p.tables e below (s₁.setTop (entryFrame m #[.ref a, .ref b, .int (Int32.ofNat o), .int (Int32.ofNat len), .null] 6)) (s₁.setTop (mkF m 1 #[.val (.ref a), .val (.ref b), .val (.int (Int32.ofNat o)), .val (.int (Int32.ofNat len)), .val .null, .unset] [.ref a])) := c1.trans (by
    refine XS.aloadN X0.here hexec rfl (hb hbytes d0) rfl rfl ?_
    exact Steps.refl _)
  obtain ⟨T3, X3, q3, st3⟩ := X0.oinit hexec hown (wks W (objW "java/lang/String" 1)) (g := (mkF m 1 #[.val (.ref a), .val (.ref b), .val (.int (Int32.ofNat o)), .val (.int (Int32.ofNat len)), .val .null, .unset] [.ref a])) rfl (by rw [hml]; rfl) (rest := []) rfl (hb hbytes d1) (W := 0) (by show 2 * 0 + 0 ≤ _; decide) (Nat.le_of_ble_eq_true rfl) (Nat.le_of_ble_eq_true rfl)
  have hh3 := q3.trans hh0
  have c4 : Steps p.tables e below (s₁.setTop (entryFrame m #[.ref a, .ref b, .int (Int32.ofNat o), .int (Int32.ofNat len), .null] 6)) (T3.setTop (mkF m 27 #[.val (.ref a), .val (.ref b), .val (.int (Int32.ofNat o)), .val (.int (Int32.ofNat len)), .val .null, .unset] [])) := (c2.trans (st3 _ (Steps.refl _))).trans (by
    refine XS.iloadN X3.here hexec rfl (hb hbytes d4) rfl ?_
    refine XS.ifYes X3.here hexec rfl (pc0 := 5) rfl (hb hbytes d5) rfl (i0_ne_t (nz32 (by omega) l0)) (by decide) rfl ?_
    exact Steps.refl _)
  obtain ⟨T5, X5, q5, st5⟩ := X3.sget hexec hown (wk W (.fieldLink "java/lang/String" 38 "java/lang/String" "COMPACT_STRINGS" "Z")) s1 (fun _ _ h => by rw [hh3]; exact h) (g := (mkF m 27 #[.val (.ref a), .val (.ref b), .val (.int (Int32.ofNat o)), .val (.int (Int32.ofNat len)), .val .null, .unset] [])) rfl (hb hbytes d27)
  have hh5 := q5.trans hh3
  have c6 : Steps p.tables e below (s₁.setTop (entryFrame m #[.ref a, .ref b, .int (Int32.ofNat o), .int (Int32.ofNat len), .null] 6)) (T5.setTop (mkF m 30 #[.val (.ref a), .val (.ref b), .val (.int (Int32.ofNat o)), .val (.int (Int32.ofNat len)), .val .null, .unset] [.int z])) := c4.trans (st5 _ (Steps.refl _))
  have c7 : Steps p.tables e below (s₁.setTop (entryFrame m #[.ref a, .ref b, .int (Int32.ofNat o), .int (Int32.ofNat len), .null] 6)) (T5.setTop (mkF m 36 #[.val (.ref a), .val (.ref b), .val (.int (Int32.ofNat o)), .val (.int (Int32.ofNat len)), .val .null, .unset] [.int (Int32.ofNat len), .int (Int32.ofNat o), .ref b])) := c6.trans (by
    refine XS.ifNo X5.here hexec rfl (hb hbytes d30) rfl (i0_eq_f hz) ?_
    refine XS.aloadN X5.here hexec rfl (hb hbytes d33) rfl rfl ?_
    refine XS.iloadN X5.here hexec rfl (hb hbytes d34) rfl ?_
    refine XS.iloadN X5.here hexec rfl (hb hbytes d35) rfl ?_
    exact Steps.refl _)
  obtain ⟨v8, T8, X8, E8, g8⟩ := X5.callS hexec (Cmp3.law l b A o len) hown (wks W (staticW "java/lang/String" 177 Cmp3.yN)) (wk W Cmp3.tab) (W := 0) (Nat.le_of_ble_eq_true rfl) (Nat.le_of_ble_eq_true rfl) (Nat.le_refl _) (by show 0 + len ≤ len; omega) (g := (mkF m 36 #[.val (.ref a), .val (.ref b), .val (.int (Int32.ofNat o)), .val (.int (Int32.ofNat len)), .val .null, .unset] [.int (Int32.ofNat len), .int (Int32.ofNat o), .ref b])) rfl (by rw [hml]; rfl) c7 (argsL := [.ref b, .int (Int32.ofNat o), .int (Int32.ofNat len)]) (rest := []) rfl rfl (by show 2 * 0 + 0 ≤ _; decide) (hb hbytes d36) (⟨rfl, hA.mv X5.warmed.alike hh5, l1, l2, hp⟩)
  obtain ⟨e8, z8⟩ := E8
  obtain ⟨rfl, N, n1, n2, n3, n4, n5, n6⟩ := NewArr.mv _ T5 s _ _ hh5.symm (Vm.Alike.refl _) rfl e8
  rw [hh5] at z8
  have hB1 := hB.keep X8.warmed.alike (n6 _ _ hB.1)
  have hne : s.heap.size ≠ a := (Nat.ne_of_lt (Array.getElem?_eq_some_iff.mp hB.1).1).symm
  have c9 : Steps p.tables e below (s₁.setTop (entryFrame m #[.ref a, .ref b, .int (Int32.ofNat o), .int (Int32.ofNat len), .null] 6)) (T8.setTop (mkF m 39 #[.val (.ref a), .val (.ref b), .val (.int (Int32.ofNat o)), .val (.int (Int32.ofNat len)), .val .null, .unset] [.ref s.heap.size])) := g8
  have c10 : Steps p.tables e below (s₁.setTop (entryFrame m #[.ref a, .ref b, .int (Int32.ofNat o), .int (Int32.ofNat len), .null] 6)) (T8.setTop (mkF m 45 #[.val (.ref a), .val (.ref b), .val (.int (Int32.ofNat o)), .val (.int (Int32.ofNat len)), .val .null, .val (.ref s.heap.size)] [.int (Int32.ofNat N.slots.size), .ref s.heap.size, .ref a])) := by
    have hc : Steps p.tables e below (s₁.setTop (entryFrame m #[.ref a, .ref b, .int (Int32.ofNat o), .int (Int32.ofNat len), .null] 6)) (T8.setTop (mkF m 45 #[.val (.ref a), .val (.ref b), .val (.int (Int32.ofNat o)), .val (.int (Int32.ofNat len)), .val .null, .val (.ref s.heap.size)] [.int (Int32.ofNat len), .ref s.heap.size, .ref a])) := c9.trans (by
      refine XS.astore X8.here hexec rfl (hb hbytes d39) rfl rfl rfl ?_
      refine XS.aloadN X8.here hexec rfl (hb hbytes d41) rfl rfl ?_
      refine XS.aload X8.here hexec rfl (hb hbytes d42) rfl rfl ?_
      refine XS.iloadN X8.here hexec rfl (hb hbytes d44) rfl ?_
      exact Steps.refl _)
    rw [n4]; exact hc
  obtain ⟨v11, T11, X11, E11, g11⟩ := X8.callS hexec (CodL.law l s.heap.size N) hown (wks W (staticW "java/lang/String" 47 CodL.yN)) (wk W CodL.tab) (W := 1) (Nat.le_of_ble_eq_true rfl) (Nat.le_of_ble_eq_true rfl) (Nat.le_refl _) (by show 0 + len + 0 ≤ len; omega) (g := (mkF m 45 #[.val (.ref a), .val (.ref b), .val (.int (Int32.ofNat o)), .val (.int (Int32.ofNat len)), .val .null, .val (.ref s.heap.size)] [.int (Int32.ofNat N.slots.size), .ref s.heap.size, .ref a])) rfl (by rw [hml]; rfl) c10 (argsL := [.ref s.heap.size, .int (Int32.ofNat N.slots.size)]) (rest := [.ref a]) rfl rfl (by show 2 * 0 + (1 + 0) ≤ _; decide) (hb hbytes d45) (⟨rfl, n1⟩)
  obtain ⟨rfl, q11⟩ := E11
  have hB11 := hB1.mv (X8.warmed.alike.symm.trans X11.warmed.alike) q11
  have c12 : Steps p.tables e below (s₁.setTop (entryFrame m #[.ref a, .ref b, .int (Int32.ofNat o), .int (Int32.ofNat len), .null] 6)) (T11.setTop (mkF m 48 #[.val (.ref a), .val (.ref b), .val (.int (Int32.ofNat o)), .val (.int (Int32.ofNat len)), .val .null, .val (.ref s.heap.size)] [.int 0, .ref a])) := g11
  obtain ⟨T13, X13, p13, bl13, sl13, st13⟩ := X11.finit hexec hown (wk W (.fieldLink "java/lang/String" 15 "java/lang/String" "coder" "B")) (Or.inr ⟨_, (wk W (.laysFinal "java/lang/String" "java/lang/String" "coder" "B"))⟩) (Or.inl ⟨rfl, hnm⟩) f2 (Or.inl rfl) hB11 (t := .byte) (by decide +kernel) rfl (g := (mkF m 48 #[.val (.ref a), .val (.ref b), .val (.int (Int32.ofNat o)), .val (.int (Int32.ofNat len)), .val .null, .val (.ref s.heap.size)] [.int 0, .ref a])) rfl (rest := []) rfl (hb hbytes d48)
  have c14 : Steps p.tables e below (s₁.setTop (entryFrame m #[.ref a, .ref b, .int (Int32.ofNat o), .int (Int32.ofNat len), .null] 6)) (T13.setTop (mkF m 54 #[.val (.ref a), .val (.ref b), .val (.int (Int32.ofNat o)), .val (.int (Int32.ofNat len)), .val .null, .val (.ref s.heap.size)] [.ref s.heap.size, .ref a])) := (c12.trans (st13 _ (Steps.refl _))).trans (by
    refine XS.aloadN X13.here hexec rfl (hb hbytes d51) rfl rfl ?_
    refine XS.aload X13.here hexec rfl (hb hbytes d52) rfl rfl ?_
    exact Steps.refl _)
  obtain ⟨T15, X15, p15, bl15, sl15, st15⟩ := X13.finit hexec hown (wk W (.fieldLink "java/lang/String" 9 "java/lang/String" "value" "[B")) (Or.inr ⟨_, (wk W (.laysFinal "java/lang/String" "java/lang/String" "value" "[B"))⟩) (Or.inl ⟨rfl, hnm⟩) f1 (Or.inl rfl) bl13 (t := (.array .byte)) (by decide +kernel) rfl (g := (mkF m 54 #[.val (.ref a), .val (.ref b), .val (.int (Int32.ofNat o)), .val (.int (Int32.ofNat len)), .val .null, .val (.ref s.heap.size)] [.ref s.heap.size, .ref a])) rfl (rest := []) rfl (hb hbytes d54)
  have c16 : Steps p.tables e below (s₁.setTop (entryFrame m #[.ref a, .ref b, .int (Int32.ofNat o), .int (Int32.ofNat len), .null] 6)) (T15.setTop (mkF m 57 #[.val (.ref a), .val (.ref b), .val (.int (Int32.ofNat o)), .val (.int (Int32.ofNat len)), .val .null, .val (.ref s.heap.size)] [])) := c14.trans (st15 _ (Steps.refl _))
  have ap := apart (Or.inr ⟨_, (wk W (.laysFinal "java/lang/String" "java/lang/String" "value" "[B"))⟩) (Or.inr ⟨_, (wk W (.laysFinal "java/lang/String" "java/lang/String" "coder" "B"))⟩) f1 f2 (t₁ := .array .byte) (t₂ := .byte) (by decide +kernel) (by decide +kernel) (by decide)
  have al := X8.warmed.alike.symm.trans X15.warmed.alike
  have n7 : T11.heap[s.heap.size]? = some N := by rw [q11]; exact n1.1
  exact ⟨T15, none, _, _, _, X15, by simp, rfl, by omega, (fun _ => rfl), ⟨rfl, _, N, bl15, ((Same.refl D _).set _ (by simp)).set _ (by simp), sl15, (Cell.slots_setSlot_ne _ ap).trans sl13, n1.keep al (p15.other hne (p13.other hne n7)), n2, by rw [al.findClass]; exact n3, n4, n5, fun y c h1 h2 => p15.other h1 (p13.other h1 (by rw [q11]; exact n6 y c h2)), by rw [p15.2.2, p13.2.2, q11]; exact z8⟩, fun fs hl => c16.trans (X15.returnOut hexec hret (hb hbytes d57) hl)⟩
end New4
namespace New1
def yN : MethodName := ⟨"java/lang/String", "<init>", "([C)V"⟩
abbrev yB : ByteArray := jdk_42_method_3_code
theorem d0 : decode yB 0 = .ok (.aload_n 0, 1) := by decide +kernel
theorem d1 : decode yB 1 = .ok (.aload_n 1, 1) := by decide +kernel
theorem d2 : decode yB 2 = .ok (.iconst 0, 1) := by decide +kernel
theorem d3 : decode yB 3 = .ok (.aload_n 1, 1) := by decide +kernel
theorem d4 : decode yB 4 = .ok (.arraylength, 1) := by decide +kernel
theorem d5 : decode yB 5 = .ok (.aconst_null, 1) := by decide +kernel
theorem d6 : decode yB 6 = .ok (.invokespecial 27, 3) := by decide +kernel
theorem d9 : decode yB 9 = .ok (.return_, 1) := by decide +kernel
def site : List Cond := [New4.tab] ++ initW "java/lang/String" 27 New4.yN
def tab : Cond := tabOf yN yB 2 none site
def P (a : Addr) (D : Cell) (fV fC : Field) (b : Addr) (A : Cell) (z : Int32) (args : Array Value) (s : State) : Prop := args = #[.ref a, .ref b] ∧ Blank "java/lang/String" a D s ∧ Found "java/lang/String" "value" "[B" fV s ∧ Found "java/lang/String" "coder" "B" fC s ∧ Ch b A s ∧ StaticIs s "java/lang/String" "COMPACT_STRINGS" "Z" (.int z) ∧ ¬ z = 0 ∧ 0 < A.slots.size ∧ A.slots.size ≤ 536870912 ∧ ∀ i, i < A.slots.size → ¬ 255 < cv A i
def E (a : Addr) (D : Cell) (fV fC : Field) (A : Cell) (r : Option Value) (s u : State) : Prop := Got a D fV fC A 0 A.slots.size r s u
/-- new String(chars), not empty, no char above 255: a Latin-1 String of their low bytes -/
theorem law (l : Launch) (a : Addr) (D : Cell) (fV fC : Field) (b : Addr) (A : Cell) (z : Int32) : Law l yN 2 1 3 52 yB 2 none site (P a D fV fC b A z) (E a D fV fC A) [⟨a, fC.slot⟩, ⟨a, fV.slot⟩] 1 A.slots.size := by
  refine Law.of_walk (plainFor_of_name (by decide +kernel)) (by decide +kernel) (by decide +kernel) (by decide) (fun _ _ h => by rw [h.1]; rfl) (fun _ U U' hal hh h => ⟨h.1, h.2.1.mv hal hh, h.2.2.1.al hal, h.2.2.2.1.al hal, h.2.2.2.2.1.mv hal hh, h.2.2.2.2.2.1.there hal hh, h.2.2.2.2.2.2⟩) (fun r U U' V V' h1 hal h2 h => Got.mv r U U' V V' h1 hal h2 h) ?_
  intro p e s m args below meth c s₁ X0 hexec hbytes hml hret hlk hnm hown hh0 W hP
  obtain ⟨rfl, hB, f1, f2, hA, s1, hz, l0, l2, hp⟩ := hP
  have c1 : Steps p.tables e below (s₁.setTop (entryFrame m #[.ref a, .ref b] 2)) (s₁.setTop (mkF m 0 #[.val (.ref a), .val (.ref b)] [])) := entry rfl
  have c2 : Steps p.tables e below (s₁.setTop (entryFrame m #[.ref a, .ref b] 2)) (s₁.setTop (mkF m 6 #[.val (.ref a), .val (.ref b)] [.null, .int (Int32.ofNat A.slots.size), .int 0, .ref b, .ref a])) := c1.trans (by
    refine XS.aloadN X0.here hexec rfl (hb hbytes d0) rfl rfl ?_
    refine XS.aloadN X0.here hexec rfl (hb hbytes d1) rfl rfl ?_
    refine iconstV X0.here hexec rfl 0 (hb hbytes d2) (by decide) ?_
    refine XS.aloadN X0.here hexec rfl (hb hbytes d3) rfl rfl ?_
    refine X0.alen hexec (hA.1.mv X0.warmed.alike hh0) rfl rfl (hb hbytes d4) ?_
    refine XS.aconstNull X0.here hexec rfl (hb hbytes d5) ?_
    exact Steps.refl _)
  obtain ⟨v3, T3, X3, E3, g3⟩ := X0.callN hexec (New4.law l a D fV fC b A z 0 A.slots.size) rfl hown (wks W (initW "java/lang/String" 27 New4.yN)) (W New4.tab (by simp only [site, List.mem_cons, List.mem_append, true_or, or_true])) (W := 0) (Nat.le_of_ble_eq_true rfl) (Nat.le_of_ble_eq_true rfl) (Nat.le_refl _) (by show 0 + A.slots.size ≤ A.slots.size; omega) (g := (mkF m 6 #[.val (.ref a), .val (.ref b)] [.null, .int (Int32.ofNat A.slots.size), .int (Int32.ofNat 0), .ref b, .ref a])) rfl (by rw [hml]; rfl) c2 (argsL := [.ref b, .int (Int32.ofNat 0), .int (Int32.ofNat A.slots.size), .null]) (rest := []) rfl rfl (by show 2 * 0 + 0 ≤ _; decide) (hb hbytes d6) (⟨rfl, hB.mv X0.warmed.alike hh0, f1.al X0.warmed.alike, f2.al X0.warmed.alike, hA.mv X0.warmed.alike hh0, s1.there X0.warmed.alike hh0, hz, l0, by omega, l2, fun i hi => by rw [Nat.zero_add]; exact hp i hi⟩)
  have e0 := Got.mv _ s₁ s _ _ hh0.symm (Vm.Alike.refl _) rfl E3
  obtain rfl := e0.1
  have c4 : Steps p.tables e below (s₁.setTop (entryFrame m #[.ref a, .ref b] 2)) (T3.setTop (mkF m 9 #[.val (.ref a), .val (.ref b)] [])) := g3
  exact ⟨T3, none, _, _, _, X3, by simp, rfl, by omega, (fun _ => rfl), e0, fun fs hl => c4.trans (X3.returnOut hexec hret (hb hbytes d9) hl)⟩
theorem pays {l : Launch} {R : Room} {p : Program} {e : Env} {below : List Frame} {s : State} {sargs : Array Value} {len W : Nat} (a : Addr) (D : Cell) (fV fC : Field) (b : Addr) (A : Cell) (z : Int32) (htab : tab.before sargs s = true) (hfr : 4 ≤ R.frames) (hlo : W + 65 ≤ R.locals) :
    Back l R p e below s sargs yN len W (fun A₁ a₁ => A₁.cells + 1 ≤ R.cells ∧ A₁.slots + A.slots.size ≤ R.slots ∧ P a D fV fC b A z a₁ A₁.U) (fun A₁ _ v₁ B₁ => E a D fV fC A v₁ A₁.U B₁.U ∧ B₁.locs = A₁.locs ++ [⟨a, fC.slot⟩, ⟨a, fV.slot⟩] ∧ B₁.cells = A₁.cells + 1 ∧ B₁.slots = A₁.slots + A.slots.size) :=
  (law l a D fV fC b A z).pays htab hfr (by omega)
end New1
/-- the byte, read back as charAt reads it, is the char -/
theorem lo8_mask {x : Int32} (h0 : ¬ x < 0) (h1 : ¬ 255 < x) : lo8 x &&& 255 = x := by
  have t : ∀ k : Fin 256, lo8 (Int32.ofNat k.val) &&& 255 = Int32.ofNat k.val := by decide +kernel
  rw [Int32.lt_iff_toInt_lt] at h0 h1
  have e0 : (0 : Int32).toInt = 0 := rfl
  have e1 : (255 : Int32).toInt = 255 := rfl
  obtain ⟨k, hk⟩ : ∃ k : Nat, x.toInt = k := ⟨x.toInt.toNat, by omega⟩
  have hx : x = Int32.ofNat k := Int32.toInt_inj.mp (by rw [hk, Int32.toInt_ofNat_small (by omega)])
  rw [hx]
  exact t ⟨k, by omega⟩
end StrChars
namespace StrChars.Road
open Jvm Sem ClassFile Op Lib Jvm.Stand Jvm.Free Jvm.Free.XT
open Jvm.Lib.Cold (StaticIs)
abbrev ST : String := "java/lang/String"
/-- every table word that New1's law asks, flat -/
abbrev words : List Jvm.Cond := [.code New1.yN New1.yB 2 none, .initialized ST, .methodLink ST 27 New4.yN, .instanceMethod New4.yN,
  .code New4.yN New4.yB 6 none, .fieldLink ST 38 ST "COMPACT_STRINGS" "Z", .laysFinal ST ST "value" "[B", .fieldLink ST 9 ST "value" "[B", .laysFinal ST ST "coder" "B", .fieldLink ST 15 ST "coder" "B",
  .methodLink ST 1 Lib.objectInit, .instanceMethod Lib.objectInit, .code Lib.objectInit ⟨#[0xb1]⟩ 1 none, .methodLink ST 177 Cmp3.yN, .static Cmp3.yN, .methodLink ST 47 CodL.yN, .static CodL.yN,
  .code Cmp3.yN Cmp3.yB 6 (some (.array .byte)), .initialized U16, .arrayClass .byte, .methodLink U16 115 Cmp5.yN, .static Cmp5.yN, .code Cmp5.yN Cmp5.yB 7 (some .int), .code CodL.yN CodL.yB 2 (some .byte)]
theorem tab_of {a : Array Value} {s : State} (h : ∀ w ∈ words, w.before a s = true) : New1.tab.before a s = true := by
  have h5 : Cmp5.tab.before a s = true := unparts (wk h (.code Cmp5.yN Cmp5.yB 7 (some .int))) (wks h (.initialized Cmp5.yN.cls :: Cmp5.site))
  have hc : CodL.tab.before a s = true := unparts (wk h (.code CodL.yN CodL.yB 2 (some .byte))) (wks h (.initialized CodL.yN.cls :: CodL.site))
  have q5 : ∀ w ∈ Cmp5.tab :: words, w.before a s = true := fun w hw => (List.mem_cons.mp hw).elim (fun e => e ▸ h5) (h w)
  have h3 : Cmp3.tab.before a s = true := unparts (wk q5 (.code Cmp3.yN Cmp3.yB 6 (some (.array .byte)))) (wks q5 (.initialized Cmp3.yN.cls :: Cmp3.site))
  have q3 : ∀ w ∈ Cmp3.tab :: CodL.tab :: words, w.before a s = true := fun w hw => (List.mem_cons.mp hw).elim (fun e => e ▸ h3) fun hw => (List.mem_cons.mp hw).elim (fun e => e ▸ hc) (h w)
  have h4 : New4.tab.before a s = true := unparts (wk q3 (.code New4.yN New4.yB 6 none)) (wks q3 (.initialized New4.yN.cls :: New4.site))
  have q4 : ∀ w ∈ New4.tab :: words, w.before a s = true := fun w hw => (List.mem_cons.mp hw).elim (fun e => e ▸ h4) (h w)
  exact unparts (wk q4 (.code New1.yN New1.yB 2 none)) (wks q4 (.initialized New1.yN.cls :: New1.site))
/-- the words ride from the start Z to the walk's own state -/
theorem moved {Z s : State} {a0 args : Array Value} (hZ : Z.Warmed39 s.vm) (hw : ∀ d ∈ words, d.before a0 Z = true) : ∀ d ∈ words, d.before args s = true := fun d hd => by
  have q := hw d hd
  have t : ∀ d ∈ words, d = .arrayClass .byte ∨ (d.onTables && d.keepsFace) = true := by decide +kernel
  rcases t d hd with rfl | t
  · exact RoadKit.mvA hZ q
  · exact RoadKit.mv hZ q t
/-- WHAT COMES BACK, over the tables of the start Z: h the heap at the call, h' behind it -/
def Q (Z : State) (x : Addr) (A : Cell) (h : Heap) (v : Option Value) (h' : Heap) (L : List Loc) : Prop := v = none ∧ (∀ y ∈ L, y.base = x) ∧ RoadKit.Keep h h' [x] ∧ h'.size = h.size + 1 ∧ RoadKit.Exa Z h' x ST ∧ RoadKit.Fld Z h' x ST "value" "[B" (.ref h.size) ∧ RoadKit.Fld Z h' x ST "coder" "B" (.int 0) ∧
  (∃ V : Cell, RoadKit.Arr Z h' h.size V .byte ∧ V.vm = .none ∧ Z.vm.findClass "[B" = some V.cls ∧ V.slots.size = A.slots.size ∧ ∀ j, j < A.slots.size → V.slots[j]? = some (.int (lo8 (cv A j)))) ∧
  ∀ (O n d : String) (w : Value), RoadKit.Fld Z h x O n d w → RoadKit.slotOf Z O n d ≠ RoadKit.slotOf Z ST "value" "[B" → RoadKit.slotOf Z O n d ≠ RoadKit.slotOf Z ST "coder" "B" → RoadKit.Fld Z h' x O n d w
/-- **new String(chars) AT A CALL, IN THE ROAD'S FORM**: for specialBack behind newO: x the fresh String, b the char[] with the cell A -/
theorem back {p : Program} {l : Launch} {e : Env} {R : Room} {s : State} {args : Array Value} {below : List Frame} {len W : Nat} {Z : State} {a0 : Array Value} {h : Heap} (hZ : Z.Warmed39 s.vm) (hw : ∀ d ∈ words, d.before a0 Z = true) {kI : Nat} (wi : (Jvm.Cond.instantiable ST kI).before a0 Z = true)
    {x b : Addr} {A : Cell} {z : Int32} {v0 c0 : Value} (E : RoadKit.Exa Z h x ST) (V : RoadKit.Fld Z h x ST "value" "[B" v0) (C : RoadKit.Fld Z h x ST "coder" "B" c0) (K : RoadKit.Arr Z h b A .char) (hty : Typed .char A) (S : RoadKit.Sta Z h ST "COMPACT_STRINGS" "Z" (.int z)) (hz : ¬ z = 0)
    (l0 : 0 < A.slots.size) (l2 : A.slots.size ≤ 536870912) (hp : ∀ i, i < A.slots.size → ¬ 255 < cv A i) (hfr : 4 ≤ R.frames) (hlo : W + 65 ≤ R.locals) :
    Back l R p e below s args New1.yN len W (fun P a => a = #[.ref x, .ref b] ∧ P.U.heap = h ∧ P.cells + 1 ≤ R.cells ∧ P.slots + A.slots.size ≤ R.slots)
      (fun P _ v B => ∃ L, Q Z x A h v B.U.heap L ∧ B.locs = P.locs ++ L ∧ B.cells = P.cells + 1 ∧ B.slots = P.slots + A.slots.size) := by
  intro m meth c P g ig mk a X hg hsize hdg hW hn hp'
  obtain ⟨rfl, rfl, r1, r2⟩ := hp'
  have al : Z.vm.Alike P.U.vm := hZ.alike.trans X.warmed.alike
  obtain ⟨D, cfV, kV, iV, fV, hD, gV, stV, knV, obV, asV, slV⟩ := id V
  obtain ⟨D', cfC, kC, iC, fC, hD', gC, stC, -, -, asC, slC⟩ := id C
  cases hD.symm.trans hD'
  obtain ⟨D2, kD, e1, e2, e3, e4, e5⟩ := id E
  cases hD.symm.trans e1
  obtain ⟨c2, k2, i1, i2, i3, -⟩ := Cond.instantiable_spec wi
  cases e2.symm.trans i1
  cases e3.symm.trans i2
  obtain ⟨kU, u1, u2⟩ := al.2.2 _ _ e3
  have hB : Blank ST x D P.U := ⟨hD, ⟨knV, fun q hq => by rw [hq] at obV; cases obV⟩, by rw [al.findClass]; exact e2, kU, u1, by rw [u2]; exact i3, by rw [u2]; exact e5 i3⟩
  have F1 : Found ST "value" "[B" fV P.U := ⟨SBG.found_only al ⟨cfV, kV, iV, gV⟩, stV⟩
  have F2 : Found ST "coder" "B" fC P.U := ⟨SBG.found_only al ⟨cfC, kC, iC, gC⟩, stC⟩
  have hA : Ch b A P.U := ⟨⟨K.1, State.isArrayOf_alike al K.2.1, K.2.2, by omega⟩, hty⟩
  have hS : StaticIs P.U ST "COMPACT_STRINGS" "Z" (.int z) := by
    obtain ⟨cfS, iS, kS, fS, st, cS, t1, t2, t3, t4, t5, t6, t7⟩ := S
    exact StaticIs.there (s := { Z with heap := P.U.heap }) ⟨cfS, iS, kS, fS, st, cS, t1, t2, t3, t4, t5, (fun q => by rw [q] at t6; cases t6), t7⟩ al rfl
  obtain ⟨v, B, X', ⟨⟨hv, E', V', q1, q2, q3, q4, q5, q6, q7, q8, q9, q10, q11⟩, hl, hc, hs⟩, st⟩ := New1.pays x D fV fC b A z (tab_of (moved hZ hw)) hfr hlo m meth c P g ig mk _ X hg hsize hdg hW hn ⟨r1, r2, rfl, hB, F1, F2, hA, hS, hz, l0, l2, hp⟩
  have al' : Z.vm.Alike B.U.vm := hZ.alike.trans X'.warmed.alike
  have hsz : E'.slots.size = D.slots.size := by
    obtain ⟨-, -, -, kB, w1, w2, w3⟩ := q1
    obtain ⟨kB', y1, y2⟩ := al'.2.2 _ _ e3
    rw [q2.2.1] at w1
    cases w1.symm.trans y1
    rw [w3, e5 i3, y2]
  refine ⟨v, B, X', ⟨_, ⟨hv, ?_, ⟨by omega, fun y cy hy hn' => q10 y cy (by simpa using hn') hy, fun y cy hy => ?_⟩, q11, ⟨E', _, q1.1, by rw [q2.2.1]; exact e2, by rw [q2.2.1]; exact e3, by rw [q2.1]; exact obV, fun _ => by rw [hsz]; exact e5 i3⟩,
    ⟨E', cfV, kV, iV, fV, q1.1, gV, stV, by rw [q2.1]; exact knV, by rw [q2.1]; exact obV, by rw [q2.2.1]; exact asV, q3⟩, ⟨E', cfC, kC, iC, fC, q1.1, gC, stC, by rw [q2.1]; exact knV, by rw [q2.1]; exact obV, by rw [q2.2.1]; exact asC, q4⟩,
    ⟨V', ⟨q5.1, State.isArrayOf_alike al'.symm q5.2.1, q5.2.2.1⟩, q6, by rw [← al'.findClass]; exact q7, q8, fun j hj => by have := q9 j hj; rwa [Nat.zero_add] at this⟩, fun O n d w F n1 n2 => ?_⟩, hl, hc, hs⟩, st⟩
  · intro y hy
    simp only [List.mem_cons, List.not_mem_nil, or_false] at hy
    rcases hy with rfl | rfl <;> rfl
  · by_cases q : y = x
    · subst q
      cases hD.symm.trans hy
      exact ⟨E', q1.1, q2.2.1, q2.1, hsz⟩
    · exact ⟨cy, q10 y cy q hy, rfl, rfl, rfl⟩
  · obtain ⟨D3, cf, k, i, f, g1, g2, g3, g4, g5, g6, g7⟩ := F
    cases hD.symm.trans g1
    simp only [RoadKit.slotOf, g2, gV, gC, Option.map_some, Option.getD_some] at n1 n2
    exact ⟨E', cf, k, i, f, q1.1, g2, g3, by rw [q2.1]; exact g4, by rw [q2.1]; exact g5, by rw [q2.2.1]; exact g6, by rw [q2.2.2 f.slot (by simp [n1, n2])]; exact g7⟩
end StrChars.Road
namespace StrChars.Road
open Jvm Sem ClassFile Op Lib Jvm.Stand Jvm.Free Jvm.Free.XT
/-- WHAT COMES BACK, the byte[] as a list of values -/
def QA (Z : State) (x : Addr) (zn : Int32) (cs : List Int32) (h : Heap) (v : Option Value) (h' : Heap) (L : List Loc) : Prop := v = none ∧ (∀ y ∈ L, y.base = x) ∧ RoadKit.Keep h h' [x] ∧ h'.size = h.size + 1 ∧ RoadKit.Exa Z h' x ST ∧ RoadKit.Fld Z h' x ST "value" "[B" (.ref h.size) ∧ RoadKit.Fld Z h' x ST "coder" "B" (.int 0) ∧
  (∃ kb, Z.vm.findClass "[B" = some kb ∧ RoadKit.Arv Z h' h.size kb .byte zn (cs.map fun c => .int (lo8 c)) (.int 0)) ∧
  ∀ (O n d : String) (w : Value), RoadKit.Fld Z h x O n d w → RoadKit.slotOf Z O n d ≠ RoadKit.slotOf Z ST "value" "[B" → RoadKit.slotOf Z O n d ≠ RoadKit.slotOf Z ST "coder" "B" → RoadKit.Fld Z h' x O n d w
/-- **new String(chars) AT A CALL, THE ARRAYS AS LISTS**: the char[] at b holds cs, not empty, no char above 255 -/
theorem backArv {p : Program} {l : Launch} {e : Env} {R : Room} {s : State} {args : Array Value} {below : List Frame} {len W : Nat} {Z : State} {a0 : Array Value} {h : Heap} (hZ : Z.Warmed39 s.vm) (hw : ∀ d ∈ words, d.before a0 Z = true) {kI : Nat} (wi : (Jvm.Cond.instantiable ST kI).before a0 Z = true)
    {x b : Addr} {k : ClassId} {zn z : Int32} {cs : List Int32} {dv v0 c0 : Value} (E : RoadKit.Exa Z h x ST) (V : RoadKit.Fld Z h x ST "value" "[B" v0) (C : RoadKit.Fld Z h x ST "coder" "B" c0) (K : RoadKit.Arv Z h b k .char zn (cs.map Value.int) dv) (S : RoadKit.Sta Z h ST "COMPACT_STRINGS" "Z" (.int z)) (hz : ¬ z = 0)
    (hlen : zn.toNatClampNeg = cs.length) (h0 : 0 < cs.length) (hbig : cs.length ≤ 536870912) (hall : ∀ c ∈ cs, ¬ 255 < c) (hfr : 4 ≤ R.frames) (hlo : W + 65 ≤ R.locals) :
    Back l R p e below s args New1.yN len W (fun P a => a = #[.ref x, .ref b] ∧ P.U.heap = h ∧ P.cells + 1 ≤ R.cells ∧ P.slots + cs.length ≤ R.slots)
      (fun P _ v B => ∃ L, QA Z x zn cs h v B.U.heap L ∧ B.locs = P.locs ++ L ∧ B.cells = P.cells + 1 ∧ B.slots = P.slots + cs.length) := by
  obtain ⟨A, K1, K2, K3, K4, K5, K6⟩ := K
  have e : A.slots.size = cs.length := K3.trans hlen
  have hat : ∀ (i : Nat) (hi : i < cs.length), A.slots[i]? = some (.int cs[i]) := fun i hi => by rw [K5 i (by omega)]; simp [List.getD_eq_getElem?_getD, hi]
  have hcv : ∀ (i : Nat) (hi : i < cs.length), cv A i = cs[i] := fun i hi => by unfold cv; rw [hat i hi]
  have hty : Typed .char A := fun i v hv => by
    have hi : i < A.slots.size := (Array.getElem?_eq_some_iff.mp hv).1
    have q := K5 i hi
    rw [hv] at q
    rw [Option.some.inj q]
    exact K6 i hi
  refine Back.mono (back hZ hw wi E V C K1 hty S hz (by omega) (by omega) (fun i hi => by rw [hcv i (by omega)]; exact hall _ (List.getElem_mem _)) hfr hlo) (fun P a hp => ⟨hp.1, hp.2.1, hp.2.2.1, by rw [e]; exact hp.2.2.2⟩) (fun P a v B hp hq => ?_)
  obtain ⟨L, ⟨q1, q2, q3, q4, q5, q6, q7, ⟨V', v1, v2, v3, v4, v5⟩, q9⟩, hl, hc, hs⟩ := hq
  refine ⟨L, ⟨q1, q2, q3, q4, q5, q6, q7, ⟨V'.cls, v3, V', v1, rfl, by rw [v4, e, hlen], K4, fun i hi => ?_, fun i hi => ?_⟩, q9⟩, hl, hc, by rw [hs, e]⟩
  · have hi' : i < cs.length := by omega
    rw [v5 i (by omega), hcv i hi']; simp [List.getD_eq_getElem?_getD, hi']
  · have hi' : i < cs.length := by omega
    simp only [List.getD_eq_getElem?_getD, List.getElem?_map, List.getElem?_eq_getElem hi', Option.map_some, Option.getD_some]
    exact fits_lo8 _
end StrChars.Road
namespace StrChars.Road
open Jvm Sem ClassFile Op Lib Jvm.Stand Jvm.Free Jvm.Free.XT
/-- WHAT COMES BACK, in the writer's own shape -/
def QV (Z : State) (x : Addr) (N : Int32) (bs : List Int32) (h : Heap) (n0 : Nat) (v : Option Value) (h' : Heap) (L : List Loc) : Prop := v = none ∧ RoadKit.Fr n0 L ∧ RoadKit.Keep h h' [x] ∧ RoadKit.Exa Z h' x ST ∧ RoadKit.Fld Z h' x ST "coder" "B" (.int 0) ∧
  ∃ (t : Addr) (kb : ClassId), n0 ≤ t ∧ h.size ≤ t ∧ ¬ t = x ∧ RoadKit.Fld Z h' x ST "value" "[B" (.ref t) ∧ RoadKit.Arv Z h' t kb .byte N (bs.map Value.int) (.int 0)
/-- **new String(chars) AT A CALL, FOR THE WRITER**: a char[] of n known ints, each 0 to 255 -/
theorem backV {p : Program} {l : Launch} {e : Env} {R : Room} {s : State} {args : Array Value} {below : List Frame} {len W : Nat} {Z : State} {a0 : Array Value} {h : Heap} (hZ : Z.Warmed39 s.vm) (hw : ∀ d ∈ words, d.before a0 Z = true) {kI : Nat} (wi : (Jvm.Cond.instantiable ST kI).before a0 Z = true)
    {x b : Addr} {kC : ClassId} {cs bs : List Int32} {d v0 c0 : Value} {z N : Int32} {n n0 : Nat} (hx0 : n0 ≤ x) (hh0 : n0 ≤ h.size) (E : RoadKit.Exa Z h x ST) (V : RoadKit.Fld Z h x ST "value" "[B" v0) (C : RoadKit.Fld Z h x ST "coder" "B" c0) (K : RoadKit.Arv Z h b kC .char N (cs.map Value.int) d) (S : RoadKit.Sta Z h ST "COMPACT_STRINGS" "Z" (.int z)) (hz : ¬ z = 0)
    (hn : cs.length = n) (hN : N = Int32.ofNat n) (l0 : 0 < n) (l2 : n ≤ 4000) (hp : ∀ c ∈ cs, ¬ c < 0 ∧ ¬ (255 : Int32) < c) (hb : bs = cs.map (fun c => c.toInt8.toInt32)) (hfr : 4 ≤ R.frames) (hlo : W + 65 ≤ R.locals) :
    Back l R p e below s args (⟨"java/lang/String", "<init>", "([C)V"⟩ : MethodName) len W (fun P a => a = #[.ref x, .ref b] ∧ P.U.heap = h ∧ P.cells + 1 ≤ R.cells ∧ P.slots + n ≤ R.slots)
      (fun P _ v B => ∃ L, QV Z x N bs h n0 v B.U.heap L ∧ B.locs = P.locs ++ L ∧ B.cells = P.cells + 1 ∧ B.slots = P.slots + n) := by
  subst hn hN hb
  refine Back.mono (backArv hZ hw wi E V C K S hz (n32 (by omega)) l0 (by omega) (fun c hc => (hp c hc).2) hfr hlo) (fun P a hp => hp) (fun P a v B hp hq => ?_)
  obtain ⟨L, ⟨q1, q2, q3, q4, q5, q6, q7, ⟨kb, v1, v2⟩, q9⟩, hl, hc, hs⟩ := hq
  exact ⟨L, ⟨q1, fun y hy => by rw [q2 y hy]; exact hx0, q3, q5, q7, h.size, kb, hh0, Nat.le_refl _, Nat.ne_of_gt E.lt, q6, by rw [List.map_map]; exact v2⟩, hl, hc, hs⟩
end StrChars.Road
namespace StrChars
open Jvm Sem ClassFile Op Lib Jvm.Stand Jvm.Free.XT Jvm.Free.ALB Jvm.Free.JM Jvm.Free
open Jvm.Lib.Cold (StaticIs)
def hi8 (x : Int32) : Int32 := lo8 (x >>> ((8 : Int32) &&& 31))
/-- what StringUTF16.getChar makes of two bytes -/
def pairCh (u v : Int32) : Int32 := (((u &&& 255) <<< ((0 : Int32) &&& 31)) ||| ((v &&& 255) <<< ((8 : Int32) &&& 31))).toUInt32.toUInt16.toUInt32.toInt32
theorem shr0 (c : Int32) : c >>> ((0 : Int32) &&& 31) = c := by
  have e : ((0 : Int32) &&& 31) = 0 := by decide
  rw [e]
  apply Int32.toBitVec_inj.mp
  rw [Int32.toBitVec_shiftRight]
  have e1 : ((0 : Int32).toBitVec.smod 32) = 0#32 := by decide
  rw [e1, BitVec.sshiftRight_eq']
  exact BitVec.sshiftRight_zero
theorem lo8_and (x : Int32) : (lo8 x &&& 255).toBitVec.toNat = x.toBitVec.toNat % 256 := by
  have h : (lo8 x).toBitVec = (x.toBitVec.signExtend 8).signExtend 32 := by rw [lo8, Int8.toBitVec_toInt32, Int32.toBitVec_toInt8]
  rw [Int32.toBitVec_and, BitVec.toNat_and, h]
  have e : ((x.toBitVec.signExtend 8).signExtend 32).toNat % 256 = x.toBitVec.toNat % 256 := by
    rw [BitVec.toNat_signExtend]
    have hlt := x.toBitVec.isLt
    simp only [BitVec.toNat_setWidth, BitVec.toNat_signExtend]
    split <;> split <;> omega
  rw [← e]
  exact Nat.and_two_pow_sub_one_eq_mod _ 8
theorem pair_says {c : Int32} (h0 : ¬ c < 0) (h1 : ¬ 65535 < c) : pairCh (lo8 c) (hi8 c) = c := by
  rw [Int32.lt_iff_toInt_lt] at h0 h1
  have e0 : (0 : Int32).toInt = 0 := rfl
  have e1 : (65535 : Int32).toInt = 65535 := rfl
  have hc : c.toInt = c.toBitVec.toNat := by
    have := c.toBitVec.isLt
    have e : c.toInt = c.toBitVec.toInt := rfl
    rw [e] at h0 h1
    rw [e]
    rw [BitVec.toInt_eq_toNat_cond] at h0 h1 ⊢
    split at h0 <;> split <;> omega
  have hn : c.toBitVec.toNat < 65536 := by omega
  have a1 := lo8_and c
  have a2 : (hi8 c &&& 255).toBitVec.toNat = c.toBitVec.toNat / 256 := by
    rw [hi8, lo8_and]
    have e : ((8 : Int32) &&& 31) = 8 := by decide
    rw [e, Int32.toBitVec_shiftRight]
    have e2 : ((8 : Int32).toBitVec.smod 32) = 8#32 := by decide
    rw [e2, BitVec.sshiftRight_eq', BitVec.toNat_sshiftRight_of_msb_false (by rw [BitVec.msb_eq_false_iff_two_mul_lt]; omega)]
    show c.toBitVec.toNat >>> 8 % 256 = _
    rw [Nat.shiftRight_eq_div_pow]
    omega
  unfold pairCh
  apply Int32.toBitVec_inj.mp
  apply BitVec.eq_of_toNat_eq
  have f0 : ((0 : Int32) &&& 31) = 0 := by decide
  have f8 : ((8 : Int32) &&& 31) = 8 := by decide
  rw [f0, f8]
  have g : (((lo8 c &&& 255) <<< (0 : Int32)) ||| ((hi8 c &&& 255) <<< (8 : Int32))).toBitVec.toNat = c.toBitVec.toNat := by
    rw [Int32.toBitVec_or, Int32.toBitVec_shiftLeft, Int32.toBitVec_shiftLeft]
    have s0 : ((0 : Int32).toBitVec.smod 32) = 0#32 := by decide
    have s8 : ((8 : Int32).toBitVec.smod 32) = 8#32 := by decide
    rw [s0, s8, BitVec.toNat_or]
    simp only [BitVec.shiftLeft_eq', BitVec.toNat_shiftLeft, a1, a2]
    show (c.toBitVec.toNat % 256) <<< 0 % 2 ^ 32 ||| (c.toBitVec.toNat / 256) <<< 8 % 2 ^ 32 = _
    rw [Nat.shiftLeft_zero, Nat.mod_eq_of_lt (show c.toBitVec.toNat % 256 < 2 ^ 32 by omega), Nat.mod_eq_of_lt (show (c.toBitVec.toNat / 256) <<< 8 < 2 ^ 32 by rw [Nat.shiftLeft_eq]; omega), Nat.or_comm, ← Nat.shiftLeft_add_eq_or_of_lt (by omega), Nat.shiftLeft_eq]
    omega
  show BitVec.toNat (((((lo8 c &&& 255) <<< (0 : Int32)) ||| ((hi8 c &&& 255) <<< (8 : Int32))).toBitVec.setWidth 16).setWidth 32) = _
  rw [BitVec.toNat_setWidth, BitVec.toNat_setWidth, g]
  omega
end StrChars
namespace StrChars
open Jvm Sem ClassFile Op Lib Jvm.Stand Jvm.Free.XT Jvm.Free.ALB Jvm.Free.JM Jvm.Free
open Jvm.Lib.Cold (StaticIs)
theorem shr1 {n : Nat} (h : 2 * n < 2 ^ 31) : Int32.ofNat (2 * n) >>> ((1 : Int32) &&& 31) = Int32.ofNat n := by
  have e : ((1 : Int32) &&& 31) = 1 := by decide
  rw [e]
  apply Int32.toBitVec_inj.mp
  rw [Int32.toBitVec_shiftRight]
  have e1 : ((1 : Int32).toBitVec.smod 32) = 1#32 := by decide
  have hm : (BitVec.ofNat 32 (2 * n)).toNat = 2 * n := by rw [BitVec.toNat_ofNat, Nat.mod_eq_of_lt (by omega)]
  rw [e1, BitVec.sshiftRight_eq']
  apply BitVec.eq_of_toNat_eq
  show ((BitVec.ofNat 32 (2 * n)).sshiftRight 1).toNat = (BitVec.ofNat 32 n).toNat
  rw [BitVec.toNat_sshiftRight_of_msb_false (by rw [BitVec.msb_eq_false_iff_two_mul_lt, hm]; omega), hm, BitVec.toNat_ofNat, Nat.shiftRight_eq_div_pow]
  omega
/-- charAt's cast of a byte read back -/
def chr8 (u : Int32) : Int32 := (u &&& 255).toUInt32.toUInt16.toUInt32.toInt32
theorem chr8_lo8 {c : Int32} (h0 : ¬ c < 0) (h1 : ¬ 255 < c) : chr8 (lo8 c) = c := by
  have t : ∀ k : Fin 256, (Int32.ofNat k.val).toUInt32.toUInt16.toUInt32.toInt32 = Int32.ofNat k.val := by decide +kernel
  unfold chr8
  rw [lo8_mask h0 h1]
  rw [Int32.lt_iff_toInt_lt] at h0 h1
  have e0 : (0 : Int32).toInt = 0 := rfl
  have e1 : (255 : Int32).toInt = 255 := rfl
  obtain ⟨k, hk⟩ : ∃ k : Nat, c.toInt = k := ⟨c.toInt.toNat, by omega⟩
  have hx : c = Int32.ofNat k := Int32.toInt_inj.mp (by rw [hk, Int32.toInt_ofNat_small (by omega)])
  rw [hx]
  exact t ⟨k, by omega⟩
theorem narrow_ch {c : Int32} (h0 : ¬ c < 0) (h1 : ¬ 65535 < c) : narrow .char (.int c) = .int c := by
  have q : narrow .char (.int (pairCh (lo8 c) (hi8 c))) = .int (pairCh (lo8 c) (hi8 c)) := narrow_c _
  rwa [pair_says h0 h1] at q
/-- the array's cell V codes the n chars f 0 .. f (n - 1) by the coder cd, as the JDK does: coder 1 just where some char is above 255 -/
def Cod (cd : Int32) (n : Nat) (f : Nat → Int32) (V : Cell) : Prop := (cd = 0 ∧ V.slots.size = n ∧ ∀ j, j < n → V.slots[j]? = some (.int (lo8 (f j))) ∧ ¬ 255 < f j) ∨ (cd = 1 ∧ V.slots.size = 2 * n ∧ (∀ j, j < n → V.slots[2 * j]? = some (.int (lo8 (f j))) ∧ V.slots[2 * j + 1]? = some (.int (hi8 (f j)))) ∧ ∃ j, j < n ∧ 255 < f j)
theorem Cod.cd {cd : Int32} {n : Nat} {f : Nat → Int32} {V : Cell} (h : Cod cd n f V) : cd = 0 ∨ cd = 1 := h.imp (fun q => q.1) fun q => q.1
theorem Cod.len {cd : Int32} {n : Nat} {f : Nat → Int32} {V : Cell} (h : Cod cd n f V) (hs : V.slots.size < 2 ^ 31) : Int32.ofNat V.slots.size >>> (cd &&& 31) = Int32.ofNat n := by
  rcases h with ⟨rfl, h, -⟩ | ⟨rfl, h, -⟩
  · rw [shr0, h]
  · rw [h, shr1 (by omega)]
/-- **x is a String of the n chars f 0 .. f (n - 1)**, Latin-1 or UTF-16; its array at t has the cell V -/
def Txt (x t : Addr) (V : Cell) (cd : Int32) (n : Nat) (f : Nat → Int32) (U : State) : Prop := Exact "java/lang/String" x U ∧ Has x "java/lang/String" "value" "[B" (.ref t) U ∧ Has x "java/lang/String" "coder" "B" (.int cd) U ∧ XT.Arr .byte t V U ∧ Cod cd n f V ∧ ∀ j, j < n → ¬ f j < 0 ∧ ¬ 65535 < f j
theorem Txt.mv {x t : Addr} {V : Cell} {cd : Int32} {n : Nat} {f : Nat → Int32} {U U' : State} (h : Txt x t V cd n f U) (hal : U.vm.Alike U'.vm) (hh : U'.heap = U.heap) : Txt x t V cd n f U' := ⟨h.1.mv hal hh, h.2.1.mv hal hh, h.2.2.1.mv hal hh, h.2.2.2.1.mv hal hh, h.2.2.2.2⟩
namespace Cdr
def yN : MethodName := ⟨"java/lang/String", "coder", "()B"⟩
abbrev yB : ByteArray := jdk_42_method_152_code
theorem d0 : decode yB 0 = .ok (.getstatic 38, 3) := by decide +kernel
theorem d3 : decode yB 3 = .ok (.ifCond (.eq) 10, 3) := by decide +kernel
theorem d6 : decode yB 6 = .ok (.aload_n 0, 1) := by decide +kernel
theorem d7 : decode yB 7 = .ok (.getfield 15, 3) := by decide +kernel
theorem d10 : decode yB 10 = .ok (.goto 4, 3) := by decide +kernel
theorem d14 : decode yB 14 = .ok (.ireturn, 1) := by decide +kernel
def site : List Cond := [.fieldLink "java/lang/String" 38 "java/lang/String" "COMPACT_STRINGS" "Z", .fieldLink "java/lang/String" 15 "java/lang/String" "coder" "B"]
def tab : Cond := tabOf yN yB 1 (some .byte) site
def P (x : Addr) (cd z : Int32) (args : Array Value) (s : State) : Prop := args = #[.ref x] ∧ Has x "java/lang/String" "coder" "B" (.int cd) s ∧ (cd = 0 ∨ cd = 1) ∧ StaticIs s "java/lang/String" "COMPACT_STRINGS" "Z" (.int z) ∧ ¬ z = 0
def E (cd : Int32) (r : Option Value) (s u : State) : Prop := XT.PureE (some (.int cd)) r s u
theorem law (l : Launch) (x : Addr) (cd z : Int32) : Law l yN 1 0 0 0 yB 1 (some .byte) site (P x cd z) (E cd) [] 0 0 := by
  refine Law.of_walk (plainFor_of_name (by decide +kernel)) (by decide +kernel) (by decide +kernel) (by decide) (fun _ _ h => by rw [h.1]; rfl) (fun _ U U' hal hh h => ⟨h.1, h.2.1.mv hal hh, h.2.2.1, h.2.2.2.1.there hal hh, h.2.2.2.2⟩) (fun r U U' V V' h1 hal h2 h => XT.PureE.mv r U U' V V' h1 hal h2 h) ?_
  intro p e s m args below meth c s₁ X0 hexec hbytes hml hret hlk hnm hown hh0 W hP
  obtain ⟨rfl, hx, hc, s1, hz⟩ := hP
  have c1 : Steps p.tables e below (s₁.setTop (entryFrame m #[.ref x] 1)) (s₁.setTop (mkF m 0 #[.val (.ref x)] [])) := entry rfl
  obtain ⟨T2, X2, q2, st2⟩ := X0.sget hexec hown (wk W (.fieldLink "java/lang/String" 38 "java/lang/String" "COMPACT_STRINGS" "Z")) s1 (fun _ _ h => by rw [hh0]; exact h) (g := (mkF m 0 #[.val (.ref x)] [])) rfl (hb hbytes d0)
  have hh2 := q2.trans hh0
  have c3 : Steps p.tables e below (s₁.setTop (entryFrame m #[.ref x] 1)) (T2.setTop (mkF m 7 #[.val (.ref x)] [.ref x])) := (c1.trans (st2 _ (Steps.refl _))).trans (by
    refine XS.ifNo X2.here hexec rfl (hb hbytes d3) rfl (i0_eq_f hz) ?_
    refine XS.aloadN X2.here hexec rfl (hb hbytes d6) rfl rfl ?_
    exact Steps.refl _)
  obtain ⟨T4, X4, q4, st4⟩ := X2.hget hexec hown (wk W (.fieldLink "java/lang/String" 15 "java/lang/String" "coder" "B")) (hx.mv X2.warmed.alike hh2) (g := (mkF m 7 #[.val (.ref x)] [.ref x])) rfl (rest := []) rfl (hb hbytes d7)
  have c5 : Steps p.tables e below (s₁.setTop (entryFrame m #[.ref x] 1)) (T4.setTop (mkF m 14 #[.val (.ref x)] [.int cd])) := (c3.trans (st4 _ (Steps.refl _))).trans (by
    refine XS.goto X4.here hexec rfl (pc0 := 10) rfl (hb hbytes d10) (by decide) rfl ?_
    exact Steps.refl _)
  exact ⟨T4, some (.int cd), _, _, _, X4, rfl, rfl, rfl, (fun h => by cases h), ⟨rfl, q4.trans hh2⟩, fun fs hl => c5.trans (X4.ireturnOut hexec hret (by rcases hc with rfl | rfl <;> rfl) (Or.inr (Or.inr (Or.inl rfl))) (hb hbytes d14) hl)⟩
end Cdr
namespace Len
def yN : MethodName := ⟨"java/lang/String", "length", "()I"⟩
abbrev yB : ByteArray := jdk_42_method_54_code
theorem d0 : decode yB 0 = .ok (.aload_n 0, 1) := by decide +kernel
theorem d1 : decode yB 1 = .ok (.getfield 9, 3) := by decide +kernel
theorem d4 : decode yB 4 = .ok (.arraylength, 1) := by decide +kernel
theorem d5 : decode yB 5 = .ok (.aload_n 0, 1) := by decide +kernel
theorem d6 : decode yB 6 = .ok (.invokevirtual 335, 3) := by decide +kernel
theorem d9 : decode yB 9 = .ok (.ishr, 1) := by decide +kernel
theorem d10 : decode yB 10 = .ok (.ireturn, 1) := by decide +kernel
def site : List Cond := [.fieldLink "java/lang/String" 9 "java/lang/String" "value" "[B", Cdr.tab] ++ virtW "java/lang/String" 335 "java/lang/String" Cdr.yN Cdr.yN
def tab : Cond := tabOf yN yB 1 (some .int) site
def P (x t : Addr) (V : Cell) (cd : Int32) (n : Nat) (f : Nat → Int32) (z : Int32) (args : Array Value) (s : State) : Prop := args = #[.ref x] ∧ Txt x t V cd n f s ∧ StaticIs s "java/lang/String" "COMPACT_STRINGS" "Z" (.int z) ∧ ¬ z = 0
def E (n : Nat) (r : Option Value) (s u : State) : Prop := XT.PureE (some (.int (Int32.ofNat n))) r s u
/-- length() of a String of n chars, in either coding -/
theorem law (l : Launch) (x t : Addr) (V : Cell) (cd : Int32) (n : Nat) (f : Nat → Int32) (z : Int32) : Law l yN 1 0 1 13 yB 1 (some .int) site (P x t V cd n f z) (E n) [] 0 0 := by
  refine Law.of_walk (plainFor_of_name (by decide +kernel)) (by decide +kernel) (by decide +kernel) (by decide) (fun _ _ h => by rw [h.1]; rfl) (fun _ U U' hal hh h => ⟨h.1, h.2.1.mv hal hh, h.2.2.1.there hal hh, h.2.2.2⟩) (fun r U U' V V' h1 hal h2 h => XT.PureE.mv r U U' V V' h1 hal h2 h) ?_
  intro p e s m args below meth c s₁ X0 hexec hbytes hml hret hlk hnm hown hh0 W hP
  obtain ⟨rfl, hx, s1, hz⟩ := hP
  have v31 := hx.2.2.2.1.2.2.2
  have c1 : Steps p.tables e below (s₁.setTop (entryFrame m #[.ref x] 1)) (s₁.setTop (mkF m 1 #[.val (.ref x)] [.ref x])) := Steps.trans (entry rfl) (by
    show Steps p.tables e below (s₁.setTop (mkF m 0 #[.val (.ref x)] [])) _
    refine XS.aloadN X0.here hexec rfl (hb hbytes d0) rfl rfl ?_
    exact Steps.refl _)
  obtain ⟨T2, X2, q2, st2⟩ := X0.hget hexec hown (wk W (.fieldLink "java/lang/String" 9 "java/lang/String" "value" "[B")) (hx.mv X0.warmed.alike hh0).2.1 (g := (mkF m 1 #[.val (.ref x)] [.ref x])) rfl (rest := []) rfl (hb hbytes d1)
  have hh2 := q2.trans hh0
  have hx2 := hx.mv X2.warmed.alike hh2
  have c3 : Steps p.tables e below (s₁.setTop (entryFrame m #[.ref x] 1)) (T2.setTop (mkF m 6 #[.val (.ref x)] [.ref x, .int (Int32.ofNat V.slots.size)])) := (c1.trans (st2 _ (Steps.refl _))).trans (by
    refine X2.alen hexec hx2.2.2.2.1 rfl rfl (hb hbytes d4) ?_
    refine XS.aloadN X2.here hexec rfl (hb hbytes d5) rfl rfl ?_
    exact Steps.refl _)
  obtain ⟨v4, T4, X4, E4, g4⟩ := X2.callV hexec (Cdr.law l x cd z) hown (wks W (virtW "java/lang/String" 335 "java/lang/String" Cdr.yN Cdr.yN)) rfl (by decide) (wk W Cdr.tab) (W := 1) (Nat.le_of_ble_eq_true rfl) (Nat.le_of_ble_eq_true rfl) (Nat.le_refl _) (Nat.le_refl _) (hx2.1.fc X2.warmed.alike) hx2.1.is (g := (mkF m 6 #[.val (.ref x)] [.ref x, .int (Int32.ofNat V.slots.size)])) rfl (by rw [hml]; rfl) c3 (argsL := []) (rest := [.int (Int32.ofNat V.slots.size)]) rfl rfl (by show 2 * 0 + (1 + 0) ≤ _; decide) (hb hbytes d6) (⟨rfl, hx2.2.2.1, hx.2.2.2.2.1.cd, s1.there X2.warmed.alike hh2, hz⟩)
  obtain ⟨rfl, q4⟩ := E4
  have c5 : Steps p.tables e below (s₁.setTop (entryFrame m #[.ref x] 1)) (T4.setTop (mkF m 10 #[.val (.ref x)] [.int (Int32.ofNat V.slots.size >>> (cd &&& 31))])) := Steps.trans g4 (by
    refine ishr X4.here hexec rfl (hb hbytes d9) rfl ?_
    exact Steps.refl _)
  rw [hx.2.2.2.2.1.len v31] at c5
  exact ⟨T4, some (.int (Int32.ofNat n)), _, _, _, X4, rfl, rfl, rfl, (fun h => by cases h), ⟨rfl, q4.trans hh2⟩, fun fs hl => c5.trans (X4.ireturnOut hexec hret rfl (Or.inl rfl) (hb hbytes d10) hl)⟩
theorem pays {l : Launch} {R : Room} {p : Program} {e : Env} {below : List Frame} {s : State} {sargs : Array Value} {len W : Nat} (x t : Addr) (V : Cell) (cd : Int32) (n : Nat) (f : Nat → Int32) (z : Int32) (htab : tab.before sargs s = true) (hfr : 2 ≤ R.frames) (hlo : W + 25 ≤ R.locals) :
    Back l R p e below s sargs yN len W (fun A₁ a₁ => A₁.cells + 0 ≤ R.cells ∧ A₁.slots + 0 ≤ R.slots ∧ P x t V cd n f z a₁ A₁.U) (fun A₁ _ v₁ B₁ => E n v₁ A₁.U B₁.U ∧ B₁.locs = A₁.locs ++ [] ∧ B₁.cells = A₁.cells + 0 ∧ B₁.slots = A₁.slots + 0) :=
  (law l x t V cd n f z).pays htab hfr (by omega)
end Len
namespace IsL
def yN : MethodName := ⟨"java/lang/String", "isLatin1", "()Z"⟩
abbrev yB : ByteArray := jdk_42_method_154_code
theorem d0 : decode yB 0 = .ok (.getstatic 38, 3) := by decide +kernel
theorem d3 : decode yB 3 = .ok (.ifCond (.eq) 14, 3) := by decide +kernel
theorem d6 : decode yB 6 = .ok (.aload_n 0, 1) := by decide +kernel
theorem d7 : decode yB 7 = .ok (.getfield 15, 3) := by decide +kernel
theorem d10 : decode yB 10 = .ok (.ifCond (.ne) 7, 3) := by decide +kernel
theorem d13 : decode yB 13 = .ok (.iconst 1, 1) := by decide +kernel
theorem d14 : decode yB 14 = .ok (.goto 4, 3) := by decide +kernel
theorem d17 : decode yB 17 = .ok (.iconst 0, 1) := by decide +kernel
theorem d18 : decode yB 18 = .ok (.ireturn, 1) := by decide +kernel
def site : List Cond := [.fieldLink "java/lang/String" 38 "java/lang/String" "COMPACT_STRINGS" "Z", .fieldLink "java/lang/String" 15 "java/lang/String" "coder" "B"]
def tab : Cond := tabOf yN yB 1 (some .boolean) site
def P (x : Addr) (cd z : Int32) (args : Array Value) (s : State) : Prop := args = #[.ref x] ∧ Has x "java/lang/String" "coder" "B" (.int cd) s ∧ (cd = 0 ∨ cd = 1) ∧ StaticIs s "java/lang/String" "COMPACT_STRINGS" "Z" (.int z) ∧ ¬ z = 0
def E (cd : Int32) (r : Option Value) (s u : State) : Prop := XT.PureE (some (.int (1 - cd))) r s u
theorem law (l : Launch) (x : Addr) (cd z : Int32) : Law l yN 1 0 0 0 yB 1 (some .boolean) site (P x cd z) (E cd) [] 0 0 := by
  refine Law.of_walk (plainFor_of_name (by decide +kernel)) (by decide +kernel) (by decide +kernel) (by decide) (fun _ _ h => by rw [h.1]; rfl) (fun _ U U' hal hh h => ⟨h.1, h.2.1.mv hal hh, h.2.2.1, h.2.2.2.1.there hal hh, h.2.2.2.2⟩) (fun r U U' V V' h1 hal h2 h => XT.PureE.mv r U U' V V' h1 hal h2 h) ?_
  intro p e s m args below meth c s₁ X0 hexec hbytes hml hret hlk hnm hown hh0 W hP
  obtain ⟨rfl, hx, hc, s1, hz⟩ := hP
  have c1 : Steps p.tables e below (s₁.setTop (entryFrame m #[.ref x] 1)) (s₁.setTop (mkF m 0 #[.val (.ref x)] [])) := entry rfl
  obtain ⟨T2, X2, q2, st2⟩ := X0.sget hexec hown (wk W (.fieldLink "java/lang/String" 38 "java/lang/String" "COMPACT_STRINGS" "Z")) s1 (fun _ _ h => by rw [hh0]; exact h) (g := (mkF m 0 #[.val (.ref x)] [])) rfl (hb hbytes d0)
  have hh2 := q2.trans hh0
  have c3 : Steps p.tables e below (s₁.setTop (entryFrame m #[.ref x] 1)) (T2.setTop (mkF m 7 #[.val (.ref x)] [.ref x])) := (c1.trans (st2 _ (Steps.refl _))).trans (by
    refine XS.ifNo X2.here hexec rfl (hb hbytes d3) rfl (i0_eq_f hz) ?_
    refine XS.aloadN X2.here hexec rfl (hb hbytes d6) rfl rfl ?_
    exact Steps.refl _)
  obtain ⟨T4, X4, q4, st4⟩ := X2.hget hexec hown (wk W (.fieldLink "java/lang/String" 15 "java/lang/String" "coder" "B")) (hx.mv X2.warmed.alike hh2) (g := (mkF m 7 #[.val (.ref x)] [.ref x])) rfl (rest := []) rfl (hb hbytes d7)
  have c5 : Steps p.tables e below (s₁.setTop (entryFrame m #[.ref x] 1)) (T4.setTop (mkF m 10 #[.val (.ref x)] [.int cd])) := c3.trans (st4 _ (Steps.refl _))
  have c6 : Steps p.tables e below (s₁.setTop (entryFrame m #[.ref x] 1)) (T4.setTop (mkF m 18 #[.val (.ref x)] [.int (1 - cd)])) := by
    rcases hc with rfl | rfl
    · exact c5.trans (by
        refine XS.ifNo X4.here hexec rfl (hb hbytes d10) rfl (i0_ne_f rfl) ?_
        refine iconstV X4.here hexec rfl 1 (hb hbytes d13) (by decide) ?_
        refine XS.goto X4.here hexec rfl (pc0 := 14) rfl (hb hbytes d14) (by decide) rfl ?_
        exact Steps.refl _)
    · exact c5.trans (by
        refine XS.ifYes X4.here hexec rfl (pc0 := 10) rfl (hb hbytes d10) rfl (i0_ne_t (by decide)) (by decide) rfl ?_
        refine iconstV X4.here hexec rfl 0 (hb hbytes d17) (by decide) ?_
        exact Steps.refl _)
  exact ⟨T4, some (.int (1 - cd)), _, _, _, X4, rfl, rfl, rfl, (fun h => by cases h), ⟨rfl, q4.trans hh2⟩, fun fs hl => c6.trans (X4.ireturnOut hexec hret (by rcases hc with rfl | rfl <;> rfl) (Or.inr (Or.inl rfl)) (hb hbytes d18) hl)⟩
end IsL
namespace LChA
def yN : MethodName := ⟨"java/lang/StringLatin1", "charAt", "([BI)C"⟩
abbrev yB : ByteArray := jdk_43_method_2_code
theorem d0 : decode yB 0 = .ok (.iload_n 1, 1) := by decide +kernel
theorem d1 : decode yB 1 = .ok (.aload_n 0, 1) := by decide +kernel
theorem d2 : decode yB 2 = .ok (.arraylength, 1) := by decide +kernel
theorem d3 : decode yB 3 = .ok (.invokestatic 9, 3) := by decide +kernel
theorem d6 : decode yB 6 = .ok (.aload_n 0, 1) := by decide +kernel
theorem d7 : decode yB 7 = .ok (.iload_n 1, 1) := by decide +kernel
theorem d8 : decode yB 8 = .ok (.baload, 1) := by decide +kernel
theorem d9 : decode yB 9 = .ok (.sipush 255, 3) := by decide +kernel
theorem d12 : decode yB 12 = .ok (.iand, 1) := by decide +kernel
theorem d13 : decode yB 13 = .ok (.i2c, 1) := by decide +kernel
theorem d14 : decode yB 14 = .ok (.ireturn, 1) := by decide +kernel
def site : List Cond := [JO.Str_checkIndex.tab] ++ staticW "java/lang/StringLatin1" 9 JO.Str_checkIndex.yN
def tab : Cond := tabOf yN yB 2 (some .char) site
def P (t : Addr) (V : Cell) (i : Nat) (u : Int32) (fm : Value) (args : Array Value) (s : State) : Prop := args = #[.ref t, .int (Int32.ofNat i)] ∧ XT.Arr .byte t V s ∧ V.slots[i]? = some (.int u) ∧ (StaticIs s "jdk/internal/util/Preconditions" "SIOOBE_FORMATTER" "Ljava/util/function/BiFunction;" fm ∧ fm.isRef = true)
def E (u : Int32) (r : Option Value) (s w : State) : Prop := XT.PureE (some (.int (chr8 u))) r s w
theorem law (l : Launch) (t : Addr) (V : Cell) (i : Nat) (u : Int32) (fm : Value) : Law l yN 2 2 2 27 yB 2 (some .char) site (P t V i u fm) (E u) [] 0 0 := by
  refine Law.of_walk (plainFor_of_name (by decide +kernel)) (by decide +kernel) (by decide +kernel) (by decide) (fun _ _ h => by rw [h.1]; rfl) (fun _ U U' hal hh h => ⟨h.1, h.2.1.mv hal hh, h.2.2.1, h.2.2.2.1.there hal hh, h.2.2.2.2⟩) (fun r U U' V V' h1 hal h2 h => XT.PureE.mv r U U' V V' h1 hal h2 h) ?_
  intro p e s m args below meth c s₁ X0 hexec hbytes hml hret hlk hnm hown hh0 W hP
  obtain ⟨rfl, hV, hu, s1, rf⟩ := hP
  have v31 := hV.2.2.2
  have hi : i < V.slots.size := (Array.getElem?_eq_some_iff.mp hu).1
  have c1 : Steps p.tables e below (s₁.setTop (entryFrame m #[.ref t, .int (Int32.ofNat i)] 2)) (s₁.setTop (mkF m 0 #[.val (.ref t), .val (.int (Int32.ofNat i))] [])) := entry rfl
  have c2 : Steps p.tables e below (s₁.setTop (entryFrame m #[.ref t, .int (Int32.ofNat i)] 2)) (s₁.setTop (mkF m 3 #[.val (.ref t), .val (.int (Int32.ofNat i))] [.int (Int32.ofNat V.slots.size), .int (Int32.ofNat i)])) := c1.trans (by
    refine XS.iloadN X0.here hexec rfl (hb hbytes d0) rfl ?_
    refine XS.aloadN X0.here hexec rfl (hb hbytes d1) rfl rfl ?_
    refine X0.alen hexec (hV.mv X0.warmed.alike hh0) rfl rfl (hb hbytes d2) ?_
    exact Steps.refl _)
  obtain ⟨v3, T3, X3, E3, g3⟩ := X0.callS hexec (JO.Str_checkIndex.law l (Int32.ofNat i) (Int32.ofNat V.slots.size) fm) hown (wks W (staticW "java/lang/StringLatin1" 9 JO.Str_checkIndex.yN)) (wk W JO.Str_checkIndex.tab) (W := 0) (Nat.le_of_ble_eq_true rfl) (Nat.le_of_ble_eq_true rfl) (Nat.le_refl _) (Nat.le_refl _) (g := (mkF m 3 #[.val (.ref t), .val (.int (Int32.ofNat i))] [.int (Int32.ofNat V.slots.size), .int (Int32.ofNat i)])) rfl (by rw [hml]; rfl) c2 (argsL := [.int (Int32.ofNat i), .int (Int32.ofNat V.slots.size)]) (rest := []) rfl rfl (by show 2 * 0 + 0 ≤ _; decide) (hb hbytes d3) (⟨rfl, rf, s1.there X0.warmed.alike hh0, Int32.ofNat_not_neg (by omega), lt32 v31 hi⟩)
  obtain ⟨rfl, q3⟩ := E3
  have hh3 := q3.trans hh0
  have c4 : Steps p.tables e below (s₁.setTop (entryFrame m #[.ref t, .int (Int32.ofNat i)] 2)) (T3.setTop (mkF m 14 #[.val (.ref t), .val (.int (Int32.ofNat i))] [.int (chr8 u)])) := Steps.trans g3 (by
    refine XS.aloadN X3.here hexec rfl (hb hbytes d6) rfl rfl ?_
    refine XS.iloadN X3.here hexec rfl (hb hbytes d7) rfl ?_
    refine X3.aget hexec (hV.mv X3.warmed.alike hh3) rfl hu rfl rfl (hb hbytes d8) ?_
    refine sipushV X3.here hexec rfl 255 (hb hbytes d9) (by decide) ?_
    refine XS.iand X3.here hexec rfl (hb hbytes d12) rfl ?_
    refine i2c X3.here hexec rfl (hb hbytes d13) rfl ?_
    exact Steps.refl _)
  exact ⟨T3, some (.int (chr8 u)), _, _, _, X3, rfl, rfl, rfl, (fun h => by cases h), ⟨rfl, hh3⟩, fun fs hl => c4.trans (X3.ireturnOut hexec hret (narrow_c _) (Or.inr (Or.inr (Or.inr (Or.inl rfl)))) (hb hbytes d14) hl)⟩
end LChA
end StrChars
namespace StrChars.Road
open Jvm Sem ClassFile Op Lib Jvm.Stand Jvm.Free Jvm.Free.XT
open Jvm.Lib.Cold (StaticIs)
theorem consq {a : Array Value} {s : State} {c : Jvm.Cond} {L : List Jvm.Cond} (h0 : c.before a s = true) (h : ∀ w ∈ L, w.before a s = true) : ∀ w ∈ c :: L, w.before a s = true := fun w hw => (List.mem_cons.mp hw).elim (fun e => e ▸ h0) (h w)
/-- the words of String.length(), either coding -/
abbrev wordsLen : List Jvm.Cond := [.code Len.yN Len.yB 1 (some .int), .initialized ST, .fieldLink ST 9 ST "value" "[B", .fieldLink ST 38 ST "COMPACT_STRINGS" "Z", .fieldLink ST 15 ST "coder" "B", .code Cdr.yN Cdr.yB 1 (some .byte), .methodLink ST 335 Cdr.yN, .declares Cdr.yN, .selects ST Cdr.yN Cdr.yN, .instanceMethod Cdr.yN]
theorem tabLen_of {a : Array Value} {s : State} (h : ∀ w ∈ wordsLen, w.before a s = true) : Len.tab.before a s = true := by
  have hc : Cdr.tab.before a s = true := unparts (wk h (.code Cdr.yN Cdr.yB 1 (some .byte))) (wks h (.initialized Cdr.yN.cls :: Cdr.site))
  have q := consq hc h
  exact unparts (wk q (.code Len.yN Len.yB 1 (some .int))) (wks q (.initialized Len.yN.cls :: Len.site))
theorem movedLen {Z s : State} {a0 args : Array Value} (hZ : Z.Warmed39 s.vm) (hw : ∀ d ∈ wordsLen, d.before a0 Z = true) : ∀ d ∈ wordsLen, d.before args s = true := fun d hd => by
  have q := hw d hd
  have t : ∀ d ∈ wordsLen, d = .arrayClass .byte ∨ (d.onTables && d.keepsFace) = true := by decide +kernel
  rcases t d hd with rfl | t
  · exact RoadKit.mvA hZ q
  · exact RoadKit.mv hZ q t
/-- the bytes of the chars cs, low before high -/
def wideBytes : List Int32 → List Value
  | [] => []
  | c :: cs => .int (lo8 c) :: .int (hi8 c) :: wideBytes cs
theorem wide_lo (d : Value) : ∀ (cs : List Int32) (j : Nat), j < cs.length → (wideBytes cs).getD (2 * j) d = .int (lo8 (cs.getD j 0))
  | [], j, h => absurd h (Nat.not_lt_zero j)
  | c :: cs, 0, _ => rfl
  | c :: cs, j + 1, h => by
    have q := wide_lo d cs j (by simpa using h)
    rw [show 2 * (j + 1) = 2 * j + 1 + 1 from by omega]
    simpa [wideBytes] using q
theorem wide_hi (d : Value) : ∀ (cs : List Int32) (j : Nat), j < cs.length → (wideBytes cs).getD (2 * j + 1) d = .int (hi8 (cs.getD j 0))
  | [], j, h => absurd h (Nat.not_lt_zero j)
  | c :: cs, 0, _ => rfl
  | c :: cs, j + 1, h => by
    have q := wide_hi d cs j (by simpa using h)
    rw [show 2 * (j + 1) + 1 = 2 * j + 1 + 1 + 1 from by omega]
    simpa [wideBytes] using q
theorem low_at (d : Value) (cs : List Int32) (j : Nat) (h : j < cs.length) : (cs.map fun c => Value.int (lo8 c)).getD j d = .int (lo8 (cs.getD j 0)) := by
  simp [List.getD_eq_getElem?_getD, h]
/-- an array of N2 bytes vs codes the chars cs by the coder cd -/
def CodA (cs : List Int32) (cd N2 : Int32) (vs : List Value) : Prop := (cd = 0 ∧ N2 = Int32.ofNat cs.length ∧ vs = (cs.map fun c => Value.int (lo8 c)) ∧ ∀ c ∈ cs, ¬ 255 < c) ∨ (cd = 1 ∧ N2 = Int32.ofNat (2 * cs.length) ∧ vs = wideBytes cs ∧ ∃ c ∈ cs, 255 < c)
theorem CodA.cod {cs : List Int32} {cd N2 : Int32} {vs : List Value} {V : Cell} (h : CodA cs cd N2 vs) (hn : 2 * cs.length < 2 ^ 31) (hs : V.slots.size = N2.toNatClampNeg) (hv : RoadKit.Has V vs (.int 0)) : Cod cd cs.length (fun j => cs.getD j 0) V := by
  rcases h with ⟨rfl, rfl, rfl, h⟩ | ⟨rfl, rfl, rfl, c, hc, hw⟩
  · rw [n32 (by omega)] at hs
    exact Or.inl ⟨rfl, hs, fun j hj => ⟨by rw [hv j (by omega), low_at _ _ _ hj], by
      have e : cs.getD j 0 = cs[j] := by simp [List.getD_eq_getElem?_getD, hj]
      show ¬ 255 < cs.getD j 0
      rw [e]; exact h _ (List.getElem_mem _)⟩⟩
  · rw [n32 (by omega)] at hs
    obtain ⟨j, hj, rfl⟩ := List.getElem_of_mem hc
    exact Or.inr ⟨rfl, hs, fun j hj => ⟨by rw [hv _ (by omega), wide_lo _ _ _ hj], by rw [hv _ (by omega), wide_hi _ _ _ hj]⟩, j, hj, by
      have e : cs.getD j 0 = cs[j] := by simp [List.getD_eq_getElem?_getD, hj]
      show 255 < cs.getD j 0
      rw [e]; exact hw⟩
/-- an object of exactly java/lang/String, its two fields found: as the laws ask it -/
theorem strObj {Z U : State} {a0 : Array Value} {kI : Nat} (wi : (Jvm.Cond.instantiable ST kI).before a0 Z = true) (al : Z.vm.Alike U.vm) {x : Addr} {v0 c0 : Value} (E : RoadKit.Exa Z U.heap x ST) (V : RoadKit.Fld Z U.heap x ST "value" "[B" v0) (C : RoadKit.Fld Z U.heap x ST "coder" "B" c0) :
    ∃ (D : Cell) (fV fC : Field), Blank ST x D U ∧ Found ST "value" "[B" fV U ∧ Found ST "coder" "B" fC U ∧ D.slots[fV.slot]? = some v0 ∧ D.slots[fC.slot]? = some c0 ∧ RoadKit.slotOf Z ST "value" "[B" = fV.slot ∧ RoadKit.slotOf Z ST "coder" "B" = fC.slot := by
  obtain ⟨D, cfV, kV, iV, fV, hD, gV, stV, knV, obV, asV, slV⟩ := V
  obtain ⟨D', cfC, kC, iC, fC, hD', gC, stC, -, -, asC, slC⟩ := C
  cases hD.symm.trans hD'
  obtain ⟨D2, kD, e1, e2, e3, e4, e5⟩ := E
  cases hD.symm.trans e1
  obtain ⟨c2, k2, i1, i2, i3, -⟩ := Cond.instantiable_spec wi
  cases e2.symm.trans i1
  cases e3.symm.trans i2
  obtain ⟨kU, u1, u2⟩ := al.2.2 _ _ e3
  exact ⟨D, fV, fC, ⟨hD, ⟨knV, fun q hq => by rw [hq] at obV; cases obV⟩, by rw [al.findClass]; exact e2, kU, u1, by rw [u2]; exact i3, by rw [u2]; exact e5 i3⟩, ⟨SBG.found_only al ⟨cfV, kV, iV, gV⟩, stV⟩, ⟨SBG.found_only al ⟨cfC, kC, iC, gC⟩, stC⟩, slV, slC, by simp [RoadKit.slotOf, gV], by simp [RoadKit.slotOf, gC]⟩
theorem sta_is {Z U : State} (al : Z.vm.Alike U.vm) {C n d : String} {v : Value} (S : RoadKit.Sta Z U.heap C n d v) : StaticIs U C n d v := by
  obtain ⟨cfS, iS, kS, fS, st, cS, t1, t2, t3, t4, t5, t6, t7⟩ := S
  exact StaticIs.there (s := { Z with heap := U.heap }) ⟨cfS, iS, kS, fS, st, cS, t1, t2, t3, t4, t5, (fun q => by rw [q] at t6; cases t6), t7⟩ al rfl
/-- **length() OF SUCH A STRING** -/
theorem lenW {p : Program} {l : Launch} {e : Env} {R : Room} {s : State} {args : Array Value} {below : List Frame} {len W : Nat} {Z : State} {a0 : Array Value} {h : Heap} (hZ : Z.Warmed39 s.vm) (hw : ∀ d ∈ wordsLen, d.before a0 Z = true) {kI : Nat} (wi : (Jvm.Cond.instantiable ST kI).before a0 Z = true)
    {x t : Addr} {kb : ClassId} {cs : List Int32} {cd N2 z : Int32} {vs : List Value} (E : RoadKit.Exa Z h x ST) (V : RoadKit.Fld Z h x ST "value" "[B" (.ref t)) (C : RoadKit.Fld Z h x ST "coder" "B" (.int cd)) (K : RoadKit.Arv Z h t kb .byte N2 vs (.int 0)) (hc : CodA cs cd N2 vs) (hb : ∀ c ∈ cs, ¬ c < 0 ∧ ¬ (65535 : Int32) < c)
    (S : RoadKit.Sta Z h ST "COMPACT_STRINGS" "Z" (.int z)) (hz : ¬ z = 0) (l2 : cs.length ≤ 4000) (hfr : 2 ≤ R.frames) (hlo : W + 25 ≤ R.locals) :
    Back l R p e below s args (⟨"java/lang/String", "length", "()I"⟩ : MethodName) len W (fun P a => a = #[.ref x] ∧ P.U.heap = h ∧ P.cells + 0 ≤ R.cells ∧ P.slots + 0 ≤ R.slots)
      (fun P _ v B => ∃ L, (v = some (.int (Int32.ofNat cs.length)) ∧ L = [] ∧ B.U.heap = h) ∧ B.locs = P.locs ++ L ∧ B.cells = P.cells + 0 ∧ B.slots = P.slots + 0) := by
  obtain ⟨A, K1, K2, K3, K4, K5, K6⟩ := K
  have hcod := hc.cod (by omega) K3 K5
  intro m meth c P g ig mk a X hg hsize hdg hW hn hp'
  obtain ⟨rfl, rfl, r1, r2⟩ := hp'
  have al : Z.vm.Alike P.U.vm := hZ.alike.trans X.warmed.alike
  obtain ⟨D, fV, fC, hB, F1, F2, g1, g2, -, -⟩ := strObj wi al E V C
  have hx : Txt x t A cd cs.length (fun j => cs.getD j 0) P.U := ⟨⟨_, hB.2.2.1, D, hB.1, rfl, by cases q : D.vm <;> first | rfl | exact absurd q (hB.2.1.2 _)⟩, Has.of hB F1 g1, Has.of hB F2 g2, ⟨K1.1, State.isArrayOf_alike al K1.2.1, K1.2.2, by rcases hcod with ⟨-, q, -⟩ | ⟨-, q, -⟩ <;> omega⟩, hcod, fun j hj => by
    have e : cs.getD j 0 = cs[j] := by simp [List.getD_eq_getElem?_getD, hj]
    show ¬ cs.getD j 0 < 0 ∧ ¬ 65535 < cs.getD j 0
    rw [e]; exact hb _ (List.getElem_mem _)⟩
  obtain ⟨v, B, X', ⟨⟨hv, hh⟩, hl, hk, hs⟩, st⟩ := Len.pays x t A cd cs.length (fun j => cs.getD j 0) z (tabLen_of (movedLen hZ hw)) hfr hlo m meth c P g ig mk _ X hg hsize hdg hW hn ⟨r1, r2, rfl, hx, sta_is al S, hz⟩
  exact ⟨v, B, X', ⟨[], ⟨hv, rfl, hh⟩, hl, hk, hs⟩, st⟩
end StrChars.Road
namespace StrChars
open Jvm Sem ClassFile Op Lib Jvm.Stand Jvm.Free.XT Jvm.Free.ALB Jvm.Free.JM Jvm.Free
open Jvm.Lib.Cold (StaticIs)
/-- what place i of a byte[]'s cell holds -/
def yv (A : Cell) (i : Nat) : Int32 := match A.slots[i]? with | some (.int x) => x | _ => 0
theorem yv_get {a : Addr} {A : Cell} {U : State} (h : XT.Arr .byte a A U) (ht : Typed .byte A) {i : Nat} (hi : i < A.slots.size) : A.slots[i]? = some (.int (yv A i)) := by
  have e := Array.getElem?_eq_getElem hi
  have f := ht i _ e
  unfold yv; rw [e]
  generalize A.slots[i] = v at f
  cases v <;> simp [fits] at f ⊢
/-- the two arrays are equal, place for place -/
def EqC (A B : Cell) : Prop := A.slots.size = B.slots.size ∧ ∀ i, i < A.slots.size → yv A i = yv B i
/-- a boolean that says whether p -/
def Says01 (q : Prop) (r : Option Value) (s u : State) : Prop := ∃ v : Int32, r = some (.int v) ∧ u.heap = s.heap ∧ ((v = 1 ∧ q) ∨ (v = 0 ∧ ¬ q))
theorem Says01.mv {q : Prop} : ∀ r (U U' V V' : State), U'.heap = U.heap → V.vm.Alike V'.vm → V'.heap = V.heap → Says01 q r U V → Says01 q r U' V' :=
  fun r U U' V V' h1 _ h2 ⟨v, a, b, c⟩ => ⟨v, a, by rw [h1, h2]; exact b, c⟩
namespace LEq
def yN : MethodName := ⟨"java/lang/StringLatin1", "equals", "([B[B)Z"⟩
abbrev yB : ByteArray := jdk_43_method_13_code
theorem d0 : decode yB 0 = .ok (.aload_n 0, 1) := by decide +kernel
theorem d1 : decode yB 1 = .ok (.arraylength, 1) := by decide +kernel
theorem d2 : decode yB 2 = .ok (.aload_n 1, 1) := by decide +kernel
theorem d3 : decode yB 3 = .ok (.arraylength, 1) := by decide +kernel
theorem d4 : decode yB 4 = .ok (.if_icmp (.ne) 30, 3) := by decide +kernel
theorem d7 : decode yB 7 = .ok (.iconst 0, 1) := by decide +kernel
theorem d8 : decode yB 8 = .ok (.istore_n 2, 1) := by decide +kernel
theorem d9 : decode yB 9 = .ok (.iload_n 2, 1) := by decide +kernel
theorem d10 : decode yB 10 = .ok (.aload_n 0, 1) := by decide +kernel
theorem d11 : decode yB 11 = .ok (.arraylength, 1) := by decide +kernel
theorem d12 : decode yB 12 = .ok (.if_icmp (.ge) 20, 3) := by decide +kernel
theorem d15 : decode yB 15 = .ok (.aload_n 0, 1) := by decide +kernel
theorem d16 : decode yB 16 = .ok (.iload_n 2, 1) := by decide +kernel
theorem d17 : decode yB 17 = .ok (.baload, 1) := by decide +kernel
theorem d18 : decode yB 18 = .ok (.aload_n 1, 1) := by decide +kernel
theorem d19 : decode yB 19 = .ok (.iload_n 2, 1) := by decide +kernel
theorem d20 : decode yB 20 = .ok (.baload, 1) := by decide +kernel
theorem d21 : decode yB 21 = .ok (.if_icmp (.eq) 5, 3) := by decide +kernel
theorem d24 : decode yB 24 = .ok (.iconst 0, 1) := by decide +kernel
theorem d25 : decode yB 25 = .ok (.ireturn, 1) := by decide +kernel
theorem d26 : decode yB 26 = .ok (.iinc 2 1, 3) := by decide +kernel
theorem d29 : decode yB 29 = .ok (.goto (-20), 3) := by decide +kernel
theorem d32 : decode yB 32 = .ok (.iconst 1, 1) := by decide +kernel
theorem d33 : decode yB 33 = .ok (.ireturn, 1) := by decide +kernel
theorem d34 : decode yB 34 = .ok (.iconst 0, 1) := by decide +kernel
theorem d35 : decode yB 35 = .ok (.ireturn, 1) := by decide +kernel
def site : List Cond := []
def tab : Cond := tabOf yN yB 3 (some .boolean) site
def P (a : Addr) (A : Cell) (b : Addr) (B : Cell) (args : Array Value) (s : State) : Prop := args = #[.ref a, .ref b] ∧ XT.Arr .byte a A s ∧ Typed .byte A ∧ XT.Arr .byte b B s ∧ Typed .byte B
/-- whether two byte[] are equal, place for place -/
theorem law (l : Launch) (a : Addr) (A : Cell) (b : Addr) (B : Cell) : Law l yN 2 2 0 0 yB 3 (some .boolean) site (P a A b B) (Says01 (EqC A B)) [] 0 0 := by
  refine Law.of_walk (plainFor_of_name (by decide +kernel)) (by decide +kernel) (by decide +kernel) (by decide) (fun _ _ h => by rw [h.1]; rfl) (fun _ U U' hal hh h => ⟨h.1, h.2.1.mv hal hh, h.2.2.1, h.2.2.2.1.mv hal hh, h.2.2.2.2⟩) (fun r U U' V V' h1 hal h2 h => Says01.mv r U U' V V' h1 hal h2 h) ?_
  intro p e s m args below meth c s₁ X0 hexec hbytes hml hret hlk hnm hown hh0 W hP
  obtain ⟨rfl, hA, tA, hB, tB⟩ := hP
  have a31 := hA.2.2.2
  have b31 := hB.2.2.2
  have hA0 := hA.mv X0.warmed.alike hh0
  have hB0 := hB.mv X0.warmed.alike hh0
  have c1 : Steps p.tables e below (s₁.setTop (entryFrame m #[.ref a, .ref b] 3)) (s₁.setTop (mkF m 0 #[.val (.ref a), .val (.ref b), .unset] [])) := entry rfl
  have c2 : Steps p.tables e below (s₁.setTop (entryFrame m #[.ref a, .ref b] 3)) (s₁.setTop (mkF m 4 #[.val (.ref a), .val (.ref b), .unset] [.int (Int32.ofNat B.slots.size), .int (Int32.ofNat A.slots.size)])) := c1.trans (by
    refine XS.aloadN X0.here hexec rfl (hb hbytes d0) rfl rfl ?_
    refine X0.alen hexec hA0 rfl rfl (hb hbytes d1) ?_
    refine XS.aloadN X0.here hexec rfl (hb hbytes d2) rfl rfl ?_
    refine X0.alen hexec hB0 rfl rfl (hb hbytes d3) ?_
    exact Steps.refl _)
  by_cases hs : A.slots.size = B.slots.size
  · have c3 : Steps p.tables e below (s₁.setTop (entryFrame m #[.ref a, .ref b] 3)) (s₁.setTop (mkF m 9 #[.val (.ref a), .val (.ref b), .val (.int 0)] [])) := c2.trans (by
      refine XS.icmpNo X0.here hexec rfl (hb hbytes d4) rfl (ii_ne_f (by rw [hs])) ?_
      refine iconstV X0.here hexec rfl 0 (hb hbytes d7) (by decide) ?_
      refine XS.istoreN X0.here hexec rfl (hb hbytes d8) rfl rfl ?_
      exact Steps.refl _)
    have loop : ∀ (r i : Nat), i + r = A.slots.size → (∀ j, j < i → yv A j = yv B j) → Steps p.tables e below (s₁.setTop (entryFrame m #[.ref a, .ref b] 3)) (s₁.setTop (mkF m 9 #[.val (.ref a), .val (.ref b), .val (.int (Int32.ofNat i))] [])) → ∃ (pc : Nat) (Ls : Array Slot) (v : Int32), (pc = 25 ∨ pc = 33) ∧ ((v = 1 ∧ EqC A B) ∨ (v = 0 ∧ ¬ EqC A B)) ∧ Steps p.tables e below (s₁.setTop (entryFrame m #[.ref a, .ref b] 3)) (s₁.setTop (mkF m pc Ls [.int v])) := by
      intro r
      induction r with
      | zero =>
        intro i hi he cl
        exact ⟨33, _, 1, Or.inr rfl, Or.inl ⟨rfl, hs, fun j hj => he j (by omega)⟩, cl.trans (by
          refine XS.iloadN X0.here hexec rfl (hb hbytes d9) rfl ?_
          refine XS.aloadN X0.here hexec rfl (hb hbytes d10) rfl rfl ?_
          refine X0.alen hexec hA0 rfl rfl (hb hbytes d11) ?_
          refine XS.icmpYes X0.here hexec rfl (pc0 := 12) rfl (hb hbytes d12) rfl (ii_ge_t (nlt32 (by omega) (by omega))) (by decide) rfl ?_
          refine iconstV X0.here hexec rfl 1 (hb hbytes d32) (by decide) ?_
          exact Steps.refl _)⟩
      | succ r ih =>
        intro i hi he cl
        have c4 : Steps p.tables e below (s₁.setTop (entryFrame m #[.ref a, .ref b] 3)) (s₁.setTop (mkF m 21 #[.val (.ref a), .val (.ref b), .val (.int (Int32.ofNat i))] [.int (yv B i), .int (yv A i)])) := cl.trans (by
          refine XS.iloadN X0.here hexec rfl (hb hbytes d9) rfl ?_
          refine XS.aloadN X0.here hexec rfl (hb hbytes d10) rfl rfl ?_
          refine X0.alen hexec hA0 rfl rfl (hb hbytes d11) ?_
          refine XS.icmpNo X0.here hexec rfl (hb hbytes d12) rfl (ii_ge_f (lt32 (by omega) (by omega))) ?_
          refine XS.aloadN X0.here hexec rfl (hb hbytes d15) rfl rfl ?_
          refine XS.iloadN X0.here hexec rfl (hb hbytes d16) rfl ?_
          refine X0.aget hexec hA0 rfl (yv_get hA tA (i := i) (by omega)) rfl rfl (hb hbytes d17) ?_
          refine XS.aloadN X0.here hexec rfl (hb hbytes d18) rfl rfl ?_
          refine XS.iloadN X0.here hexec rfl (hb hbytes d19) rfl ?_
          refine X0.aget hexec hB0 rfl (yv_get hB tB (i := i) (by omega)) rfl rfl (hb hbytes d20) ?_
          exact Steps.refl _)
        by_cases hv : yv A i = yv B i
        · have c5 : Steps p.tables e below (s₁.setTop (entryFrame m #[.ref a, .ref b] 3)) (s₁.setTop (mkF m 9 #[.val (.ref a), .val (.ref b), .val (.int (Int32.ofNat i + 1))] [])) := c4.trans (by
            refine XS.icmpYes X0.here hexec rfl (pc0 := 21) rfl (hb hbytes d21) rfl (ii_eq_t hv) (by decide) rfl ?_
            refine iincV X0.here hexec rfl 1 (hb hbytes d26) (by decide) rfl rfl ?_
            refine XS.goto X0.here hexec rfl (pc0 := 29) rfl (hb hbytes d29) (by decide) rfl ?_
            exact Steps.refl _)
          rw [succ32] at c5
          exact ih (i + 1) (by omega) (fun j hj => by
            by_cases e : j = i
            · rw [e]; exact hv
            · exact he j (by omega)) c5
        · exact ⟨25, _, 0, Or.inl rfl, Or.inr ⟨rfl, fun q => hv (q.2 i (by omega))⟩, c4.trans (by
            refine XS.icmpNo X0.here hexec rfl (hb hbytes d21) rfl (ii_eq_f hv) ?_
            refine iconstV X0.here hexec rfl 0 (hb hbytes d24) (by decide) ?_
            exact Steps.refl _)⟩
    obtain ⟨pc, Ls, v, hpc, hv, cz⟩ := loop A.slots.size 0 (by omega) (fun j hj => absurd hj (Nat.not_lt_zero j)) c3
    have nv : narrow .boolean (.int v) = .int v := by rcases hv with ⟨rfl, -⟩ | ⟨rfl, -⟩ <;> rfl
    rcases hpc with rfl | rfl
    · exact ⟨s₁, some (.int v), _, _, _, X0, rfl, rfl, rfl, (fun h => by cases h), ⟨v, rfl, hh0, hv⟩, fun fs hl => cz.trans (X0.ireturnOut hexec hret nv (Or.inr (Or.inl rfl)) (hb hbytes d25) hl)⟩
    · exact ⟨s₁, some (.int v), _, _, _, X0, rfl, rfl, rfl, (fun h => by cases h), ⟨v, rfl, hh0, hv⟩, fun fs hl => cz.trans (X0.ireturnOut hexec hret nv (Or.inr (Or.inl rfl)) (hb hbytes d33) hl)⟩
  · have c3 : Steps p.tables e below (s₁.setTop (entryFrame m #[.ref a, .ref b] 3)) (s₁.setTop (mkF m 35 #[.val (.ref a), .val (.ref b), .unset] [.int 0])) := c2.trans (by
      refine XS.icmpYes X0.here hexec rfl (pc0 := 4) rfl (hb hbytes d4) rfl (ii_ne_t (ne32 a31 b31 hs)) (by decide) rfl ?_
      refine iconstV X0.here hexec rfl 0 (hb hbytes d34) (by decide) ?_
      exact Steps.refl _)
    exact ⟨s₁, some (.int 0), _, _, _, X0, rfl, rfl, rfl, (fun h => by cases h), ⟨0, rfl, hh0, Or.inr ⟨rfl, fun q => hs q.1⟩⟩, fun fs hl => c3.trans (X0.ireturnOut hexec hret rfl (Or.inr (Or.inl rfl)) (hb hbytes d35) hl)⟩
end LEq
theorem Cod.ty {cd : Int32} {n : Nat} {f : Nat → Int32} {V : Cell} (h : Cod cd n f V) : Typed .byte V := fun i v hv => by
  have hi : i < V.slots.size := (Array.getElem?_eq_some_iff.mp hv).1
  rcases h with ⟨-, k1, k2⟩ | ⟨-, k1, k2, -⟩
  · rw [(k2 i (by omega)).1] at hv; cases hv; exact fits_lo8 _
  · rcases Nat.mod_two_eq_zero_or_one i with e | e
    · obtain ⟨j, rfl⟩ : ∃ j, i = 2 * j := ⟨i / 2, by omega⟩
      rw [(k2 j (by omega)).1] at hv; cases hv; exact fits_lo8 _
    · obtain ⟨j, rfl⟩ : ∃ j, i = 2 * j + 1 := ⟨i / 2, by omega⟩
      rw [(k2 j (by omega)).2] at hv; cases hv; exact fits_lo8 _
/-- the same text -/
def SameT (n : Nat) (f : Nat → Int32) (k : Nat) (g : Nat → Int32) : Prop := n = k ∧ ∀ j, j < n → f j = g j
theorem lo8_inj {x y : Int32} (h0 : ¬ x < 0) (h1 : ¬ 255 < x) (k0 : ¬ y < 0) (k1 : ¬ 255 < y) (h : lo8 x = lo8 y) : x = y := by
  rw [← lo8_mask h0 h1, ← lo8_mask k0 k1, h]
/-- arrays coded by one coder are equal just where the texts are -/
theorem Cod.eqv {cd : Int32} {n k : Nat} {f g : Nat → Int32} {V V' : Cell} (h : Cod cd n f V) (h' : Cod cd k g V') (hf : ∀ j, j < n → ¬ f j < 0 ∧ ¬ 65535 < f j) (hg : ∀ j, j < k → ¬ g j < 0 ∧ ¬ 65535 < g j) : EqC V V' ↔ SameT n f k g := by
  have yvv : ∀ {W : Cell} {i : Nat} {x : Int32}, W.slots[i]? = some (.int x) → yv W i = x := fun q => by unfold yv; rw [q]
  rcases h with ⟨rfl, k1, k2⟩ | ⟨rfl, k1, k2, -⟩
  · rcases h' with ⟨-, m1, m2⟩ | ⟨e, -⟩
    · constructor
      · rintro ⟨e1, e2⟩
        refine ⟨by omega, fun j hj => ?_⟩
        have q := e2 j (by omega)
        rw [yvv (k2 j hj).1, yvv (m2 j (by omega)).1] at q
        exact lo8_inj (hf j hj).1 (k2 j hj).2 (hg j (by omega)).1 (m2 j (by omega)).2 q
      · rintro ⟨rfl, e2⟩
        refine ⟨by omega, fun j hj => ?_⟩
        rw [yvv (k2 j (by omega)).1, yvv (m2 j (by omega)).1, e2 j (by omega)]
    · exact absurd e (by decide)
  · rcases h' with ⟨e, -⟩ | ⟨-, m1, m2, -⟩
    · exact absurd e (by decide)
    · constructor
      · rintro ⟨e1, e2⟩
        refine ⟨by omega, fun j hj => ?_⟩
        have q1 := e2 (2 * j) (by omega)
        have q2 := e2 (2 * j + 1) (by omega)
        rw [yvv (k2 j hj).1, yvv (m2 j (by omega)).1] at q1
        rw [yvv (k2 j hj).2, yvv (m2 j (by omega)).2] at q2
        rw [← pair_says (hf j hj).1 (hf j hj).2, ← pair_says (hg j (by omega)).1 (hg j (by omega)).2, q1, q2]
      · rintro ⟨rfl, e2⟩
        refine ⟨by omega, fun i hi => ?_⟩
        rcases Nat.mod_two_eq_zero_or_one i with e | e
        · obtain ⟨j, rfl⟩ : ∃ j, i = 2 * j := ⟨i / 2, by omega⟩
          rw [yvv (k2 j (by omega)).1, yvv (m2 j (by omega)).1, e2 j (by omega)]
        · obtain ⟨j, rfl⟩ : ∃ j, i = 2 * j + 1 := ⟨i / 2, by omega⟩
          rw [yvv (k2 j (by omega)).2, yvv (m2 j (by omega)).2, e2 j (by omega)]
/-- two codings differ: so do the texts -/
theorem Cod.dif {cd cd' : Int32} {n k : Nat} {f g : Nat → Int32} {V V' : Cell} (h : Cod cd n f V) (h' : Cod cd' k g V') (hne : ¬ cd = cd') : ¬ SameT n f k g := by
  rintro ⟨rfl, e⟩
  rcases h with ⟨rfl, -, k2⟩ | ⟨rfl, -, -, j, hj, hw⟩
  · rcases h' with ⟨rfl, -⟩ | ⟨-, -, -, j, hj, hw⟩
    · exact hne rfl
    · exact (k2 j hj).2 (by rw [e j hj]; exact hw)
  · rcases h' with ⟨-, -, m2⟩ | ⟨rfl, -⟩
    · exact (m2 j hj).2 (by rw [← e j hj]; exact hw)
    · exact hne rfl
/-- an object of exactly C is an instance of C -/
theorem cinst {p : Program} {l : Launch} {e : Env} {R : Room} {s : State} {m : MethodId} {args : Array Value} {below : List Frame} {meth : Method} {c : Code} {T : State} {locs : List Loc} {cells slots : Nat} (X : Stand p l e R s m args below meth c T locs cells slots) (hexec : p.tables.exec = Jvm.exec) {own C : String} {index : Nat} (hown : s.vm.findClass own = some m.cls) (hlink : (Cond.classLink own index C).before args s = true) {a : Addr} (hE : Exact C a T)
    {g : JFrame} (hg : g.method = m) {rest : List Value} (hstack : g.stack = .ref a :: rest) (hdg : decode c.code g.pc = .ok (.instanceof index, 3)) :
    ∃ T', Stand p l e R s m args below meth c T' locs cells slots ∧ T'.heap = T.heap ∧ ∀ target, Steps p.tables e below (T'.setTop { g with pc := g.pc + 3, stack := .int 1 :: rest }) target → Steps p.tables e below (T.setTop g) target := by
  obtain ⟨cB, h1, D, h2, h3, h4⟩ := hE
  have h1' : s.vm.findClass C = some cB := by rw [← X.warmed.alike.findClass]; exact h1
  obtain ⟨vm', X', st⟩ := X.instanceofYes hexec hown hlink h2 h4 h1' (by rw [h3]; exact Jvm.Free.SB.assignable_self _ _) hg hstack hdg
  exact ⟨_, X', rfl, st⟩
theorem cself {p : Program} {l : Launch} {e : Env} {R : Room} {s : State} {m : MethodId} {args : Array Value} {below : List Frame} {meth : Method} {c : Code} {T : State} {locs : List Loc} {cells slots : Nat} (X : Stand p l e R s m args below meth c T locs cells slots) (hexec : p.tables.exec = Jvm.exec) {own C : String} {index : Nat} (hown : s.vm.findClass own = some m.cls) (hlink : (Cond.classLink own index C).before args s = true) {a : Addr} (hE : Exact C a T)
    {g : JFrame} (hg : g.method = m) {rest : List Value} (hstack : g.stack = .ref a :: rest) (hdg : decode c.code g.pc = .ok (.checkcast index, 3)) :
    ∃ T', Stand p l e R s m args below meth c T' locs cells slots ∧ T'.heap = T.heap ∧ ∀ target, Steps p.tables e below (T'.setTop { g with pc := g.pc + 3, stack := .ref a :: rest }) target → Steps p.tables e below (T.setTop g) target := by
  obtain ⟨cB, h1, D, h2, h3, h4⟩ := hE
  have h1' : s.vm.findClass C = some cB := by rw [← X.warmed.alike.findClass]; exact h1
  obtain ⟨vm', X', st⟩ := X.checkcastYes hexec hown hlink h2 h4 h1' (by rw [h3]; exact Jvm.Free.SB.assignable_self _ _) hg hstack hdg
  exact ⟨_, X', rfl, fun t h => st t (by rw [← hstack] at h; exact h)⟩
namespace SEq
def yN : MethodName := ⟨"java/lang/String", "equals", "(Ljava/lang/Object;)Z"⟩
abbrev yB : ByteArray := jdk_42_method_66_code
theorem d0 : decode yB 0 = .ok (.aload_n 0, 1) := by decide +kernel
theorem d1 : decode yB 1 = .ok (.aload_n 1, 1) := by decide +kernel
theorem d2 : decode yB 2 = .ok (.if_acmp (.ne) 5, 3) := by decide +kernel
theorem d5 : decode yB 5 = .ok (.iconst 1, 1) := by decide +kernel
theorem d6 : decode yB 6 = .ok (.ireturn, 1) := by decide +kernel
theorem d7 : decode yB 7 = .ok (.aload_n 1, 1) := by decide +kernel
theorem d8 : decode yB 8 = .ok (.instanceof 10, 3) := by decide +kernel
theorem d11 : decode yB 11 = .ok (.ifCond (.eq) 43, 3) := by decide +kernel
theorem d14 : decode yB 14 = .ok (.aload_n 1, 1) := by decide +kernel
theorem d15 : decode yB 15 = .ok (.checkcast 10, 3) := by decide +kernel
theorem d18 : decode yB 18 = .ok (.astore_n 2, 1) := by decide +kernel
theorem d19 : decode yB 19 = .ok (.getstatic 38, 3) := by decide +kernel
theorem d22 : decode yB 22 = .ok (.ifCond (.eq) 14, 3) := by decide +kernel
theorem d25 : decode yB 25 = .ok (.aload_n 0, 1) := by decide +kernel
theorem d26 : decode yB 26 = .ok (.getfield 15, 3) := by decide +kernel
theorem d29 : decode yB 29 = .ok (.aload_n 2, 1) := by decide +kernel
theorem d30 : decode yB 30 = .ok (.getfield 15, 3) := by decide +kernel
theorem d33 : decode yB 33 = .ok (.if_icmp (.ne) 21, 3) := by decide +kernel
theorem d36 : decode yB 36 = .ok (.aload_n 0, 1) := by decide +kernel
theorem d37 : decode yB 37 = .ok (.getfield 9, 3) := by decide +kernel
theorem d40 : decode yB 40 = .ok (.aload_n 2, 1) := by decide +kernel
theorem d41 : decode yB 41 = .ok (.getfield 9, 3) := by decide +kernel
theorem d44 : decode yB 44 = .ok (.invokestatic 541, 3) := by decide +kernel
theorem d47 : decode yB 47 = .ok (.ifCond (.eq) 7, 3) := by decide +kernel
theorem d50 : decode yB 50 = .ok (.iconst 1, 1) := by decide +kernel
theorem d51 : decode yB 51 = .ok (.goto 4, 3) := by decide +kernel
theorem d54 : decode yB 54 = .ok (.iconst 0, 1) := by decide +kernel
theorem d55 : decode yB 55 = .ok (.ireturn, 1) := by decide +kernel
def site : List Cond := [.classLink "java/lang/String" 10 "java/lang/String", .fieldLink "java/lang/String" 38 "java/lang/String" "COMPACT_STRINGS" "Z", .fieldLink "java/lang/String" 15 "java/lang/String" "coder" "B", .fieldLink "java/lang/String" 9 "java/lang/String" "value" "[B", LEq.tab] ++ staticW "java/lang/String" 541 LEq.yN
def tab : Cond := tabOf yN yB 3 (some .boolean) site
def P (x t : Addr) (V : Cell) (cd : Int32) (n : Nat) (f : Nat → Int32) (y t' : Addr) (V' : Cell) (cd' : Int32) (k : Nat) (g : Nat → Int32) (z : Int32) (args : Array Value) (s : State) : Prop := args = #[.ref x, .ref y] ∧ Txt x t V cd n f s ∧ Txt y t' V' cd' k g s ∧ StaticIs s "java/lang/String" "COMPACT_STRINGS" "Z" (.int z) ∧ ¬ z = 0
/-- equals(Object) of two Strings: whether the texts are the same -/
theorem law (l : Launch) (x t : Addr) (V : Cell) (cd : Int32) (n : Nat) (f : Nat → Int32) (y t' : Addr) (V' : Cell) (cd' : Int32) (k : Nat) (g : Nat → Int32) (z : Int32) : Law l yN 2 1 1 14 yB 3 (some .boolean) site (P x t V cd n f y t' V' cd' k g z) (Says01 (SameT n f k g)) [] 0 0 := by
  refine Law.of_walk (plainFor_of_name (by decide +kernel)) (by decide +kernel) (by decide +kernel) (by decide) (fun _ _ h => by rw [h.1]; rfl) (fun _ U U' hal hh h => ⟨h.1, h.2.1.mv hal hh, h.2.2.1.mv hal hh, h.2.2.2.1.there hal hh, h.2.2.2.2⟩) (fun r U U' V V' h1 hal h2 h => Says01.mv r U U' V V' h1 hal h2 h) ?_
  intro p e s m args below meth c s₁ X0 hexec hbytes hml hret hlk hnm hown hh0 W hP
  obtain ⟨rfl, hx, hy, s1, hz⟩ := hP
  have c1 : Steps p.tables e below (s₁.setTop (entryFrame m #[.ref x, .ref y] 3)) (s₁.setTop (mkF m 2 #[.val (.ref x), .val (.ref y), .unset] [.ref y, .ref x])) := Steps.trans (entry rfl) (by
    show Steps p.tables e below (s₁.setTop (mkF m 0 #[.val (.ref x), .val (.ref y), .unset] [])) _
    refine XS.aloadN X0.here hexec rfl (hb hbytes d0) rfl rfl ?_
    refine XS.aloadN X0.here hexec rfl (hb hbytes d1) rfl rfl ?_
    exact Steps.refl _)
  by_cases hxy : x = y
  · have c2 : Steps p.tables e below (s₁.setTop (entryFrame m #[.ref x, .ref y] 3)) (s₁.setTop (mkF m 6 #[.val (.ref x), .val (.ref y), .unset] [.int 1])) := c1.trans (by
      refine acmpNo X0.here hexec rfl (hb hbytes d2) rfl rfl rfl (by simp [acmp, hxy]) ?_
      refine iconstV X0.here hexec rfl 1 (hb hbytes d5) (by decide) ?_
      exact Steps.refl _)
    subst hxy
    have ec : cd = cd' := by
      obtain ⟨D, fd, a1, a2, a3⟩ := hx.2.2.1
      obtain ⟨D', fd', b1, b2, b3⟩ := hy.2.2.1
      cases a1.symm.trans b1
      obtain ⟨q1, q2, q3, q4⟩ := a2.1
      obtain ⟨r1, r2, r3, r4⟩ := b2.1
      cases q4.symm.trans r4
      cases a3.symm.trans b3; rfl
    have et : t = t' := by
      obtain ⟨D, fd, a1, a2, a3⟩ := hx.2.1
      obtain ⟨D', fd', b1, b2, b3⟩ := hy.2.1
      cases a1.symm.trans b1
      obtain ⟨q1, q2, q3, q4⟩ := a2.1
      obtain ⟨r1, r2, r3, r4⟩ := b2.1
      cases q4.symm.trans r4
      cases a3.symm.trans b3; rfl
    subst ec et
    have ev : V = V' := by cases hx.2.2.2.1.1.symm.trans hy.2.2.2.1.1; rfl
    subst ev
    have hs : SameT n f k g := (Cod.eqv hx.2.2.2.2.1 hy.2.2.2.2.1 hx.2.2.2.2.2 hy.2.2.2.2.2).mp ⟨rfl, fun _ _ => rfl⟩
    exact ⟨s₁, some (.int 1), _, _, _, X0, rfl, rfl, rfl, (fun h => by cases h), ⟨1, rfl, hh0, Or.inl ⟨rfl, hs⟩⟩, fun fs hl => c2.trans (X0.ireturnOut hexec hret rfl (Or.inr (Or.inl rfl)) (hb hbytes d6) hl)⟩
  · have c2 : Steps p.tables e below (s₁.setTop (entryFrame m #[.ref x, .ref y] 3)) (s₁.setTop (mkF m 8 #[.val (.ref x), .val (.ref y), .unset] [.ref y])) := c1.trans (by
      refine acmpYes X0.here hexec rfl (pc0 := 2) rfl (hb hbytes d2) rfl rfl rfl (by simp [acmp, hxy]) (by decide) rfl ?_
      refine XS.aloadN X0.here hexec rfl (hb hbytes d7) rfl rfl ?_
      exact Steps.refl _)
    obtain ⟨T3, X3, q3, st3⟩ := cinst X0 hexec hown (wk W (.classLink "java/lang/String" 10 "java/lang/String")) (hy.mv X0.warmed.alike hh0).1 (g := (mkF m 8 #[.val (.ref x), .val (.ref y), .unset] [.ref y])) rfl (rest := []) rfl (hb hbytes d8)
    have hh3 := q3.trans hh0
    have c4 : Steps p.tables e below (s₁.setTop (entryFrame m #[.ref x, .ref y] 3)) (T3.setTop (mkF m 15 #[.val (.ref x), .val (.ref y), .unset] [.ref y])) := (c2.trans (st3 _ (Steps.refl _))).trans (by
      refine XS.ifNo X3.here hexec rfl (hb hbytes d11) rfl (i0_eq_f (by decide)) ?_
      refine XS.aloadN X3.here hexec rfl (hb hbytes d14) rfl rfl ?_
      exact Steps.refl _)
    obtain ⟨T5, X5, q5, st5⟩ := cself X3 hexec hown (wk W (.classLink "java/lang/String" 10 "java/lang/String")) (hy.mv X3.warmed.alike hh3).1 (g := (mkF m 15 #[.val (.ref x), .val (.ref y), .unset] [.ref y])) rfl (rest := []) rfl (hb hbytes d15)
    have hh5 := q5.trans hh3
    have c6 : Steps p.tables e below (s₁.setTop (entryFrame m #[.ref x, .ref y] 3)) (T5.setTop (mkF m 19 #[.val (.ref x), .val (.ref y), .val (.ref y)] [])) := (c4.trans (st5 _ (Steps.refl _))).trans (by
      refine XS.astoreN X5.here hexec rfl (hb hbytes d18) rfl rfl rfl ?_
      exact Steps.refl _)
    obtain ⟨T7, X7, q7, st7⟩ := X5.sget hexec hown (wk W (.fieldLink "java/lang/String" 38 "java/lang/String" "COMPACT_STRINGS" "Z")) s1 (fun _ _ h => by rw [hh5]; exact h) (g := (mkF m 19 #[.val (.ref x), .val (.ref y), .val (.ref y)] [])) rfl (hb hbytes d19)
    have hh7 := q7.trans hh5
    have c8 : Steps p.tables e below (s₁.setTop (entryFrame m #[.ref x, .ref y] 3)) (T7.setTop (mkF m 26 #[.val (.ref x), .val (.ref y), .val (.ref y)] [.ref x])) := (c6.trans (st7 _ (Steps.refl _))).trans (by
      refine XS.ifNo X7.here hexec rfl (hb hbytes d22) rfl (i0_eq_f hz) ?_
      refine XS.aloadN X7.here hexec rfl (hb hbytes d25) rfl rfl ?_
      exact Steps.refl _)
    obtain ⟨T9, X9, q9, st9⟩ := X7.hget hexec hown (wk W (.fieldLink "java/lang/String" 15 "java/lang/String" "coder" "B")) (hx.mv X7.warmed.alike hh7).2.2.1 (g := (mkF m 26 #[.val (.ref x), .val (.ref y), .val (.ref y)] [.ref x])) rfl (rest := []) rfl (hb hbytes d26)
    have hh9 := q9.trans hh7
    have c10 : Steps p.tables e below (s₁.setTop (entryFrame m #[.ref x, .ref y] 3)) (T9.setTop (mkF m 30 #[.val (.ref x), .val (.ref y), .val (.ref y)] [.ref y, .int cd])) := (c8.trans (st9 _ (Steps.refl _))).trans (by
      refine XS.aloadN X9.here hexec rfl (hb hbytes d29) rfl rfl ?_
      exact Steps.refl _)
    obtain ⟨T11, X11, q11, st11⟩ := X9.hget hexec hown (wk W (.fieldLink "java/lang/String" 15 "java/lang/String" "coder" "B")) (hy.mv X9.warmed.alike hh9).2.2.1 (g := (mkF m 30 #[.val (.ref x), .val (.ref y), .val (.ref y)] [.ref y, .int cd])) rfl (rest := [.int cd]) rfl (hb hbytes d30)
    have hh11 := q11.trans hh9
    have c12 : Steps p.tables e below (s₁.setTop (entryFrame m #[.ref x, .ref y] 3)) (T11.setTop (mkF m 33 #[.val (.ref x), .val (.ref y), .val (.ref y)] [.int cd', .int cd])) := c10.trans (st11 _ (Steps.refl _))
    by_cases hcd : cd = cd'
    · subst hcd
      have c13 : Steps p.tables e below (s₁.setTop (entryFrame m #[.ref x, .ref y] 3)) (T11.setTop (mkF m 37 #[.val (.ref x), .val (.ref y), .val (.ref y)] [.ref x])) := c12.trans (by
        refine XS.icmpNo X11.here hexec rfl (hb hbytes d33) rfl (ii_ne_f rfl) ?_
        refine XS.aloadN X11.here hexec rfl (hb hbytes d36) rfl rfl ?_
        exact Steps.refl _)
      obtain ⟨T14, X14, q14, st14⟩ := X11.hget hexec hown (wk W (.fieldLink "java/lang/String" 9 "java/lang/String" "value" "[B")) (hx.mv X11.warmed.alike hh11).2.1 (g := (mkF m 37 #[.val (.ref x), .val (.ref y), .val (.ref y)] [.ref x])) rfl (rest := []) rfl (hb hbytes d37)
      have hh14 := q14.trans hh11
      have c15 : Steps p.tables e below (s₁.setTop (entryFrame m #[.ref x, .ref y] 3)) (T14.setTop (mkF m 41 #[.val (.ref x), .val (.ref y), .val (.ref y)] [.ref y, .ref t])) := (c13.trans (st14 _ (Steps.refl _))).trans (by
        refine XS.aloadN X14.here hexec rfl (hb hbytes d40) rfl rfl ?_
        exact Steps.refl _)
      obtain ⟨T16, X16, q16, st16⟩ := X14.hget hexec hown (wk W (.fieldLink "java/lang/String" 9 "java/lang/String" "value" "[B")) (hy.mv X14.warmed.alike hh14).2.1 (g := (mkF m 41 #[.val (.ref x), .val (.ref y), .val (.ref y)] [.ref y, .ref t])) rfl (rest := [.ref t]) rfl (hb hbytes d41)
      have hh16 := q16.trans hh14
      have c17 : Steps p.tables e below (s₁.setTop (entryFrame m #[.ref x, .ref y] 3)) (T16.setTop (mkF m 44 #[.val (.ref x), .val (.ref y), .val (.ref y)] [.ref t', .ref t])) := c15.trans (st16 _ (Steps.refl _))
      obtain ⟨v18, T18, X18, E18, g18⟩ := X16.callS hexec (LEq.law l t V t' V') hown (wks W (staticW "java/lang/String" 541 LEq.yN)) (wk W LEq.tab) (W := 0) (Nat.le_of_ble_eq_true rfl) (Nat.le_of_ble_eq_true rfl) (Nat.le_refl _) (Nat.le_refl _) (g := (mkF m 44 #[.val (.ref x), .val (.ref y), .val (.ref y)] [.ref t', .ref t])) rfl (by rw [hml]; rfl) c17 (argsL := [.ref t, .ref t']) (rest := []) rfl rfl (by show 2 * 0 + 0 ≤ _; decide) (hb hbytes d44) (⟨rfl, hx.2.2.2.1.mv X16.warmed.alike hh16, hx.2.2.2.2.1.ty, hy.2.2.2.1.mv X16.warmed.alike hh16, hy.2.2.2.2.1.ty⟩)
      obtain ⟨v, rfl, q18, hv⟩ := E18
      have iff := Cod.eqv hx.2.2.2.2.1 hy.2.2.2.2.1 hx.2.2.2.2.2 hy.2.2.2.2.2
      rcases hv with ⟨rfl, he⟩ | ⟨rfl, he⟩
      · have c19 : Steps p.tables e below (s₁.setTop (entryFrame m #[.ref x, .ref y] 3)) (T18.setTop (mkF m 55 #[.val (.ref x), .val (.ref y), .val (.ref y)] [.int 1])) := Steps.trans g18 (by
          refine XS.ifNo X18.here hexec rfl (hb hbytes d47) rfl (i0_eq_f (by decide)) ?_
          refine iconstV X18.here hexec rfl 1 (hb hbytes d50) (by decide) ?_
          refine XS.goto X18.here hexec rfl (pc0 := 51) rfl (hb hbytes d51) (by decide) rfl ?_
          exact Steps.refl _)
        exact ⟨T18, some (.int 1), _, _, _, X18, rfl, rfl, rfl, (fun h => by cases h), ⟨1, rfl, q18.trans hh16, Or.inl ⟨rfl, iff.mp he⟩⟩, fun fs hl => c19.trans (X18.ireturnOut hexec hret rfl (Or.inr (Or.inl rfl)) (hb hbytes d55) hl)⟩
      · have c19 : Steps p.tables e below (s₁.setTop (entryFrame m #[.ref x, .ref y] 3)) (T18.setTop (mkF m 55 #[.val (.ref x), .val (.ref y), .val (.ref y)] [.int 0])) := Steps.trans g18 (by
          refine XS.ifYes X18.here hexec rfl (pc0 := 47) rfl (hb hbytes d47) rfl (i0_eq_t rfl) (by decide) rfl ?_
          refine iconstV X18.here hexec rfl 0 (hb hbytes d54) (by decide) ?_
          exact Steps.refl _)
        exact ⟨T18, some (.int 0), _, _, _, X18, rfl, rfl, rfl, (fun h => by cases h), ⟨0, rfl, q18.trans hh16, Or.inr ⟨rfl, fun q => he (iff.mpr q)⟩⟩, fun fs hl => c19.trans (X18.ireturnOut hexec hret rfl (Or.inr (Or.inl rfl)) (hb hbytes d55) hl)⟩
    · have c13 : Steps p.tables e below (s₁.setTop (entryFrame m #[.ref x, .ref y] 3)) (T11.setTop (mkF m 55 #[.val (.ref x), .val (.ref y), .val (.ref y)] [.int 0])) := c12.trans (by
        refine XS.icmpYes X11.here hexec rfl (pc0 := 33) rfl (hb hbytes d33) rfl (ii_ne_t hcd) (by decide) rfl ?_
        refine iconstV X11.here hexec rfl 0 (hb hbytes d54) (by decide) ?_
        exact Steps.refl _)
      exact ⟨T11, some (.int 0), _, _, _, X11, rfl, rfl, rfl, (fun h => by cases h), ⟨0, rfl, hh11, Or.inr ⟨rfl, Cod.dif hx.2.2.2.2.1 hy.2.2.2.2.1 hcd⟩⟩, fun fs hl => c13.trans (X11.ireturnOut hexec hret rfl (Or.inr (Or.inl rfl)) (hb hbytes d55) hl)⟩
theorem pays {l : Launch} {R : Room} {p : Program} {e : Env} {below : List Frame} {s : State} {sargs : Array Value} {len W : Nat} (x t : Addr) (V : Cell) (cd : Int32) (n : Nat) (f : Nat → Int32) (y t' : Addr) (V' : Cell) (cd' : Int32) (k : Nat) (g : Nat → Int32) (z : Int32) (htab : tab.before sargs s = true) (hfr : 2 ≤ R.frames) (hlo : W + 28 ≤ R.locals) :
    Back l R p e below s sargs yN len W (fun A₁ a₁ => A₁.cells + 0 ≤ R.cells ∧ A₁.slots + 0 ≤ R.slots ∧ P x t V cd n f y t' V' cd' k g z a₁ A₁.U) (fun A₁ _ v₁ B₁ => Says01 (SameT n f k g) v₁ A₁.U B₁.U ∧ B₁.locs = A₁.locs ++ [] ∧ B₁.cells = A₁.cells + 0 ∧ B₁.slots = A₁.slots + 0) :=
  (law l x t V cd n f y t' V' cd' k g z).pays htab hfr (by omega)
end SEq
end StrChars
namespace StrChars.Road
open Jvm Sem ClassFile Op Lib Jvm.Stand Jvm.Free Jvm.Free.XT
open Jvm.Lib.Cold (StaticIs)
/-- the words of String.equals(Object) -/
abbrev wordsEq : List Jvm.Cond := [.code SEq.yN SEq.yB 3 (some .boolean), .initialized ST, .classLink ST 10 ST, .fieldLink ST 38 ST "COMPACT_STRINGS" "Z", .fieldLink ST 15 ST "coder" "B", .fieldLink ST 9 ST "value" "[B", .methodLink ST 541 LEq.yN, .static LEq.yN, .code LEq.yN LEq.yB 3 (some .boolean), .initialized "java/lang/StringLatin1"]
theorem tabEq_of {a : Array Value} {s : State} (h : ∀ w ∈ wordsEq, w.before a s = true) : SEq.tab.before a s = true := by
  have hl : LEq.tab.before a s = true := unparts (wk h (.code LEq.yN LEq.yB 3 (some .boolean))) (wks h (.initialized LEq.yN.cls :: LEq.site))
  have q := consq hl h
  exact unparts (wk q (.code SEq.yN SEq.yB 3 (some .boolean))) (wks q (.initialized SEq.yN.cls :: SEq.site))
theorem movedEq {Z s : State} {a0 args : Array Value} (hZ : Z.Warmed39 s.vm) (hw : ∀ d ∈ wordsEq, d.before a0 Z = true) : ∀ d ∈ wordsEq, d.before args s = true := fun d hd => by
  have t : ∀ d ∈ wordsEq, (d.onTables && d.keepsFace) = true := by decide +kernel
  exact RoadKit.mv hZ (hw d hd) (t d hd)
/-- the road's facts of a String, as the laws ask it -/
theorem txt_of {Z U : State} {a0 : Array Value} {kI : Nat} (wi : (Jvm.Cond.instantiable ST kI).before a0 Z = true) (al : Z.vm.Alike U.vm) {x t : Addr} {kb : ClassId} {cs : List Int32} {cd N2 : Int32} {vs : List Value} (E : RoadKit.Exa Z U.heap x ST) (V : RoadKit.Fld Z U.heap x ST "value" "[B" (.ref t)) (C : RoadKit.Fld Z U.heap x ST "coder" "B" (.int cd)) (K : RoadKit.Arv Z U.heap t kb .byte N2 vs (.int 0)) (hc : CodA cs cd N2 vs) (hb : ∀ c ∈ cs, ¬ c < 0 ∧ ¬ (65535 : Int32) < c) (l2 : cs.length ≤ 4000) :
    ∃ A, Txt x t A cd cs.length (fun j => cs.getD j 0) U := by
  obtain ⟨A, K1, K2, K3, K4, K5, K6⟩ := K
  have hcod := hc.cod (by omega) K3 K5
  obtain ⟨D, fV, fC, hB, F1, F2, g1, g2, -, -⟩ := strObj wi al E V C
  exact ⟨A, ⟨_, hB.2.2.1, D, hB.1, rfl, by cases q : D.vm <;> first | rfl | exact absurd q (hB.2.1.2 _)⟩, Has.of hB F1 g1, Has.of hB F2 g2, ⟨K1.1, State.isArrayOf_alike al K1.2.1, K1.2.2, by rcases hcod with ⟨-, q, -⟩ | ⟨-, q, -⟩ <;> omega⟩, hcod, fun j hj => by
    have e : cs.getD j 0 = cs[j] := by simp [List.getD_eq_getElem?_getD, hj]
    show ¬ cs.getD j 0 < 0 ∧ ¬ 65535 < cs.getD j 0
    rw [e]; exact hb _ (List.getElem_mem _)⟩
theorem same_list (cs ds : List Int32) : SameT cs.length (fun j => cs.getD j 0) ds.length (fun j => ds.getD j 0) ↔ cs = ds := by
  constructor
  · rintro ⟨e, q⟩
    refine List.ext_getElem e fun j h1 h2 => ?_
    have := q j h1
    simpa [List.getD_eq_getElem?_getD, h1, h2] using this
  · rintro rfl
    exact ⟨rfl, fun _ _ => rfl⟩
/-- **equals(Object) OF TWO SUCH STRINGS**: 1 just where the chars are the same -/
theorem eqW {p : Program} {l : Launch} {e : Env} {R : Room} {s : State} {args : Array Value} {below : List Frame} {len W : Nat} {Z : State} {a0 : Array Value} {h : Heap} (hZ : Z.Warmed39 s.vm) (hw : ∀ d ∈ wordsEq, d.before a0 Z = true) {kI : Nat} (wi : (Jvm.Cond.instantiable ST kI).before a0 Z = true)
    {x t : Addr} {kb : ClassId} {cs : List Int32} {cd N2 : Int32} {vs : List Value} (E : RoadKit.Exa Z h x ST) (V : RoadKit.Fld Z h x ST "value" "[B" (.ref t)) (C : RoadKit.Fld Z h x ST "coder" "B" (.int cd)) (K : RoadKit.Arv Z h t kb .byte N2 vs (.int 0)) (hc : CodA cs cd N2 vs) (hb : ∀ c ∈ cs, ¬ c < 0 ∧ ¬ (65535 : Int32) < c) (l2 : cs.length ≤ 4000)
    {y t' : Addr} {kb' : ClassId} {ds : List Int32} {cd' N2' : Int32} {vs' : List Value} (E' : RoadKit.Exa Z h y ST) (V' : RoadKit.Fld Z h y ST "value" "[B" (.ref t')) (C' : RoadKit.Fld Z h y ST "coder" "B" (.int cd')) (K' : RoadKit.Arv Z h t' kb' .byte N2' vs' (.int 0)) (hc' : CodA ds cd' N2' vs') (hb' : ∀ c ∈ ds, ¬ c < 0 ∧ ¬ (65535 : Int32) < c) (l2' : ds.length ≤ 4000)
    {z : Int32} (S : RoadKit.Sta Z h ST "COMPACT_STRINGS" "Z" (.int z)) (hz : ¬ z = 0) (hfr : 2 ≤ R.frames) (hlo : W + 28 ≤ R.locals) :
    Back l R p e below s args (⟨"java/lang/String", "equals", "(Ljava/lang/Object;)Z"⟩ : MethodName) len W (fun P a => a = #[.ref x, .ref y] ∧ P.U.heap = h ∧ P.cells + 0 ≤ R.cells ∧ P.slots + 0 ≤ R.slots)
      (fun P _ v B => ∃ L, (((v = some (.int 1) ∧ cs = ds) ∨ (v = some (.int 0) ∧ ¬ cs = ds)) ∧ L = [] ∧ B.U.heap = h) ∧ B.locs = P.locs ++ L ∧ B.cells = P.cells + 0 ∧ B.slots = P.slots + 0) := by
  intro m meth c P g ig mk a X hg hsize hdg hW hn hp'
  obtain ⟨rfl, rfl, r1, r2⟩ := hp'
  have al : Z.vm.Alike P.U.vm := hZ.alike.trans X.warmed.alike
  obtain ⟨A, hx⟩ := txt_of wi al E V C K hc hb l2
  obtain ⟨A', hy⟩ := txt_of wi al E' V' C' K' hc' hb' l2'
  obtain ⟨v, B, X', ⟨⟨w, hv, hh, hq⟩, hl, hk, hs⟩, st⟩ := SEq.pays x t A cd cs.length (fun j => cs.getD j 0) y t' A' cd' ds.length (fun j => ds.getD j 0) z (tabEq_of (movedEq hZ hw)) hfr hlo m meth c P g ig mk _ X hg hsize hdg hW hn ⟨r1, r2, rfl, hx, hy, sta_is al S, hz⟩
  refine ⟨v, B, X', ⟨[], ⟨?_, rfl, hh⟩, hl, hk, hs⟩, st⟩
  rcases hq with ⟨rfl, q⟩ | ⟨rfl, q⟩
  · exact Or.inl ⟨hv, (same_list cs ds).mp q⟩
  · exact Or.inr ⟨hv, fun e => q ((same_list cs ds).mpr e)⟩
end StrChars.Road
namespace StrChars
open Jvm Sem ClassFile Op Lib Jvm.Stand Jvm.Free.XT Jvm.Free.ALB Jvm.Free.JM Jvm.Free
open Jvm.Lib.Cold (StaticIs)
namespace ChN
def yN : MethodName := ⟨"java/lang/String", "charAt", "(I)C"⟩
abbrev yB : ByteArray := jdk_42_method_56_code
theorem d0 : decode yB 0 = .ok (.aload_n 0, 1) := by decide +kernel
theorem d1 : decode yB 1 = .ok (.invokevirtual 492, 3) := by decide +kernel
theorem d4 : decode yB 4 = .ok (.ifCond (.eq) 12, 3) := by decide +kernel
theorem d7 : decode yB 7 = .ok (.aload_n 0, 1) := by decide +kernel
theorem d8 : decode yB 8 = .ok (.getfield 9, 3) := by decide +kernel
theorem d11 : decode yB 11 = .ok (.iload_n 1, 1) := by decide +kernel
theorem d12 : decode yB 12 = .ok (.invokestatic 495, 3) := by decide +kernel
theorem d15 : decode yB 15 = .ok (.ireturn, 1) := by decide +kernel
def site : List Cond := [.fieldLink "java/lang/String" 9 "java/lang/String" "value" "[B", IsL.tab, LChA.tab] ++ virtW "java/lang/String" 492 "java/lang/String" IsL.yN IsL.yN ++ staticW "java/lang/String" 495 LChA.yN
def tab : Cond := tabOf yN yB 2 (some .char) site
def P (x t : Addr) (V : Cell) (n : Nat) (f : Nat → Int32) (z : Int32) (fm : Value) (i : Nat) (args : Array Value) (s : State) : Prop := args = #[.ref x, .int (Int32.ofNat i)] ∧ Txt x t V 0 n f s ∧ i < n ∧ StaticIs s "java/lang/String" "COMPACT_STRINGS" "Z" (.int z) ∧ ¬ z = 0 ∧ StaticIs s "jdk/internal/util/Preconditions" "SIOOBE_FORMATTER" "Ljava/util/function/BiFunction;" fm ∧ fm.isRef = true
def E (f : Nat → Int32) (i : Nat) (r : Option Value) (s u : State) : Prop := XT.PureE (some (.int (f i))) r s u
/-- charAt(i) of a Latin-1 String of n chars, i < n: f i -/
theorem law (l : Launch) (x t : Addr) (V : Cell) (n : Nat) (f : Nat → Int32) (z : Int32) (fm : Value) (i : Nat) : Law l yN 2 1 3 40 yB 2 (some .char) site (P x t V n f z fm i) (E f i) [] 0 0 := by
  refine Law.of_walk (plainFor_of_name (by decide +kernel)) (by decide +kernel) (by decide +kernel) (by decide) (fun _ _ h => by rw [h.1]; rfl) (fun _ U U' hal hh h => ⟨h.1, h.2.1.mv hal hh, h.2.2.1, h.2.2.2.1.there hal hh, h.2.2.2.2.1, h.2.2.2.2.2.1.there hal hh, h.2.2.2.2.2.2⟩) (fun r U U' V V' h1 hal h2 h => XT.PureE.mv r U U' V V' h1 hal h2 h) ?_
  intro p e s m args below meth c s₁ X0 hexec hbytes hml hret hlk hnm hown hh0 W hP
  obtain ⟨rfl, hx, hi, s1, hz, s3, rf⟩ := hP
  have v31 := hx.2.2.2.1.2.2.2
  have hr := hx.2.2.2.2.2 i hi
  have hx0 := hx.mv X0.warmed.alike hh0
  have c1 : Steps p.tables e below (s₁.setTop (entryFrame m #[.ref x, .int (Int32.ofNat i)] 2)) (s₁.setTop (mkF m 1 #[.val (.ref x), .val (.int (Int32.ofNat i))] [.ref x])) := Steps.trans (entry rfl) (by
    show Steps p.tables e below (s₁.setTop (mkF m 0 #[.val (.ref x), .val (.int (Int32.ofNat i))] [])) _
    refine XS.aloadN X0.here hexec rfl (hb hbytes d0) rfl rfl ?_
    exact Steps.refl _)
  obtain ⟨v2, T2, X2, E2, g2⟩ := X0.callV hexec (IsL.law l x 0 z) hown (wks W (virtW "java/lang/String" 492 "java/lang/String" IsL.yN IsL.yN)) rfl (by decide) (wk W IsL.tab) (W := 0) (Nat.le_of_ble_eq_true rfl) (Nat.le_of_ble_eq_true rfl) (Nat.le_refl _) (Nat.le_refl _) (hx0.1.fc X0.warmed.alike) hx0.1.is (g := (mkF m 1 #[.val (.ref x), .val (.int (Int32.ofNat i))] [.ref x])) rfl (by rw [hml]; rfl) c1 (argsL := []) (rest := []) rfl rfl (by show 2 * 0 + 0 ≤ _; decide) (hb hbytes d1) (⟨rfl, hx0.2.2.1, hx.2.2.2.2.1.cd, s1.there X0.warmed.alike hh0, hz⟩)
  obtain ⟨rfl, q2⟩ := E2
  have hh2 := q2.trans hh0
  have hx2 := hx.mv X2.warmed.alike hh2
  obtain ⟨-, k1, k2⟩ | ⟨k0, -⟩ := hx.2.2.2.2.1
  · have c3 : Steps p.tables e below (s₁.setTop (entryFrame m #[.ref x, .int (Int32.ofNat i)] 2)) (T2.setTop (mkF m 8 #[.val (.ref x), .val (.int (Int32.ofNat i))] [.ref x])) := Steps.trans g2 (by
      refine XS.ifNo X2.here hexec rfl (hb hbytes d4) rfl (i0_eq_f (by decide)) ?_
      refine XS.aloadN X2.here hexec rfl (hb hbytes d7) rfl rfl ?_
      exact Steps.refl _)
    obtain ⟨T4, X4, q4, st4⟩ := X2.hget hexec hown (wk W (.fieldLink "java/lang/String" 9 "java/lang/String" "value" "[B")) hx2.2.1 (g := (mkF m 8 #[.val (.ref x), .val (.int (Int32.ofNat i))] [.ref x])) rfl (rest := []) rfl (hb hbytes d8)
    have hh4 := q4.trans hh2
    have c5 : Steps p.tables e below (s₁.setTop (entryFrame m #[.ref x, .int (Int32.ofNat i)] 2)) (T4.setTop (mkF m 12 #[.val (.ref x), .val (.int (Int32.ofNat i))] [.int (Int32.ofNat i), .ref t])) := (c3.trans (st4 _ (Steps.refl _))).trans (by
      refine XS.iloadN X4.here hexec rfl (hb hbytes d11) rfl ?_
      exact Steps.refl _)
    obtain ⟨v6, T6, X6, E6, g6⟩ := X4.callS hexec (LChA.law l t V i (lo8 (f i)) fm) hown (wks W (staticW "java/lang/String" 495 LChA.yN)) (wk W LChA.tab) (W := 0) (Nat.le_of_ble_eq_true rfl) (Nat.le_of_ble_eq_true rfl) (Nat.le_refl _) (Nat.le_refl _) (g := (mkF m 12 #[.val (.ref x), .val (.int (Int32.ofNat i))] [.int (Int32.ofNat i), .ref t])) rfl (by rw [hml]; rfl) c5 (argsL := [.ref t, .int (Int32.ofNat i)]) (rest := []) rfl rfl (by show 2 * 0 + 0 ≤ _; decide) (hb hbytes d12) (⟨rfl, hx.2.2.2.1.mv X4.warmed.alike hh4, (k2 i hi).1, s3.there X4.warmed.alike hh4, rf⟩)
    obtain ⟨rfl, q6⟩ := E6
    rw [chr8_lo8 hr.1 (k2 i hi).2] at g6
    exact ⟨T6, some (.int (f i)), _, _, _, X6, rfl, rfl, rfl, (fun h => by cases h), ⟨rfl, q6.trans hh4⟩, fun fs hl => Steps.trans g6 (X6.ireturnOut hexec hret (narrow_ch hr.1 hr.2) (Or.inr (Or.inr (Or.inr (Or.inl rfl)))) (hb hbytes d15) hl)⟩
  · exact absurd k0 (by decide)
theorem pays {l : Launch} {R : Room} {p : Program} {e : Env} {below : List Frame} {s : State} {sargs : Array Value} {len W : Nat} (x t : Addr) (V : Cell) (n : Nat) (f : Nat → Int32) (z : Int32) (fm : Value) (i : Nat) (htab : tab.before sargs s = true) (hfr : 4 ≤ R.frames) (hlo : W + 53 ≤ R.locals) :
    Back l R p e below s sargs yN len W (fun A₁ a₁ => A₁.cells + 0 ≤ R.cells ∧ A₁.slots + 0 ≤ R.slots ∧ P x t V n f z fm i a₁ A₁.U) (fun A₁ _ v₁ B₁ => E f i v₁ A₁.U B₁.U ∧ B₁.locs = A₁.locs ++ [] ∧ B₁.cells = A₁.cells + 0 ∧ B₁.slots = A₁.slots + 0) :=
  (law l x t V n f z fm i).pays htab hfr (by omega)
end ChN
end StrChars
namespace StrChars.Road
open Jvm Sem ClassFile Op Lib Jvm.Stand Jvm.Free Jvm.Free.XT
open Jvm.Lib.Cold (StaticIs)
/-- the words of String.charAt(int), the Latin-1 road alone -/
abbrev wordsChN : List Jvm.Cond := [.code ChN.yN ChN.yB 2 (some .char), .initialized ST, .fieldLink ST 9 ST "value" "[B", .fieldLink ST 38 ST "COMPACT_STRINGS" "Z", .fieldLink ST 15 ST "coder" "B", .code IsL.yN IsL.yB 1 (some .boolean), .methodLink ST 492 IsL.yN, .declares IsL.yN, .selects ST IsL.yN IsL.yN, .instanceMethod IsL.yN,
  .methodLink ST 495 LChA.yN, .static LChA.yN, .code LChA.yN LChA.yB 2 (some .char), .initialized "java/lang/StringLatin1", .methodLink "java/lang/StringLatin1" 9 JO.Str_checkIndex.yN, .static JO.Str_checkIndex.yN, .code JO.Str_checkIndex.yN JO.Str_checkIndex.yB 2 none,
  .fieldLink ST 1053 "jdk/internal/util/Preconditions" "SIOOBE_FORMATTER" "Ljava/util/function/BiFunction;", .methodLink ST 1059 JC.PreCheck.yN, .static JC.PreCheck.yN, .code JC.PreCheck.yN JC.PreCheck.yB 3 (some .int), .initialized "jdk/internal/util/Preconditions"]
theorem tabChN_of {a : Array Value} {s : State} (h : ∀ w ∈ wordsChN, w.before a s = true) : ChN.tab.before a s = true := by
  have hp : JC.PreCheck.tab.before a s = true := unparts (wk h (.code JC.PreCheck.yN JC.PreCheck.yB 3 (some .int))) (wks h (.initialized JC.PreCheck.yN.cls :: JC.PreCheck.site))
  have qk := consq hp h
  have hk : JO.Str_checkIndex.tab.before a s = true := unparts (wk qk (.code JO.Str_checkIndex.yN JO.Str_checkIndex.yB 2 none)) (wks qk (.initialized JO.Str_checkIndex.yN.cls :: JO.Str_checkIndex.site))
  have ql := consq hk h
  have hl : LChA.tab.before a s = true := unparts (wk ql (.code LChA.yN LChA.yB 2 (some .char))) (wks ql (.initialized LChA.yN.cls :: LChA.site))
  have hi : IsL.tab.before a s = true := unparts (wk h (.code IsL.yN IsL.yB 1 (some .boolean))) (wks h (.initialized IsL.yN.cls :: IsL.site))
  have q := consq hi (consq hl h)
  exact unparts (wk q (.code ChN.yN ChN.yB 2 (some .char))) (wks q (.initialized ChN.yN.cls :: ChN.site))
theorem movedChN {Z s : State} {a0 args : Array Value} (hZ : Z.Warmed39 s.vm) (hw : ∀ d ∈ wordsChN, d.before a0 Z = true) : ∀ d ∈ wordsChN, d.before args s = true := fun d hd => by
  have t : ∀ d ∈ wordsChN, (d.onTables && d.keepsFace) = true := by decide +kernel
  exact RoadKit.mv hZ (hw d hd) (t d hd)
/-- **charAt(i) OF A LATIN-1 STRING**, i < n: the char -/
theorem chN {p : Program} {l : Launch} {e : Env} {R : Room} {s : State} {args : Array Value} {below : List Frame} {len W : Nat} {Z : State} {a0 : Array Value} {h : Heap} (hZ : Z.Warmed39 s.vm) (hw : ∀ d ∈ wordsChN, d.before a0 Z = true) {kI : Nat} (wi : (Jvm.Cond.instantiable ST kI).before a0 Z = true)
    {x t : Addr} {kb : ClassId} {cs : List Int32} {N2 z : Int32} {vs : List Value} {fm : Value} {i : Nat} {j : Int32} (E : RoadKit.Exa Z h x ST) (V : RoadKit.Fld Z h x ST "value" "[B" (.ref t)) (C : RoadKit.Fld Z h x ST "coder" "B" (.int 0)) (K : RoadKit.Arv Z h t kb .byte N2 vs (.int 0)) (hc : CodA cs 0 N2 vs) (hb : ∀ c ∈ cs, ¬ c < 0 ∧ ¬ (65535 : Int32) < c)
    (S : RoadKit.Sta Z h ST "COMPACT_STRINGS" "Z" (.int z)) (hz : ¬ z = 0) (F : RoadKit.Sta Z h "jdk/internal/util/Preconditions" "SIOOBE_FORMATTER" "Ljava/util/function/BiFunction;" fm) (rf : fm.isRef = true) (l2 : cs.length ≤ 4000) (hi : i < cs.length) (hj : j = Int32.ofNat i) (hfr : 4 ≤ R.frames) (hlo : W + 53 ≤ R.locals) :
    Back l R p e below s args (⟨"java/lang/String", "charAt", "(I)C"⟩ : MethodName) len W (fun P a => a = #[.ref x, .int j] ∧ P.U.heap = h ∧ P.cells + 0 ≤ R.cells ∧ P.slots + 0 ≤ R.slots)
      (fun P _ v B => ∃ L, (v = some (.int (cs.getD i 0)) ∧ L = [] ∧ B.U.heap = h) ∧ B.locs = P.locs ++ L ∧ B.cells = P.cells + 0 ∧ B.slots = P.slots + 0) := by
  subst hj
  intro m meth c P g ig mk a X hg hsize hdg hW hn hp'
  obtain ⟨rfl, rfl, r1, r2⟩ := hp'
  have al : Z.vm.Alike P.U.vm := hZ.alike.trans X.warmed.alike
  obtain ⟨A, hx⟩ := txt_of wi al E V C K hc hb l2
  obtain ⟨v, B, X', ⟨⟨hv, hh⟩, hl, hk, hs⟩, st⟩ := ChN.pays x t A cs.length (fun j => cs.getD j 0) z fm i (tabChN_of (movedChN hZ hw)) hfr hlo m meth c P g ig mk _ X hg hsize hdg hW hn ⟨r1, r2, rfl, hx, hi, sta_is al S, hz, sta_is al F, rf⟩
  exact ⟨v, B, X', ⟨[], ⟨hv, rfl, hh⟩, hl, hk, hs⟩, st⟩
/-- what backV says of its String, as the contracts of this text ask it: cs's low bytes, coder 0 -/
theorem codOf {cs : List Int32} {n : Nat} (hn : cs.length = n) (hb : ∀ c ∈ cs, ¬ 255 < c) : CodA cs 0 (Int32.ofNat n) ((cs.map lo8).map Value.int) := Or.inl ⟨rfl, by rw [hn], by simp [List.map_map, Function.comp_def], hb⟩
end StrChars.Road
end Jvm.Pilot.@@N@@
namespace Jvm.Pilot.@@N@@
open Jvm Jvm.ClassFile Sem Op Lib Jvm.Free Jvm.Stand Jvm.LawKit Jvm.RoadKit Bundle Jvm.Pilot.@@N@@.Jvm.D
section OwnKit
variable {p : Program} {l : Launch} {e : Env} {R : Room} {s : State} {m : MethodId} {args : Array Value} {below : List Frame} {meth : Method} {c : Code} {T T' : State} {Z : State} {a0 : Array Value} {h h' h2 : Heap} {k n k' n' : Nat} {Φ : Outcome → State → Prop} {Q : Option Value → Heap → Prop}
theorem nle {a b : Nat} (h : Nat.ble a b = true) : a ≤ b := Nat.le_of_ble_eq_true h
/-- from here the run returns, and what it leaves is as Φ says -/
def Ends (p : Program) (e : Env) (below : List Frame) (Φ : Outcome → State → Prop) (T : State) (f : JFrame) : Prop :=
  ∃ s₂ o, Steps p.tables e below (T.setTop f) s₂ ∧ s₂.status = .running ∧ Ended s₂ below o ∧ Φ o s₂
theorem Ends.go {f f' : JFrame} (st : ∀ t, Steps p.tables e below (T'.setTop f') t → Steps p.tables e below (T.setTop f) t) (K : Ends p e below Φ T' f') : Ends p e below Φ T f := by
  obtain ⟨s₂, o, h1, h2⟩ := K; exact ⟨s₂, o, st _ h1, h2⟩
theorem Ends.mono {f : JFrame} {Ψ : Outcome → State → Prop} (K : Ends p e below Φ T f) (q : ∀ o u, Φ o u → Ψ o u) : Ends p e below Ψ T f := by
  obtain ⟨s₂, o, h1, h2, h3, h4⟩ := K; exact ⟨s₂, o, h1, h2, h3, q _ _ h4⟩
/-- where a walk stands -/
def Now (p : Program) (l : Launch) (e : Env) (R : Room) (s : State) (m : MethodId) (args : Array Value) (below : List Frame) (meth : Method) (c : Code) (Z : State) (T : State) (h : Heap) (k n : Nat) : Prop :=
  ∃ locs, Stand p l e R s m args below meth c T locs k n ∧ T.heap = h ∧ Fr Z.heap.size locs ∧ Ext Z.heap s.heap
theorem Now.here (N : Now p l e R s m args below meth c Z T h k n) : At T m c below := by obtain ⟨_, X, _⟩ := N; exact X.here
theorem Now.ext (N : Now p l e R s m args below meth c Z T h k n) : Ext Z.heap h := by
  obtain ⟨L, X, eT, F, q⟩ := N
  obtain ⟨-, h1, -, -, -, h2⟩ := X.same
  have h1 : s.heap.size ≤ T.heap.size := h1
  subst eT
  refine ⟨Nat.le_trans q.1 h1, fun a cl hc => ?_⟩
  have hlt : a < Z.heap.size := (Array.getElem?_eq_some_iff.mp hc).1
  obtain ⟨c', e1, e2, e3, e4⟩ := h2 a cl (q.2 a cl hc)
  have e5 : c'.slots = cl.slots := Array.ext_getElem? fun i => e4 i fun hm => absurd hlt (Nat.not_lt.mpr (F _ hm))
  have e6 : c' = cl := by rw [e2, e5]
  rw [← e6]; exact e1
theorem Now.le (N : Now p l e R s m args below meth c Z T h k n) : Z.heap.size ≤ h.size := N.ext.1
theorem Now.le0 (N : Now p l e R s m args below meth c Z T h k n) : s.heap.size ≤ h.size := by
  obtain ⟨_, X, eT, _, q⟩ := N
  have r : s.heap.size ≤ T.heap.size := X.same.2.1
  rw [eT] at r; exact r
theorem Now.mono (N : Now p l e R s m args below meth c Z T h k n) (hk : k ≤ k') (hn : n ≤ n') : Now p l e R s m args below meth c Z T h k' n' := by
  obtain ⟨L, X, r⟩ := N; exact ⟨L, X.more hk hn, r⟩
/-- what a narrow contract promises -/
def PhiN (Z s : State) (Q : Option Value → Heap → Prop) (K N : Nat) : Outcome → State → Prop := fun o u => ∃ v L, o = .returned v ∧ (Q v u.heap ∧ Fr Z.heap.size L) ∧ FrameEnd s o u L K N
def MetN (l : Launch) (Z : State) (y : MethodName) (bytes : ByteArray) (maxL : Nat) (ret : Option FieldType) (ws : List Jvm.Cond) (rm : Room) (as' : Array Value) (h : Heap) (Q : Option Value → Heap → Prop) : Prop :=
  MetFree l y (head1 (Jvm.Cond.code y bytes maxL ret :: ws) rm) (fun a U => a = as' ∧ Z.Warmed39 U.vm ∧ U.heap = h) (fun _ _ _ _ _ => True) (fun _ U o U' => ∃ v L, o = .returned v ∧ (Q v U'.heap ∧ Fr Z.heap.size L) ∧ FrameEnd U o U' L rm.cells rm.slots)
theorem metN {y : MethodName} {bytes : ByteArray} {maxL : Nat} {ret : Option FieldType} {ws : List Jvm.Cond} {rm : Room} {as' : Array Value} {Ls : Array Slot} (hpl : plainFor y = true) (hn0 : Ext Z.heap h) (ef : ∀ m, entryFrame m as' maxL = mkF m 0 Ls [])
    (walk : ∀ (p : Program) (e : Env) (s : State) (m : MethodId) (below : List Frame) (meth : Method) (c : Code) (T : State), p.tables.exec = Jvm.exec → c.code = bytes → c.maxLocals = maxL → meth.sig.returnType = ret → meth.locks = false → s.vm.findClass y.cls = some m.cls → meth.name = y.name → Z.Warmed39 s.vm →
      Now p l e rm s m as' below meth c Z T h 0 0 → Ends p e below (PhiN Z s Q rm.cells rm.slots) T (mkF m 0 Ls [])) : MetN l Z y bytes maxL ret ws rm as' h Q := by
  refine MetFree.of_bodySF hpl hisR ?_
  intro p e s m args below meth c s₁ Bd hml0 hP hK
  obtain ⟨rfl, hZ, hh⟩ := hP
  have e0 : s₁.heap = h := by rw [← hh, Bd.state]; rfl
  have W := walk p e s m below meth c s₁ Bd.exec Bd.bytes hml0 Bd.returns Bd.notSynchronized (findClass_of_methodNamed Bd.named) (name_of_methodNamed Bd.named Bd.method).1 hZ ⟨[], Stand.of_body Bd, e0, Fr.nil _, hh ▸ hn0⟩
  rw [← ef] at W
  exact W
/-- the end of a narrow walk -/
theorem endN {v : Option Value} {f : JFrame} {K M : Nat} (N : Now p l e R s m args below meth c Z T h k n) (hlocks : meth.locks = false) (hv : meth.sig.returnType = none → v = none)
    (st : ∀ (locs : List Loc), Stand p l e R s m args below meth c T locs k n → ∀ fs, (∀ (f : JFrame) (acts : List Action), f.method = m → f.locked = none → f.entered = [] → (doReturn e (T.setTop f) acts v).1 = T.setFrames fs) → Steps p.tables e below (T.setTop f) (T.setFrames fs)) (hQ : Q v h) (hk : k ≤ K) (hn : n ≤ M) :
    Ends p e below (PhiN Z s Q K M) T f := by
  obtain ⟨L, X, eT, F, _⟩ := N
  obtain ⟨fs, hr, hrun, hended, hW, hsame⟩ := X.leave hv hlocks
  refine ⟨_, _, st L X fs hr, hrun, hended, _, L, rfl, ⟨?_, F⟩, ⟨_, rfl⟩, hW, hsame.mono hk hn⟩
  show Q v T.heap
  rw [eT]; exact hQ
section Ret
variable {pc : Nat} {Ls : Array Slot} {rest : List Value} {K M : Nat}
theorem retI {z : Int32} (N : Now p l e R s m args below meth c Z T h k n) (hx : p.tables.exec = Jvm.exec) (hlocks : meth.locks = false) (hret : meth.sig.returnType = some .int) (hd : decode c.code pc = .ok (.ireturn, 1)) (hQ : Q (some (.int z)) h) (hk : k ≤ K) (hn : n ≤ M) :
    Ends p e below (PhiN Z s Q K M) T (mkF m pc Ls (.int z :: rest)) :=
  endN N hlocks (fun q => by rw [hret] at q; cases q) (fun L X fs hr => retOut X hx hret rfl (Or.inl ⟨rfl, Or.inl rfl, z, rfl⟩) hd hr) hQ hk hn
theorem retJ {z : Int64} (N : Now p l e R s m args below meth c Z T h k n) (hx : p.tables.exec = Jvm.exec) (hlocks : meth.locks = false) (hret : meth.sig.returnType = some .long) (hd : decode c.code pc = .ok (.lreturn, 1)) (hQ : Q (some (.long z)) h) (hk : k ≤ K) (hn : n ≤ M) :
    Ends p e below (PhiN Z s Q K M) T (mkF m pc Ls (.long z :: rest)) :=
  endN N hlocks (fun q => by rw [hret] at q; cases q) (fun L X fs hr => retOut X hx hret rfl (Or.inr (Or.inl ⟨rfl, rfl, z, rfl⟩)) hd hr) hQ hk hn
theorem retA {v : Value} {t : FieldType} (N : Now p l e R s m args below meth c Z T h k n) (hx : p.tables.exec = Jvm.exec) (hlocks : meth.locks = false) (hret : meth.sig.returnType = some t) (ht : t.isReference = true) (hv : v.isRef = true) (hd : decode c.code pc = .ok (.areturn, 1)) (hQ : Q (some v) h) (hk : k ≤ K) (hn : n ≤ M) :
    Ends p e below (PhiN Z s Q K M) T (mkF m pc Ls (v :: rest)) :=
  endN N hlocks (fun q => by rw [hret] at q; cases q) (fun L X fs hr => retOut X hx hret (by cases v <;> first | (cases hv; done) | (cases t <;> first | (cases ht; done) | rfl)) (Or.inr (Or.inr (Or.inr (Or.inr ⟨rfl, ht, hv⟩)))) hd hr) hQ hk hn
theorem retZ {z : Int32} {t : FieldType} (N : Now p l e R s m args below meth c Z T h k n) (hx : p.tables.exec = Jvm.exec) (hlocks : meth.locks = false) (hret : meth.sig.returnType = some t) (ht : t = .boolean ∨ t = .byte ∨ t = .char ∨ t = .short) (hd : decode c.code pc = .ok (.ireturn, 1)) (hQ : Q (some (.int (nar t z))) h) (hk : k ≤ K) (hn : n ≤ M) :
    Ends p e below (PhiN Z s Q K M) T (mkF m pc Ls (.int z :: rest)) :=
  endN N hlocks (fun q => by rw [hret] at q; cases q) (fun L X fs hr => retN X hx hret ht hd hr) hQ hk hn
theorem retV (N : Now p l e R s m args below meth c Z T h k n) (hx : p.tables.exec = Jvm.exec) (hlocks : meth.locks = false) (hret : meth.sig.returnType = none) (hd : decode c.code pc = .ok (.return_, 1)) (hQ : Q none h) (hk : k ≤ K) (hn : n ≤ M) :
    Ends p e below (PhiN Z s Q K M) T (mkF m pc Ls []) :=
  endN N hlocks (fun _ => rfl) (fun L X fs hr => X.returnOut hx hret hd hr) hQ hk hn
end Ret
section Heap
variable {pc : Nat} {Ls : Array Slot} {st rest : List Value}
theorem gIrem {x y : Int32} {t : State} (N : Now p l e R s m args below meth c Z T h k n) (hx : p.tables.exec = Jvm.exec) (hd : decode c.code pc = .ok (.irem, 1)) (hy : y ≠ 0)
    (q : Steps p.tables e below (T.setTop (mkF m (pc + 1) Ls (.int (x % y) :: rest))) t) : Steps p.tables e below (T.setTop (mkF m pc Ls (.int y :: .int x :: rest))) t := by
  obtain ⟨L, X, _⟩ := N
  exact iremM X hx (g := mkF m pc Ls (.int y :: .int x :: rest)) rfl hd rfl hy q
/-- new C -/
theorem gNew {own C : String} {index q : Nat} (N : Now p l e R s m args below meth c Z T h k n) (hx : p.tables.exec = Jvm.exec) (hZ : Z.Warmed39 s.vm) (hown : s.vm.findClass own = some m.cls)
    (w : (Jvm.Cond.classLink own index C).before a0 Z = true) (wi : (Jvm.Cond.instantiable C q).before a0 Z = true) (wz : (Jvm.Cond.initialized C).before a0 Z = true) (hd : decode c.code pc = .ok (.new index, 3)) (hc : k + 1 ≤ R.cells) (hl : n + q ≤ R.slots)
    (K : ∀ T' h' a, a = h.size → Now p l e R s m args below meth c Z T' h' (k + 1) (n + q) → Ext h h' → Exa Z h' a C → (∀ {O nm d : String} {ty : FieldType}, Laid Z a0 C O nm d → parseFieldDescriptor d = some ty → Fld Z h' a O nm d (defaultValue ty)) → Ends p e below Φ T' (mkF m (pc + 3) Ls (.ref a :: st))) :
    Ends p e below Φ T (mkF m pc Ls st) := by
  obtain ⟨L, X, eT, F, hn0⟩ := N
  obtain ⟨T1, h1, X1, e1, E1, A1, D1, -, st1⟩ := newO X hx hZ hown w wi wz eT (g := mkF m pc Ls st) rfl hd hc hl
  exact Ends.go st1 (K T1 h1 h.size rfl ⟨L, X1, e1, F, hn0⟩ E1 A1 D1)
/-- newarray -/
theorem gArr {aty : ArrayType} {z : Int32} (cap : Nat) (N : Now p l e R s m args below meth c Z T h k n) (hx : p.tables.exec = Jvm.exec) (hZ : Z.Warmed39 s.vm) (w : (Jvm.Cond.arrayClass (newarray.typeOf aty)).before a0 Z = true) (hd : decode c.code pc = .ok (.newarray aty, 2)) (hz : ¬ z < 0)
    (hcap : z.toNatClampNeg ≤ cap) (hb : cap * 8 ≤ 536870912) (hc : k + 1 ≤ R.cells) (hl : n + cap ≤ R.slots)
    (K : ∀ T' h' a kA, a = h.size → Now p l e R s m args below meth c Z T' h' (k + 1) (n + cap) → Ext h h' → Arv Z h' a kA (newarray.typeOf aty) z [] (defaultValue (newarray.typeOf aty)) → Ends p e below Φ T' (mkF m (pc + 2) Ls (.ref a :: rest))) :
    Ends p e below Φ T (mkF m pc Ls (.int z :: rest)) := by
  obtain ⟨L, X, eT, F, hn0⟩ := N
  obtain ⟨T1, h1, kA, X1, e1, E1, A1, st1⟩ := newP X hx hZ w eT (g := mkF m pc Ls (.int z :: rest)) rfl hd rfl hz hcap hb hc hl
  exact Ends.go st1 (K T1 h1 h.size kA rfl ⟨L, X1, e1, F, hn0⟩ E1 (Arv.new A1 hz))
/-- castore into a known array -/
theorem gStC {a : Addr} {kA : ClassId} {z j x : Int32} {vs : List Value} {d : Value} (i : Nat) (N : Now p l e R s m args below meth c Z T h k n) (hx : p.tables.exec = Jvm.exec) (hZ : Z.Warmed39 s.vm) (V : Arv Z h a kA .char z vs d) (ha : Z.heap.size ≤ a) (hj : ¬ j < 0 ∧ j < z) (hi : j.toNatClampNeg = i) (hil : i < vs.length) (hd : decode c.code pc = .ok (.castore, 1))
    (K : ∀ T' h', Now p l e R s m args below meth c Z T' h' k n → Wr h h' a j.toNatClampNeg (.int (nar .char x)) → Arv Z h' a kA .char z (vs.set i (.int (nar .char x))) d → Ends p e below Φ T' (mkF m (pc + 1) Ls rest)) :
    Ends p e below Φ T (mkF m pc Ls (.int x :: .int j :: .ref a :: rest)) := by
  obtain ⟨L, X, eT, F, hn0⟩ := N
  obtain ⟨cl, A, q, S, M, H, U⟩ := V
  obtain ⟨T1, h1, X1, e1, W1, st1⟩ := stC X hx hZ eT A (j := j) (x := x) (inb_of S hj) (g := mkF m pc Ls (.int x :: .int j :: .ref a :: rest)) rfl rfl hd
  exact Ends.go st1 (K T1 h1 ⟨_, X1, e1, Fr.snoc X1 F ha, hn0⟩ W1 (Arv.set A q S M H U (fits_nar_char _) W1 i hi hil))
/-- getfield -/
theorem gGet {own R0 O nm d host : String} {index : Nat} {a : Addr} {v : Value} (N : Now p l e R s m args below meth c Z T h k n) (hx : p.tables.exec = Jvm.exec) (hZ : Z.Warmed39 s.vm) (hown : s.vm.findClass own = some m.cls)
    (w : (Jvm.Cond.fieldLink own index R0 nm d).before a0 Z = true ∨ (Jvm.Cond.fieldLinkNest own index R0 nm d host).before a0 Z = true) (via : Via Z R0 O nm d) (Fv : Fld Z h a O nm d v) (hd : decode c.code pc = .ok (.getfield index, 3))
    (K : ∀ T', Now p l e R s m args below meth c Z T' h k n → Ends p e below Φ T' (mkF m (pc + 3) Ls (v :: rest))) :
    Ends p e below Φ T (mkF m pc Ls (.ref a :: rest)) := by
  obtain ⟨L, X, eT, F, hn0⟩ := N
  obtain ⟨T1, X1, e1, st1⟩ := getF X hx hZ hown w via eT Fv (g := mkF m pc Ls (.ref a :: rest)) rfl rfl hd
  exact Ends.go st1 (K T1 ⟨_, X1, e1, F, hn0⟩)
/-- putfield -/
theorem gPut {own R0 O nm d host C : String} {index kk : Nat} {ty : FieldType} {a : Addr} {v old : Value} (N : Now p l e R s m args below meth c Z T h k n) (hx : p.tables.exec = Jvm.exec) (hZ : Z.Warmed39 s.vm) (hown : s.vm.findClass own = some m.cls)
    (w : (Jvm.Cond.fieldLink own index R0 nm d).before a0 Z = true ∨ (Jvm.Cond.fieldLinkNest own index R0 nm d host).before a0 Z = true) (via : Via Z R0 O nm d) (Fv : Fld Z h a O nm d old) (E : Exa Z h a C) (ha : Z.heap.size ≤ a)
    (L0 : (Jvm.Cond.lays C O nm d).before a0 Z = true ∨ ((Jvm.Cond.laysFinal C O nm d).before a0 Z = true ∧ own = O ∧ meth.name = "<init>")) (wi : (Jvm.Cond.instantiable C kk).before a0 Z = true) (hty : parseFieldDescriptor d = some ty) (hnr : narrow ty v = v) (hf : fits ty v = true) (hd : decode c.code pc = .ok (.putfield index, 3))
    (K : ∀ T' h', Now p l e R s m args below meth c Z T' h' k n → Wr h h' a (RoadKit.slotOf Z O nm d) v → Fld Z h' a O nm d v → Exa Z h' a C → Ends p e below Φ T' (mkF m (pc + 3) Ls rest)) :
    Ends p e below Φ T (mkF m pc Ls (v :: .ref a :: rest)) := by
  obtain ⟨L, X, eT, F, hn0⟩ := N
  obtain ⟨T1, h1, X1, e1, W1, st1⟩ := putF X hx hZ hown w via eT Fv E L0 wi hty hnr hf (g := mkF m pc Ls (v :: .ref a :: rest)) rfl rfl hd
  exact Ends.go st1 (K T1 h1 ⟨_, X1, e1, Fr.snoc X1 F ha, hn0⟩ W1 (Fv.same W1) (E.wr W1))
/-- getstatic -/
theorem gSta {own R0 O nm d : String} {index : Nat} {v : Value} (N : Now p l e R s m args below meth c Z T h k n) (hx : p.tables.exec = Jvm.exec) (hZ : Z.Warmed39 s.vm) (hown : s.vm.findClass own = some m.cls)
    (w : (Jvm.Cond.fieldLink own index R0 nm d).before a0 Z = true) (via : Via Z R0 O nm d) (Fv : Sta Z h O nm d v) (hd : decode c.code pc = .ok (.getstatic index, 3))
    (K : ∀ T', Now p l e R s m args below meth c Z T' h k n → Ends p e below Φ T' (mkF m (pc + 3) Ls (v :: st))) :
    Ends p e below Φ T (mkF m pc Ls st) := by
  obtain ⟨L, X, eT, F, hn0⟩ := N
  obtain ⟨T1, X1, e1, st1⟩ := getS (host := "") X hx hZ hown w via eT Fv (g := mkF m pc Ls st) rfl hd
  exact Ends.go st1 (K T1 ⟨_, X1, e1, F, hn0⟩)
/-- Object.<init> -/
theorem gInitO {own : String} {index : Nat} {a : Addr} (W : Nat) (N : Now p l e R s m args below meth c Z T h k n) (hx : p.tables.exec = Jvm.exec) (hZ : Z.Warmed39 s.vm) (hown : s.vm.findClass own = some m.cls)
    (w1 : (Jvm.Cond.methodLink own index Lib.objectInit).before a0 Z = true) (w2 : (Jvm.Cond.instanceMethod Lib.objectInit).before a0 Z = true) (w3 : (Jvm.Cond.code Lib.objectInit ⟨#[0xb1]⟩ 1 none).before a0 Z = true) (hd : decode c.code pc = .ok (.invokespecial index, 3)) (hsize : Ls.size = c.maxLocals) (hf : 1 ≤ R.frames) (hW : (rest.map fun v => v.category).sum ≤ W) (hl : W + 12 ≤ R.locals)
    (K : ∀ T', Now p l e R s m args below meth c Z T' h k n → Ends p e below Φ T' (mkF m (pc + 3) Ls rest)) :
    Ends p e below Φ T (mkF m pc Ls (.ref a :: rest)) := by
  obtain ⟨L, X, eT, F, hn0⟩ := N
  obtain ⟨T1, X1, e1, st1⟩ := initO X hx hZ hown w1 w2 w3 eT (g := mkF m pc Ls (.ref a :: rest)) rfl hsize rfl hd hf (W := W) (by show 2 * 0 + _ ≤ _; omega) hl
  exact Ends.go st1 (K T1 ⟨_, X1, e1, F, hn0⟩)
/-- ldc of an int -/
theorem gLdcI {own : String} {index : Nat} {v : Int32} (N : Now p l e R s m args below meth c Z T h k n) (hx : p.tables.exec = Jvm.exec) (hZ : Z.Warmed39 s.vm) (hown : s.vm.findClass own = some m.cls) (w : (Jvm.Cond.constant own index v).before a0 Z = true) (hd : decode c.code pc = .ok (.ldc index, 2))
    (K : Ends p e below Φ T (mkF m (pc + 2) Ls (.int v :: st))) : Ends p e below Φ T (mkF m pc Ls st) := by
  obtain ⟨L, X, eT, F, hn0⟩ := N
  exact Ends.go (fun t q => X.ldcI hx hown (mv hZ w) (g := mkF m pc Ls st) rfl hd q) K
theorem gLdcJ {own : String} {index : Nat} {v : Int64} (N : Now p l e R s m args below meth c Z T h k n) (hx : p.tables.exec = Jvm.exec) (hZ : Z.Warmed39 s.vm) (hown : s.vm.findClass own = some m.cls) (w : (Jvm.Cond.constantLong own index v).before a0 Z = true) (hd : decode c.code pc = .ok (.ldc2_w index, 3))
    (K : Ends p e below Φ T (mkF m (pc + 3) Ls (.long v :: st))) : Ends p e below Φ T (mkF m pc Ls st) := by
  obtain ⟨L, X, eT, F, hn0⟩ := N
  exact Ends.go (fun t q => X.ldc2J hx hown (mv hZ w) (g := mkF m pc Ls st) rfl hd q) K
/-- arraylength -/
theorem gLen {a : Addr} {kA : ClassId} {ty : FieldType} {z : Int32} {vs : List Value} {d : Value} (N : Now p l e R s m args below meth c Z T h k n) (hx : p.tables.exec = Jvm.exec) (hZ : Z.Warmed39 s.vm) (V : Arv Z h a kA ty z vs d) (hd : decode c.code pc = .ok (.arraylength, 1))
    (K : Ends p e below Φ T (mkF m (pc + 1) Ls (.int z :: rest))) : Ends p e below Φ T (mkF m pc Ls (.ref a :: rest)) := by
  obtain ⟨L, X, eT, F, hn0⟩ := N
  obtain ⟨cl, A, q, S, M, H, U⟩ := V
  rw [← len_of S M] at K
  exact Ends.go (fun t q => X.arraylength hx (by rw [eT]; exact A.1) (State.isArrayOf_alike hZ.alike A.2.1) (g := mkF m pc Ls (.ref a :: rest)) rfl rfl hd t q) K
theorem gLdC {a : Addr} {kA : ClassId} {z j : Int32} {vs : List Value} {d v : Value} (N : Now p l e R s m args below meth c Z T h k n) (hx : p.tables.exec = Jvm.exec) (hZ : Z.Warmed39 s.vm) (V : Arv Z h a kA .char z vs d) (hj : ¬ j < 0 ∧ j < z) (hv : vs.getD j.toNatClampNeg d = v) (hd : decode c.code pc = .ok (.caload, 1))
    (K : Ends p e below Φ T (mkF m (pc + 1) Ls (v :: rest))) : Ends p e below Φ T (mkF m pc Ls (.int j :: .ref a :: rest)) := by
  obtain ⟨L, X, eT, F, hn0⟩ := N
  obtain ⟨cl, A, q, S, M, H, U⟩ := V
  exact Ends.go (fun t q => X.caload hx (by rw [eT]; exact A.1) (State.isArrayOf_alike hZ.alike A.2.1) A.2.2 (inb_of S hj) (H.at (inb_of S hj) hv) (g := mkF m pc Ls (.int j :: .ref a :: rest)) rfl rfl hd t q) K
theorem gLdJ {a : Addr} {kA : ClassId} {z j : Int32} {vs : List Value} {d v : Value} (N : Now p l e R s m args below meth c Z T h k n) (hx : p.tables.exec = Jvm.exec) (hZ : Z.Warmed39 s.vm) (V : Arv Z h a kA .long z vs d) (hj : ¬ j < 0 ∧ j < z) (hv : vs.getD j.toNatClampNeg d = v) (hd : decode c.code pc = .ok (.laload, 1))
    (K : Ends p e below Φ T (mkF m (pc + 1) Ls (v :: rest))) : Ends p e below Φ T (mkF m pc Ls (.int j :: .ref a :: rest)) := by
  obtain ⟨L, X, eT, F, hn0⟩ := N
  obtain ⟨cl, A, q, S, M, H, U⟩ := V
  exact Ends.go (fun t q => X.laload hx (by rw [eT]; exact A.1) (State.isArrayOf_alike hZ.alike A.2.1) A.2.2 (inb_of S hj) (H.at (inb_of S hj) hv) (g := mkF m pc Ls (.int j :: .ref a :: rest)) rfl rfl hd t q) K
theorem gLdB {a : Addr} {kA : ClassId} {z j : Int32} {vs : List Value} {d v : Value} (N : Now p l e R s m args below meth c Z T h k n) (hx : p.tables.exec = Jvm.exec) (hZ : Z.Warmed39 s.vm) (V : Arv Z h a kA .byte z vs d) (hj : ¬ j < 0 ∧ j < z) (hv : vs.getD j.toNatClampNeg d = v) (hd : decode c.code pc = .ok (.baload, 1))
    (K : Ends p e below Φ T (mkF m (pc + 1) Ls (v :: rest))) : Ends p e below Φ T (mkF m pc Ls (.int j :: .ref a :: rest)) := by
  obtain ⟨L, X, eT, F, hn0⟩ := N
  obtain ⟨cl, A, q, S, M, H, U⟩ := V
  exact Ends.go (fun t q => X.baloadBytes hx (by rw [eT]; exact A.1) (State.isArrayOf_alike hZ.alike A.2.1) A.2.2 (inb_of S hj) (H.at (inb_of S hj) hv) (g := mkF m pc Ls (.int j :: .ref a :: rest)) rfl rfl hd t q) K
theorem gLdI {a : Addr} {kA : ClassId} {z j : Int32} {vs : List Value} {d v : Value} (N : Now p l e R s m args below meth c Z T h k n) (hx : p.tables.exec = Jvm.exec) (hZ : Z.Warmed39 s.vm) (V : Arv Z h a kA .int z vs d) (hj : ¬ j < 0 ∧ j < z) (hv : vs.getD j.toNatClampNeg d = v) (hd : decode c.code pc = .ok (.iaload, 1))
    (K : Ends p e below Φ T (mkF m (pc + 1) Ls (v :: rest))) : Ends p e below Φ T (mkF m pc Ls (.int j :: .ref a :: rest)) := by
  obtain ⟨L, X, eT, F, hn0⟩ := N
  obtain ⟨cl, A, q, S, M, H, U⟩ := V
  exact Ends.go (fun t q => X.iaload hx (by rw [eT]; exact A.1) (State.isArrayOf_alike hZ.alike A.2.1) A.2.2 (inb_of S hj) (H.at (inb_of S hj) hv) (g := mkF m pc Ls (.int j :: .ref a :: rest)) rfl rfl hd t q) K
theorem gLdA {a : Addr} {kA : ClassId} {ty : FieldType} {z j : Int32} {vs : List Value} {d v : Value} (N : Now p l e R s m args below meth c Z T h k n) (hx : p.tables.exec = Jvm.exec) (hZ : Z.Warmed39 s.vm) (V : Arv Z h a kA ty z vs d) (hty : ty.isReference = true) (hj : ¬ j < 0 ∧ j < z) (hv : vs.getD j.toNatClampNeg d = v) (hd : decode c.code pc = .ok (.aaload, 1))
    (K : Ends p e below Φ T (mkF m (pc + 1) Ls (v :: rest))) : Ends p e below Φ T (mkF m pc Ls (.int j :: .ref a :: rest)) := by
  obtain ⟨L, X, eT, F, hn0⟩ := N
  obtain ⟨cl, A, q, S, M, H, U⟩ := V
  exact Ends.go (fun t q => X.aaload hx (by rw [eT]; exact A.1) (State.isArrayOf_alike hZ.alike A.2.1) hty A.2.2 (inb_of S hj) (H.at (inb_of S hj) hv) (g := mkF m pc Ls (.int j :: .ref a :: rest)) rfl rfl hd t q) K
/-- checkcast, instanceof: yes; of null -/
theorem gCast {own K0 : String} {index : Nat} {a : Addr} (N : Now p l e R s m args below meth c Z T h k n) (hx : p.tables.exec = Jvm.exec) (hZ : Z.Warmed39 s.vm) (hown : s.vm.findClass own = some m.cls) (w : (Jvm.Cond.classLink own index K0).before a0 Z = true) (I : Ins Z h a K0 true) (hd : decode c.code pc = .ok (.checkcast index, 3))
    (K : ∀ T', Now p l e R s m args below meth c Z T' h k n → Ends p e below Φ T' (mkF m (pc + 3) Ls (.ref a :: rest))) : Ends p e below Φ T (mkF m pc Ls (.ref a :: rest)) := by
  obtain ⟨L, X, eT, F, hn0⟩ := N
  obtain ⟨T1, X1, e1, st1⟩ := castY X hx hZ hown w eT I (g := mkF m pc Ls (.ref a :: rest)) rfl rfl hd
  exact Ends.go st1 (K T1 ⟨_, X1, e1, F, hn0⟩)
theorem gInst {own K0 : String} {index : Nat} {a : Addr} (N : Now p l e R s m args below meth c Z T h k n) (hx : p.tables.exec = Jvm.exec) (hZ : Z.Warmed39 s.vm) (hown : s.vm.findClass own = some m.cls) (w : (Jvm.Cond.classLink own index K0).before a0 Z = true) (I : Ins Z h a K0 true) (hd : decode c.code pc = .ok (.instanceof index, 3))
    (K : ∀ T', Now p l e R s m args below meth c Z T' h k n → Ends p e below Φ T' (mkF m (pc + 3) Ls (.int 1 :: rest))) : Ends p e below Φ T (mkF m pc Ls (.ref a :: rest)) := by
  obtain ⟨L, X, eT, F, hn0⟩ := N
  obtain ⟨T1, X1, e1, st1⟩ := instY X hx hZ hown w eT I (g := mkF m pc Ls (.ref a :: rest)) rfl rfl hd
  exact Ends.go st1 (K T1 ⟨_, X1, e1, F, hn0⟩)
theorem gCastN {index : Nat} (N : Now p l e R s m args below meth c Z T h k n) (hx : p.tables.exec = Jvm.exec) (hd : decode c.code pc = .ok (.checkcast index, 3)) (K : Ends p e below Φ T (mkF m (pc + 3) Ls (.null :: rest))) : Ends p e below Φ T (mkF m pc Ls (.null :: rest)) := by
  obtain ⟨L, X, eT, F, hn0⟩ := N
  exact Ends.go (X.checkcastNull hx (g := mkF m pc Ls (.null :: rest)) rfl rfl hd) K
theorem gInstN {index : Nat} (N : Now p l e R s m args below meth c Z T h k n) (hx : p.tables.exec = Jvm.exec) (hd : decode c.code pc = .ok (.instanceof index, 3)) (K : Ends p e below Φ T (mkF m (pc + 3) Ls (.int 0 :: rest))) : Ends p e below Φ T (mkF m pc Ls (.null :: rest)) := by
  obtain ⟨L, X, eT, F, hn0⟩ := N
  exact Ends.go (X.instanceofNull hx (g := mkF m pc Ls (.null :: rest)) rfl rfl hd) K
end Heap
section Calls
variable {pc : Nat} {Ls : Array Slot} {st rest argsL : List Value} {own : String} {index W k1 n1 : Nat} {y : MethodName} {Pre : Pt → Array Value → Prop}
/-- what a payer gives back, as Back's Post -/
abbrev PostN (Q : Option Value → Heap → List Loc → Prop) (k1 n1 : Nat) : Pt → Array Value → Option Value → Pt → Prop := fun A _ v B => ∃ L, Q v B.U.heap L ∧ B.locs = A.locs ++ L ∧ B.cells = A.cells + k1 ∧ B.slots = A.slots + n1
abbrev PreN (R : Room) (as' : Array Value) (h : Heap) (k1 n1 : Nat) : Pt → Array Value → Prop := fun A a => a = as' ∧ A.U.heap = h ∧ A.cells + k1 ≤ R.cells ∧ A.slots + n1 ≤ R.slots
variable {Qc : Option Value → Heap → List Loc → Prop}
/-- a static call -/
theorem gStatic {bytes : ByteArray} {maxL : Nat} {ret : Option FieldType} (N : Now p l e R s m args below meth c Z T h k n) (hx : p.tables.exec = Jvm.exec) (hZ : Z.Warmed39 s.vm) (hown : s.vm.findClass own = some m.cls)
    (w1 : (Jvm.Cond.methodLink own index y).before a0 Z = true) (w2 : (Jvm.Cond.static y).before a0 Z = true) (w3 : (Jvm.Cond.initialized y.cls).before a0 Z = true) (w4 : (Jvm.Cond.code y bytes maxL ret).before a0 Z = true) (hy : y.cls ≠ "java/lang/invoke/MethodHandle" ∧ y.cls ≠ "java/lang/invoke/VarHandle")
    (B : Back l R p e below s args y 3 W (PreN R argsL.toArray h k1 n1) (PostN Qc k1 n1)) (hd : decode c.code pc = .ok (.invokestatic index, 3)) (hst : st = argsL.reverse ++ rest) (hsize : Ls.size = c.maxLocals) (hlen : ∀ sig, parseMethodDescriptor y.desc = some sig → argsL.length = sig.parameters.length) (hW : (rest.map fun v => v.category).sum ≤ W)
    (hc : k + k1 ≤ R.cells) (hs : n + n1 ≤ R.slots) (hQ : ∀ v h' L, Qc v h' L → Fr Z.heap.size L)
    (K : ∀ v T' h' L, Now p l e R s m args below meth c Z T' h' (k + k1) (n + n1) → Qc v h' L → Ends p e below Φ T' (mkF m (pc + 3) Ls (v.toList ++ rest))) :
    Ends p e below Φ T (mkF m pc Ls st) := by
  obtain ⟨L, X, eT, F, hn0⟩ := N
  obtain ⟨v, _, ⟨T1, L1, q1, q2⟩, -, X1, ⟨Lc, hq, l1, y1, z1⟩, st1⟩ := Jvm.LawKit.callS X hx (y := y) hown (mvT hZ w1) (mvT hZ w2) (mvT hZ w3) (mvT hZ w4) hy B (g := mkF m pc Ls st) rfl hsize (argsL := argsL) (rest := rest) hlen hst (by show 2 * 0 + _ ≤ _; omega) hd (fun _ _ => ⟨rfl, eT, hc, hs⟩)
  dsimp only [Pt.U, Pt.locs, Pt.cells, Pt.slots] at X1 l1 y1 z1 st1 hq
  subst l1 y1 z1
  have q := hQ _ _ _ hq
  exact Ends.go st1 (K v T1 _ Lc ⟨_, X1, rfl, Fr.app F q, hn0⟩ hq)
/-- a constructor -/
theorem gSpecial {bytes : ByteArray} {maxL : Nat} {a : Addr} (hy1 : y.name = "<init>") (N : Now p l e R s m args below meth c Z T h k n) (hx : p.tables.exec = Jvm.exec) (hZ : Z.Warmed39 s.vm) (hown : s.vm.findClass own = some m.cls)
    (w1 : (Jvm.Cond.methodLink own index y).before a0 Z = true) (w2 : (Jvm.Cond.instanceMethod y).before a0 Z = true) (w4 : (Jvm.Cond.code y bytes maxL none).before a0 Z = true) (hy : y.cls ≠ "java/lang/invoke/MethodHandle" ∧ y.cls ≠ "java/lang/invoke/VarHandle")
    (B : Back l R p e below s args y 3 W (PreN R (.ref a :: argsL).toArray h k1 n1) (PostN Qc k1 n1)) (hd : decode c.code pc = .ok (.invokespecial index, 3)) (hst : st = argsL.reverse ++ .ref a :: rest) (hsize : Ls.size = c.maxLocals) (hlen : ∀ sig, parseMethodDescriptor y.desc = some sig → argsL.length = sig.parameters.length) (hW : (rest.map fun v => v.category).sum ≤ W)
    (hc : k + k1 ≤ R.cells) (hs : n + n1 ≤ R.slots) (hQ : ∀ v h' L, Qc v h' L → Fr Z.heap.size L)
    (K : ∀ v T' h' L, Now p l e R s m args below meth c Z T' h' (k + k1) (n + n1) → Qc v h' L → Ends p e below Φ T' (mkF m (pc + 3) Ls (v.toList ++ rest))) :
    Ends p e below Φ T (mkF m pc Ls st) := by
  obtain ⟨L, X, eT, F, hn0⟩ := N
  obtain ⟨v, _, ⟨T1, L1, q1, q2⟩, -, X1, ⟨Lc, hq, l1, y1, z1⟩, st1⟩ := X.specialBack hx (y := y) hy1 hown (mvT hZ w1) (mvT hZ w2) (mvT hZ w4) hy B (g := mkF m pc Ls st) rfl hsize (Steps.refl _) (a := a) (argsL := argsL) (rest := rest) hlen hst (by show 2 * 0 + _ ≤ _; omega) hd (fun _ _ => ⟨rfl, eT, hc, hs⟩)
  dsimp only [Pt.U, Pt.locs, Pt.cells, Pt.slots] at X1 l1 y1 z1 st1 hq
  subst l1 y1 z1
  have q := hQ _ _ _ hq
  exact Ends.go (fun t r => st1.trans r) (K v T1 _ Lc ⟨_, X1, rfl, Fr.app F q, hn0⟩ hq)
/-- an instance method -/
theorem gVirtual {C : String} {z : MethodName} {b : Addr} (N : Now p l e R s m args below meth c Z T h k n) (hx : p.tables.exec = Jvm.exec) (hZ : Z.Warmed39 s.vm) (hown : s.vm.findClass own = some m.cls)
    (w1 : (Jvm.Cond.methodLink own index y).before a0 Z = true) (w2 : (Jvm.Cond.declares y).before a0 Z = true) (w3 : (Jvm.Cond.selects C y z).before a0 Z = true) (w4 : (Jvm.Cond.instanceMethod z).before a0 Z = true) (hy : y.cls ≠ "java/lang/invoke/MethodHandle" ∧ y.cls ≠ "java/lang/invoke/VarHandle")
    (hnf : NotFace s y) (E : Exa Z h b C)
    (B : Back l R p e below s args z 3 W (PreN R (.ref b :: argsL).toArray h k1 n1) (PostN Qc k1 n1)) (hd : decode c.code pc = .ok (.invokevirtual index, 3)) (hst : st = argsL.reverse ++ .ref b :: rest) (hsize : Ls.size = c.maxLocals) (hlen : ∀ sig, parseMethodDescriptor y.desc = some sig → argsL.length = sig.parameters.length) (hW : (rest.map fun v => v.category).sum ≤ W)
    (hc : k + k1 ≤ R.cells) (hs : n + n1 ≤ R.slots) (hQ : ∀ v h' L, Qc v h' L → Fr Z.heap.size L)
    (K : ∀ v T' h' L, Now p l e R s m args below meth c Z T' h' (k + k1) (n + n1) → Qc v h' L → Ends p e below Φ T' (mkF m (pc + 3) Ls (v.toList ++ rest))) :
    Ends p e below Φ T (mkF m pc Ls st) := by
  obtain ⟨L, X, eT, F, hn0⟩ := N
  obtain ⟨cq, kq, qa, qb, qc⟩ := isOf hZ eT E
  obtain ⟨v, _, ⟨T1, L1, q1, q2⟩, -, X1, ⟨Lc, hq, l1, y1, z1⟩, st1⟩ := X.virtualBack hx (y := y) (z := z) hown (mvT hZ w1) (mvT hZ w2) hnf (mvT hZ w3) (mvT hZ w4) hy B qa qc (g := mkF m pc Ls st) rfl hsize (Steps.refl _) (argsL := argsL) (rest := rest) hlen hst (by show 2 * 0 + _ ≤ _; omega) hd (fun _ _ => ⟨rfl, eT, hc, hs⟩)
  dsimp only [Pt.U, Pt.locs, Pt.cells, Pt.slots] at X1 l1 y1 z1 st1 hq
  subst l1 y1 z1
  have q := hQ _ _ _ hq
  exact Ends.go (fun t r => st1.trans r) (K v T1 _ Lc ⟨_, X1, rfl, Fr.app F q, hn0⟩ hq)
/-- a private instance method, by invokevirtual -/
theorem gPrivate {bytes : ByteArray} {maxL : Nat} {ret : Option FieldType} {b : Addr} {C : String} (N : Now p l e R s m args below meth c Z T h k n) (hx : p.tables.exec = Jvm.exec) (hZ : Z.Warmed39 s.vm) (hown : s.vm.findClass own = some m.cls)
    (w1 : (Jvm.Cond.methodLink own index y).before a0 Z = true) (w2 : (Jvm.Cond.instanceMethod y).before a0 Z = true) (w3 : (Jvm.Cond.selects y.cls y y).before a0 Z = true) (w4 : (Jvm.Cond.privateMethod y).before a0 Z = true) (w5 : (Jvm.Cond.code y bytes maxL ret).before a0 Z = true) (hy : y.cls ≠ "java/lang/invoke/MethodHandle" ∧ y.cls ≠ "java/lang/invoke/VarHandle")
    (E : Exa Z h b C)
    (B : Back l R p e below s args y 3 W (PreN R (.ref b :: argsL).toArray h k1 n1) (PostN Qc k1 n1)) (hd : decode c.code pc = .ok (.invokevirtual index, 3)) (hst : st = argsL.reverse ++ .ref b :: rest) (hsize : Ls.size = c.maxLocals) (hlen : ∀ sig, parseMethodDescriptor y.desc = some sig → argsL.length = sig.parameters.length) (hW : (rest.map fun v => v.category).sum ≤ W)
    (hc : k + k1 ≤ R.cells) (hs : n + n1 ≤ R.slots) (hQ : ∀ v h' L, Qc v h' L → Fr Z.heap.size L)
    (K : ∀ v T' h' L, Now p l e R s m args below meth c Z T' h' (k + k1) (n + n1) → Qc v h' L → Ends p e below Φ T' (mkF m (pc + 3) Ls (v.toList ++ rest))) :
    Ends p e below Φ T (mkF m pc Ls st) := by
  obtain ⟨L, X, eT, F, hn0⟩ := N
  obtain ⟨cell, hce, hob⟩ := E.cell
  obtain ⟨v, _, ⟨T1, L1, q1, q2⟩, -, X1, ⟨Lc, hq, l1, y1, z1⟩, st1⟩ := X.privateBack hx (y := y) hown (mvT hZ w1) (mvT hZ w2) (mvT hZ w3) (Cond.privateMethod_at (args := args) (mvP hZ w4)) (mvT hZ w5) hy B (g := mkF m pc Ls st) rfl hsize (Steps.refl _) (by rw [eT]; exact hce) hob (argsL := argsL) (rest := rest) hlen hst (by show 2 * 0 + _ ≤ _; omega) hd (fun _ _ => ⟨rfl, eT, hc, hs⟩)
  dsimp only [Pt.U, Pt.locs, Pt.cells, Pt.slots] at X1 l1 y1 z1 st1 hq
  subst l1 y1 z1
  have q := hQ _ _ _ hq
  exact Ends.go (fun t r => st1.trans r) (K v T1 _ Lc ⟨_, X1, rfl, Fr.app F q, hn0⟩ hq)
/-- an interface method -/
theorem gFace {C : String} {count : Nat} {z : MethodName} {b : Addr} (N : Now p l e R s m args below meth c Z T h k n) (hx : p.tables.exec = Jvm.exec) (hZ : Z.Warmed39 s.vm) (hown : s.vm.findClass own = some m.cls)
    (w1 : (Jvm.Cond.methodLink own index y).before a0 Z = true) (w2 : (Jvm.Cond.declares y).before a0 Z = true) (w3 : (Jvm.Cond.interfaceMethod y.cls y.cls y.name y.desc).before args s = true) (w4 : (Jvm.Cond.selects C y z).before a0 Z = true) (w5 : (Jvm.Cond.instanceMethod z).before a0 Z = true) (w6 : (Jvm.Cond.publicMethod z).before a0 Z = true) (w7 : (Jvm.Cond.unhidden C y.name y.desc).before a0 Z = true) (w8 : (Jvm.Cond.castable C y.cls).before a0 Z = true)
    (hy : y.cls ≠ "java/lang/invoke/MethodHandle" ∧ y.cls ≠ "java/lang/invoke/VarHandle") (E : Exa Z h b C)
    (B : Back l R p e below s args z 5 W (PreN R (.ref b :: argsL).toArray h k1 n1) (PostN Qc k1 n1)) (hd : decode c.code pc = .ok (.invokeinterface index count, 5)) (hst : st = argsL.reverse ++ .ref b :: rest) (hsize : Ls.size = c.maxLocals) (hlen : ∀ sig, parseMethodDescriptor y.desc = some sig → argsL.length = sig.parameters.length) (hW : (rest.map fun v => v.category).sum ≤ W)
    (hc : k + k1 ≤ R.cells) (hs : n + n1 ≤ R.slots) (hQ : ∀ v h' L, Qc v h' L → Fr Z.heap.size L)
    (K : ∀ v T' h' L, Now p l e R s m args below meth c Z T' h' (k + k1) (n + n1) → Qc v h' L → Ends p e below Φ T' (mkF m (pc + 5) Ls (v.toList ++ rest))) :
    Ends p e below Φ T (mkF m pc Ls st) := by
  obtain ⟨L, X, eT, F, hn0⟩ := N
  obtain ⟨cq, kq, qa, qb, qc⟩ := isOf hZ eT E
  obtain ⟨v, _, ⟨T1, L1, q1, q2⟩, -, X1, ⟨Lc, hq, l1, y1, z1⟩, st1⟩ := X.interfaceBack hx (xi := y) (y := z) hown (mvT hZ w1) (mvT hZ w2) w3 (mvT hZ w4) (mvT hZ w5) (mvT hZ w6) (mvT hZ w7) (mvT hZ w8) hy B qa qb qc (g := mkF m pc Ls st) rfl hsize (Steps.refl _) (argsL := argsL) (rest := rest) hlen hst (by show 2 * 0 + _ ≤ _; omega) hd (fun _ _ => ⟨rfl, eT, hc, hs⟩)
  dsimp only [Pt.U, Pt.locs, Pt.cells, Pt.slots] at X1 l1 y1 z1 st1 hq
  subst l1 y1 z1
  have q := hQ _ _ _ hq
  exact Ends.go (fun t r => st1.trans r) (K v T1 _ Lc ⟨_, X1, rfl, Fr.app F q, hn0⟩ hq)
/-- a contract as a payer -/
theorem MetN.back {bytes : ByteArray} {maxL : Nat} {ret : Option FieldType} {rm : Room} {len : Nat} {as' : Array Value} (hM : MetN l Z y bytes maxL ret [] rm as' h Q)
    (hZ : Z.Warmed39 s.vm) (wc : (Jvm.Cond.code y bytes maxL ret).before a0 Z = true) (wz : (Jvm.Cond.initialized y.cls).before a0 Z = true) (hf : rm.frames + 1 ≤ R.frames) (hl : W + (maxL + 11) + rm.locals ≤ R.locals) :
    Back l R p e below s args y len W (PreN R as' h rm.cells rm.slots) (PostN (fun v h' L => Q v h' ∧ Fr Z.heap.size L) rm.cells rm.slots) := backOf (Q := fun v h' L => Q v h' ∧ Fr Z.heap.size L) hM hZ wc wz hf hl
end Calls
end OwnKit
end Jvm.Pilot.@@N@@
namespace Jvm.Pilot.@@N@@
open Jvm Jvm.ClassFile Sem Op Lib Jvm.Free Jvm.Stand Jvm.LawKit Jvm.RoadKit Bundle Jvm.Pilot.@@N@@.Jvm.D
section OwnStr
variable {p : Program} {l : Launch} {e : Env} {R : Room} {s : State} {m : MethodId} {args : Array Value} {below : List Frame} {meth : Method} {c : Code} {T T' : State} {Z : State} {a0 : Array Value} {h h' h2 : Heap} {k n k' n' : Nat} {Φ : Outcome → State → Prop} {cs ds : List Int32} {a b : Addr}
/-- a String whose chars are cs, all below 256 -/
def Str (Z : State) (h : Heap) (a : Addr) (cs : List Int32) : Prop :=
  Exa Z h a "java/lang/String" ∧ Fld Z h a "java/lang/String" "coder" "B" (.int 0) ∧ (∃ t kb, Fld Z h a "java/lang/String" "value" "[B" (.ref t) ∧ Arv Z h t kb .byte (Int32.ofNat cs.length) ((cs.map fun c => c.toInt8.toInt32).map Value.int) (.int 0)) ∧ (∀ c ∈ cs, ¬ c < 0 ∧ ¬ (255 : Int32) < c) ∧ cs.length ≤ 4000
theorem Str.ext (S : Str Z h a cs) (E : Ext h h') : Str Z h' a cs := by
  obtain ⟨h1, h2, ⟨t, kb, h3, h4⟩, h5⟩ := S
  exact ⟨h1.ext E, h2.ext E, ⟨t, kb, h3.ext E, h4.ext E⟩, h5⟩
theorem Str.lt (S : Str Z h a cs) : a < h.size := S.1.lt
theorem up16 (h : ∀ c ∈ cs, ¬ c < 0 ∧ ¬ (255 : Int32) < c) : ∀ c ∈ cs, ¬ c < 0 ∧ ¬ (65535 : Int32) < c := fun c hc => ⟨(h c hc).1, fun q => (h c hc).2 (by rw [Int32.lt_iff_toInt_lt] at q ⊢; have e1 : (65535 : Int32).toInt = 65535 := rfl; have e2 : (255 : Int32).toInt = 255 := rfl; omega)⟩
/-- the two statics that String's methods read -/
def Jdk (Z : State) : Prop := (∃ z, Sta Z Z.heap "java/lang/String" "COMPACT_STRINGS" "Z" (.int z) ∧ ¬ z = 0) ∧ ∃ fm, Sta Z Z.heap "jdk/internal/util/Preconditions" "SIOOBE_FORMATTER" "Ljava/util/function/BiFunction;" fm ∧ fm.isRef = true
theorem ext_keep {x : Addr} (E : Ext h h') (K : Keep h' h2 [x]) (hx : h.size ≤ x) : Ext h h2 := ⟨Nat.le_trans E.1 K.1, fun a c q => K.2.1 a c (E.2 a c q) fun z => by
  cases List.mem_singleton.mp z
  exact absurd (Array.getElem?_eq_some_iff.mp q).1 (Nat.not_lt.mpr hx)⟩
theorem ext_wr {x : Addr} {sl : Nat} {v : Value} (E : Ext h h') (W : Wr h' h2 x sl v) (hx : h.size ≤ x) : Ext h h2 := ext_keep E (Keep.of_wr W) hx
theorem ext_trans (E : Ext h h') (F : Ext h' h2) : Ext h h2 := ⟨Nat.le_trans E.1 F.1, fun a c q => F.2 a c (E.2 a c q)⟩
theorem ext_refl (h : Heap) : Ext h h := ⟨Nat.le_refl _, fun _ _ q => q⟩
/-- new String(char[]) -/
theorem strNew {x b : Addr} {kC : ClassId} {d v0 c0 : Value} {len W : Nat} (hZ : Z.Warmed39 s.vm) (hw : ∀ d ∈ tables_1, d.before a0 Z = true) (G : Jdk Z) (O : Ext Z.heap h) (hx0 : Z.heap.size ≤ x) (E : Exa Z h x "java/lang/String") (V : Fld Z h x "java/lang/String" "value" "[B" v0) (Cd : Fld Z h x "java/lang/String" "coder" "B" c0)
    (K : Arv Z h b kC .char (Int32.ofNat cs.length) (cs.map Value.int) d) (l0 : 0 < cs.length) (l2 : cs.length ≤ 4000) (hp : ∀ c ∈ cs, ¬ c < 0 ∧ ¬ (255 : Int32) < c) (hfr : 4 ≤ R.frames) (hlo : W + 65 ≤ R.locals) :
    Back l R p e below s args (⟨"java/lang/String", "<init>", "([C)V"⟩ : MethodName) len W (PreN R #[.ref x, .ref b] h 1 cs.length) (PostN (fun v h' L => v = none ∧ Keep h h' [x] ∧ Str Z h' x cs ∧ Fr Z.heap.size L) 1 cs.length) := by
  obtain ⟨⟨z, S, hz⟩, -⟩ := G
  refine Back.mono (StrChars.Road.backV (W := W) hZ (fun d hd => hw d ((by decide +kernel : ∀ d ∈ StrChars.Road.words, d ∈ tables_1) d hd)) (kI := 4) (hw _ (by decide +kernel)) (cs := cs) (bs := cs.map (fun c => c.toInt8.toInt32)) (n := cs.length) hx0 O.1 E V Cd K (S.ext O) hz rfl rfl l0 l2 hp rfl hfr hlo) (fun P a q => q) (fun P a v B q r => ?_)
  obtain ⟨L, ⟨q1, q2, q3, q4, q5, t, kb, -, -, -, q6, q7⟩, r1⟩ := r
  exact ⟨L, ⟨q1, q3, ⟨q4, q5, ⟨t, kb, q6, q7⟩, hp, l2⟩, q2⟩, r1⟩
theorem strLen {len W : Nat} (hZ : Z.Warmed39 s.vm) (hw : ∀ d ∈ tables_1, d.before a0 Z = true) (G : Jdk Z) (O : Ext Z.heap h) (S : Str Z h a cs) (hfr : 2 ≤ R.frames) (hlo : W + 25 ≤ R.locals) :
    Back l R p e below s args (⟨"java/lang/String", "length", "()I"⟩ : MethodName) len W (PreN R #[.ref a] h 0 0) (PostN (fun v h' L => v = some (.int (Int32.ofNat cs.length)) ∧ L = [] ∧ h' = h) 0 0) := by
  obtain ⟨⟨z, Sz, hz⟩, -⟩ := G
  obtain ⟨E, Cd, ⟨t, kb, V, K⟩, hp, l2⟩ := S
  exact StrChars.Road.lenW (W := W) hZ (fun d hd => hw d ((by decide +kernel : ∀ d ∈ StrChars.Road.wordsLen, d ∈ tables_1) d hd)) (kI := 4) (hw _ (by decide +kernel)) E V Cd K (StrChars.Road.codOf rfl (fun c hc => (hp c hc).2)) (up16 hp) (Sz.ext O) hz l2 hfr hlo
theorem strAt {len W : Nat} (hZ : Z.Warmed39 s.vm) (hw : ∀ d ∈ tables_1, d.before a0 Z = true) (G : Jdk Z) (O : Ext Z.heap h) (S : Str Z h a cs) {i : Nat} {j : Int32} (hi : i < cs.length) (hj : j = Int32.ofNat i) (hfr : 4 ≤ R.frames) (hlo : W + 53 ≤ R.locals) :
    Back l R p e below s args (⟨"java/lang/String", "charAt", "(I)C"⟩ : MethodName) len W (PreN R #[.ref a, .int j] h 0 0) (PostN (fun v h' L => v = some (.int (cs.getD i 0)) ∧ L = [] ∧ h' = h) 0 0) := by
  obtain ⟨⟨z, Sz, hz⟩, fm, Sf, hf⟩ := G
  obtain ⟨E, Cd, ⟨t, kb, V, K⟩, hp, l2⟩ := S
  exact StrChars.Road.chN (W := W) hZ (fun d hd => hw d ((by decide +kernel : ∀ d ∈ StrChars.Road.wordsChN, d ∈ tables_1) d hd)) (kI := 4) (hw _ (by decide +kernel)) E V Cd K (StrChars.Road.codOf rfl (fun c hc => (hp c hc).2)) (up16 hp) (Sz.ext O) hz (Sf.ext O) hf l2 hi hj hfr hlo
theorem strEq {len W : Nat} (hZ : Z.Warmed39 s.vm) (hw : ∀ d ∈ tables_1, d.before a0 Z = true) (G : Jdk Z) (O : Ext Z.heap h) (S : Str Z h a cs) (S' : Str Z h b ds) (hfr : 2 ≤ R.frames) (hlo : W + 28 ≤ R.locals) :
    Back l R p e below s args (⟨"java/lang/String", "equals", "(Ljava/lang/Object;)Z"⟩ : MethodName) len W (PreN R #[.ref a, .ref b] h 0 0) (PostN (fun v h' L => v = some (.int (if cs = ds then 1 else 0)) ∧ L = [] ∧ h' = h) 0 0) := by
  obtain ⟨⟨z, Sz, hz⟩, -⟩ := G
  obtain ⟨E, Cd, ⟨t, kb, V, K⟩, hp, l2⟩ := S
  obtain ⟨E', Cd', ⟨t', kb', V', K'⟩, hp', l2'⟩ := S'
  refine Back.mono (StrChars.Road.eqW (W := W) hZ (fun d hd => hw d ((by decide +kernel : ∀ d ∈ StrChars.Road.wordsEq, d ∈ tables_1) d hd)) (kI := 4) (hw _ (by decide +kernel)) E V Cd K (StrChars.Road.codOf rfl (fun c hc => (hp c hc).2)) (up16 hp) l2 E' V' Cd' K' (StrChars.Road.codOf rfl (fun c hc => (hp' c hc).2)) (up16 hp') l2' (Sz.ext O) hz hfr hlo) (fun P a q => q) (fun P a v B q r => ?_)
  obtain ⟨L, ⟨q1, q2, q3⟩, r1⟩ := r
  refine ⟨L, ⟨?_, q2, q3⟩, r1⟩
  rcases q1 with ⟨rfl, q⟩ | ⟨rfl, q⟩
  · rw [if_pos q]
  · rw [if_neg q]
end OwnStr
end Jvm.Pilot.@@N@@
namespace Jvm.Pilot.@@N@@
open Jvm Jvm.ClassFile Sem Op Lib Jvm.Free Jvm.Stand Jvm.LawKit Jvm.RoadKit Bundle Jvm.Pilot.@@N@@.Jvm.D
section OwnWide
variable {p : Program} {l : Launch} {e : Env} {R : Room} {s : State} {m : MethodId} {args : Array Value} {below : List Frame} {meth : Method} {c : Code} {T T' : State} {Z : State} {a0 : Array Value} {h h' h2 : Heap} {k n k' n' : Nat} {Φ : Outcome → State → Prop} {Q : Option Value → Heap → Prop} {EL : List (String × Nat)} {vm0 vm1 : Vm} {cs : List Int32}
/-- the tables vm0 of a walk from s that may have interned; h: the heap -/
def Wd (Z s : State) (EL : List (String × Nat)) (vm0 : Vm) (h : Heap) : Prop := ∃ k0, s.Since vm0 k0 ∧ k0 ≤ h.size ∧ CHr Z EL s.vm s.heap vm0 h
theorem Wd.ext (w : Wd Z s EL vm0 h) (E : Ext h h') : Wd Z s EL vm0 h' := by
  obtain ⟨k0, h1, h2, h3⟩ := w; exact ⟨k0, h1, Nat.le_trans h2 E.1, h3.trans (CHr.ext E h3.1)⟩
theorem Wd.keep {ws : List Addr} (w : Wd Z s EL vm0 h) (K : Keep h h' ws) (hs : ∀ x ∈ ws, Safe Z EL vm0 h x) : Wd Z s EL vm0 h' := by
  obtain ⟨k0, h1, h2, h3⟩ := w; exact ⟨k0, h1, Nat.le_trans h2 K.1, h3.trans (CHr.keep K hs h3.1)⟩
theorem Wd.held (w : Wd Z s EL vm0 h) : CHv Z EL vm0 h := by obtain ⟨_, _, _, h3⟩ := w; exact h3.1
def PhiW (Z s : State) (EL : List (String × Nat)) (Q : Option Value → Heap → Prop) (K N : Nat) : Outcome → State → Prop := fun o u => ∃ v L, o = .returned v ∧ (Q v u.heap ∧ Fr Z.heap.size L) ∧ CHr Z EL s.vm s.heap u.vm u.heap ∧ ReturnedEndW s o u L K N
def MetW (l : Launch) (Z : State) (EL : List (String × Nat)) (y : MethodName) (bytes : ByteArray) (maxL : Nat) (ret : Option FieldType) (ws : List Jvm.Cond) (rm : Room) (as' : Array Value) (h : Heap) (Q : Option Value → Heap → Prop) : Prop :=
  MetFree l y (head1 (Jvm.Cond.code y bytes maxL ret :: ws) rm) (fun a U => a = as' ∧ Z.Warmed39 U.vm ∧ U.heap = h ∧ CHv Z EL U.vm h) (fun _ _ _ _ _ => True) (fun _ U o U' => ∃ v L, o = .returned v ∧ (Q v U'.heap ∧ Fr Z.heap.size L) ∧ CHr Z EL U.vm U.heap U'.vm U'.heap ∧ ReturnedEndW U o U' L rm.cells rm.slots)
theorem metW {y : MethodName} {bytes : ByteArray} {maxL : Nat} {ret : Option FieldType} {ws : List Jvm.Cond} {rm : Room} {as' : Array Value} {Ls : Array Slot} (hpl : plainFor y = true) (hn0 : Ext Z.heap h) (ef : ∀ m, entryFrame m as' maxL = mkF m 0 Ls [])
    (walk : ∀ (p : Program) (e : Env) (s : State) (m : MethodId) (below : List Frame) (meth : Method) (c : Code) (T : State) (vm0 : Vm), p.tables.exec = Jvm.exec → c.code = bytes → c.maxLocals = maxL → meth.sig.returnType = ret → meth.locks = false → (s.setVm vm0).vm.findClass y.cls = some m.cls → meth.name = y.name → Z.Warmed39 (s.setVm vm0).vm →
      Now p l e rm (s.setVm vm0) m as' below meth c Z T h 0 0 → Wd Z s EL vm0 h → Ends p e below (PhiW Z s EL Q rm.cells rm.slots) T (mkF m 0 Ls [])) : MetW l Z EL y bytes maxL ret ws rm as' h Q := by
  refine MetFree.of_bodySF hpl hisR ?_
  intro p e s m args below meth c s₁ Bd hml0 hP hK
  obtain ⟨rfl, hZ, hh, hC⟩ := hP
  have e0 : s₁.heap = h := by rw [← hh, Bd.state]; rfl
  have N0 : Now p l e rm (s.setVm s.vm) m args below meth c Z s₁ h 0 0 := ⟨[], Stand.of_body Bd, e0, Fr.nil _, hh ▸ hn0⟩
  have W0 : Wd Z s EL s.vm h := ⟨s.heap.size, (State.WarmedH.refl s).since _, by rw [hh]; exact Nat.le_refl _, by rw [hh]; exact CHr.refl hC⟩
  have W := walk p e s m below meth c s₁ s.vm Bd.exec Bd.bytes hml0 Bd.returns Bd.notSynchronized (findClass_of_methodNamed Bd.named) (name_of_methodNamed Bd.named Bd.method).1 hZ N0 W0
  rw [← ef] at W
  exact W
theorem endW {v : Option Value} {f : JFrame} {K M : Nat} (N : Now p l e R (s.setVm vm0) m args below meth c Z T h k n) (hZ : Z.Warmed39 (s.setVm vm0).vm) (hEL : EW Z a0 EL) (w : Wd Z s EL vm0 h) (hlocks : meth.locks = false) (hv : meth.sig.returnType = none → v = none)
    (st : ∀ (locs : List Loc), Stand p l e R (s.setVm vm0) m args below meth c T locs k n → ∀ fs, (∀ (f : JFrame) (acts : List Action), f.method = m → f.locked = none → f.entered = [] → (doReturn e (T.setTop f) acts v).1 = T.setFrames fs) → Steps p.tables e below (T.setTop f) (T.setFrames fs)) (hQ : Q v h) (hk : k ≤ K) (hn : n ≤ M) :
    Ends p e below (PhiW Z s EL Q K M) T f := by
  obtain ⟨L, X, eT, F, _⟩ := N
  obtain ⟨k0, h1, h2, h3⟩ := w
  subst eT
  obtain ⟨fs, hr, hrun, hended, hW⟩ := X.leaveW h1 h2 hv hlocks
  have A : CHr Z EL vm0 T.heap T.vm T.heap := CHv.at X hZ hEL h3.1
  exact ⟨_, _, st L X fs hr, hrun, hended, _, L, rfl, ⟨hQ, F⟩, h3.trans A, hW.1, hW.2.1, hW.2.2.1, hW.2.2.2.mono hk hn⟩
section Ret
variable {pc : Nat} {Ls : Array Slot} {rest : List Value} {K M : Nat}
theorem retZW {z : Int32} {t : FieldType} (N : Now p l e R (s.setVm vm0) m args below meth c Z T h k n) (hZ : Z.Warmed39 (s.setVm vm0).vm) (hEL : EW Z a0 EL) (w : Wd Z s EL vm0 h) (hx : p.tables.exec = Jvm.exec) (hlocks : meth.locks = false) (hret : meth.sig.returnType = some t) (ht : t = .boolean ∨ t = .byte ∨ t = .char ∨ t = .short) (hd : decode c.code pc = .ok (.ireturn, 1)) (hQ : Q (some (.int (nar t z))) h) (hk : k ≤ K) (hn : n ≤ M) :
    Ends p e below (PhiW Z s EL Q K M) T (mkF m pc Ls (.int z :: rest)) :=
  endW N hZ hEL w hlocks (fun q => by rw [hret] at q; cases q) (fun L X fs hr => retN X hx hret ht hd hr) hQ hk hn
theorem retAW {v : Value} {t : FieldType} (N : Now p l e R (s.setVm vm0) m args below meth c Z T h k n) (hZ : Z.Warmed39 (s.setVm vm0).vm) (hEL : EW Z a0 EL) (w : Wd Z s EL vm0 h) (hx : p.tables.exec = Jvm.exec) (hlocks : meth.locks = false) (hret : meth.sig.returnType = some t) (ht : t.isReference = true) (hv : v.isRef = true) (hd : decode c.code pc = .ok (.areturn, 1)) (hQ : Q (some v) h) (hk : k ≤ K) (hn : n ≤ M) :
    Ends p e below (PhiW Z s EL Q K M) T (mkF m pc Ls (v :: rest)) :=
  endW N hZ hEL w hlocks (fun q => by rw [hret] at q; cases q) (fun L X fs hr => retOut X hx hret (by cases v <;> first | (cases hv; done) | (cases t <;> first | (cases ht; done) | rfl)) (Or.inr (Or.inr (Or.inr (Or.inr ⟨rfl, ht, hv⟩)))) hd hr) hQ hk hn
theorem retVW (N : Now p l e R (s.setVm vm0) m args below meth c Z T h k n) (hZ : Z.Warmed39 (s.setVm vm0).vm) (hEL : EW Z a0 EL) (w : Wd Z s EL vm0 h) (hx : p.tables.exec = Jvm.exec) (hlocks : meth.locks = false) (hret : meth.sig.returnType = none) (hd : decode c.code pc = .ok (.return_, 1)) (hQ : Q none h) (hk : k ≤ K) (hn : n ≤ M) :
    Ends p e below (PhiW Z s EL Q K M) T (mkF m pc Ls []) :=
  endW N hZ hEL w hlocks (fun _ => rfl) (fun L X fs hr => X.returnOut hx hret hd hr) hQ hk hn
end Ret
section Steps
variable {pc : Nat} {Ls : Array Slot} {st rest argsL : List Value} {own : String} {index W k1 n1 : Nat} {y : MethodName}
/-- ldc of a String constant, its text read -/
theorem gLdcS {text : String} (q : Nat) (N : Now p l e R (s.setVm vm0) m args below meth c Z T h k n) (hx : p.tables.exec = Jvm.exec) (hZ : Z.Warmed39 (s.setVm vm0).vm) (hown : (s.setVm vm0).vm.findClass own = some m.cls) (w : (Jvm.Cond.stringLink own index text).before a0 Z = true) (wS : ∀ a ∈ Bundle.stringAtoms, a.before a0 Z = true)
    (hEL : EW Z a0 EL) (hmem : (own, index) ∈ EL) (wd : Wd Z s EL vm0 h) (ht : (∀ c ∈ text.toList, c.toNat < 256) ∧ text.toList.map (fun c => Value.int (Jvm.Lit.byteI c.toNat.toUInt16)) = (cs.map fun c => c.toInt8.toInt32).map Value.int) (hcs : ∀ c ∈ cs, ¬ c < 0 ∧ ¬ (255 : Int32) < c) (hlen : cs.length ≤ 4000)
    (hd : decode c.code pc = .ok (.ldc index, 2)) (hn : 4 * text.toList.length ≤ q) (hbig : q ≤ 536870912) (hc : k + 2 ≤ R.cells) (hl : n + (q + 4) ≤ R.slots)
    (K : ∀ vm1 T' h' a, Now p l e R (s.setVm vm1) m args below meth c Z T' h' (k + 2) (n + (q + 4)) → Ext h h' → Str Z h' a cs → Z.Warmed39 (s.setVm vm1).vm → (s.setVm vm1).vm.findClass own = some m.cls → Wd Z s EL vm1 h' → CHr Z EL vm0 h vm1 h' → Ends p e below Φ T' (mkF m (pc + 2) Ls (.ref a :: st))) :
    Ends p e below Φ T (mkF m pc Ls st) := by
  obtain ⟨L, X, eT, F, hO⟩ := N
  obtain ⟨k0, h1, h2, h3⟩ := wd
  have e1 : (Int32.ofNat cs.length).toInt = cs.length := len_toInt (by omega)
  have hz : ¬ (Int32.ofNat cs.length) < 0 := by
    rw [Int32.lt_iff_toInt_lt, e1]; have e0 : (0 : Int32).toInt = 0 := rfl
    omega
  have hl0 : (Int32.ofNat cs.length).toNatClampNeg = ((cs.map fun c => c.toInt8.toInt32).map Value.int).length := by simp only [Int32.toNatClampNeg, e1, List.length_map]; omega
  obtain ⟨a, T1, h1', kk, b, kb, X1, e1', E1, S1, k1', Z1, o1, A1, C1, V1, K1, -, -, R1, -, -, st1⟩ := ldcCH X hx hZ hown w wS eT h1 h2 hEL hmem h3.1 ht hz hl0 (g := mkF m pc Ls st) rfl hd hn hbig hc hl
  exact Ends.go st1 (K T1.vm T1 h1' a ⟨L, X1, e1', F, hO⟩ E1 ⟨A1, C1, ⟨b, kb, V1, K1⟩, hcs, hlen⟩ Z1 o1 ⟨kk, S1, k1', h3.trans R1⟩ R1)
abbrev PostW (Z : State) (EL : List (String × Nat)) (vm0 : Vm) (h : Heap) (Q : Option Value → Heap → List Loc → Prop) (k1 n1 : Nat) : Pt → Array Value → Option Value → Pt → Prop := fun A _ v B => ∃ L, Q v B.U.heap L ∧ B.locs = A.locs ++ L ∧ B.cells = A.cells + k1 ∧ B.slots = A.slots + n1 ∧ CHr Z EL vm0 h B.U.vm B.U.heap
variable {Qc : Option Value → Heap → List Loc → Prop}
/-- a static call of a callee that may intern -/
theorem gStaticW {bytes : ByteArray} {maxL : Nat} {ret : Option FieldType} (N : Now p l e R (s.setVm vm0) m args below meth c Z T h k n) (hx : p.tables.exec = Jvm.exec) (hZ : Z.Warmed39 (s.setVm vm0).vm) (hown : (s.setVm vm0).vm.findClass own = some m.cls) (wd : Wd Z s EL vm0 h)
    (w1 : (Jvm.Cond.methodLink own index y).before a0 Z = true) (w2 : (Jvm.Cond.static y).before a0 Z = true) (w3 : (Jvm.Cond.initialized y.cls).before a0 Z = true) (w4 : (Jvm.Cond.code y bytes maxL ret).before a0 Z = true) (hy : y.cls ≠ "java/lang/invoke/MethodHandle" ∧ y.cls ≠ "java/lang/invoke/VarHandle")
    (B : BackS l R p e below (s.setVm vm0) args y 3 W (PreN R argsL.toArray h k1 n1) (PostW Z EL vm0 h Qc k1 n1)) (hd : decode c.code pc = .ok (.invokestatic index, 3)) (hst : st = argsL.reverse ++ rest) (hsize : Ls.size = c.maxLocals) (hlen : ∀ sig, parseMethodDescriptor y.desc = some sig → argsL.length = sig.parameters.length) (hW : (rest.map fun v => v.category).sum ≤ W)
    (hc : k + k1 ≤ R.cells) (hs : n + n1 ≤ R.slots) (hQ : ∀ v h' L, Qc v h' L → Fr Z.heap.size L)
    (K : ∀ v vm1 T' h' L, Now p l e R (s.setVm vm1) m args below meth c Z T' h' (k + k1) (n + n1) → Qc v h' L → Z.Warmed39 (s.setVm vm1).vm → (s.setVm vm1).vm.findClass own = some m.cls → Wd Z s EL vm1 h' → Ends p e below Φ T' (mkF m (pc + 3) Ls (v.toList ++ rest))) :
    Ends p e below Φ T (mkF m pc Ls st) := by
  obtain ⟨L, X, eT, F, hO⟩ := N
  obtain ⟨k0, h1, h2, h3⟩ := wd
  obtain ⟨v, _, ⟨T1, L1, q1, q2⟩, -, X1, S1, g1, ⟨Lc, hq, l1, y1, z1, C1⟩, st1⟩ := callSS X hx (y := y) hown (mvT hZ w1) (mvT hZ w2) (mvT hZ w3) (mvT hZ w4) hy B (g := mkF m pc Ls st) rfl hsize (argsL := argsL) (rest := rest) hlen hst (by show 2 * 0 + _ ≤ _; omega) hd (fun _ _ => ⟨rfl, eT, hc, hs⟩)
  dsimp only [Pt.U, Pt.locs, Pt.cells, Pt.slots] at X1 l1 y1 z1 st1 hq S1 g1 C1
  subst l1 y1 z1
  have q := hQ _ _ _ hq
  have hh : k0 ≤ T1.heap.size := Nat.le_trans h2 (eT ▸ g1)
  exact Ends.go (fun t r => st1.trans r) (K v T1.vm T1 _ Lc ⟨_, X1, rfl, Fr.app F q, hO⟩ hq (State.Warmed39.trans (t := s.setVm vm0) hZ S1.1) (by rw [show (s.setVm T1.vm).vm = T1.vm from rfl, S1.1.alike.findClass]; exact hown) ⟨_, h1.trans S1 hh, Nat.le_refl _, h3.trans C1⟩)
/-- a constructor that may intern -/
theorem gSpecialW {bytes : ByteArray} {maxL : Nat} {a : Addr} (hy1 : y.name = "<init>") (N : Now p l e R (s.setVm vm0) m args below meth c Z T h k n) (hx : p.tables.exec = Jvm.exec) (hZ : Z.Warmed39 (s.setVm vm0).vm) (hown : (s.setVm vm0).vm.findClass own = some m.cls) (wd : Wd Z s EL vm0 h)
    (w1 : (Jvm.Cond.methodLink own index y).before a0 Z = true) (w2 : (Jvm.Cond.instanceMethod y).before a0 Z = true) (w4 : (Jvm.Cond.code y bytes maxL none).before a0 Z = true) (hy : y.cls ≠ "java/lang/invoke/MethodHandle" ∧ y.cls ≠ "java/lang/invoke/VarHandle")
    (B : BackS l R p e below (s.setVm vm0) args y 3 W (PreN R (.ref a :: argsL).toArray h k1 n1) (PostW Z EL vm0 h Qc k1 n1)) (hd : decode c.code pc = .ok (.invokespecial index, 3)) (hst : st = argsL.reverse ++ .ref a :: rest) (hsize : Ls.size = c.maxLocals) (hlen : ∀ sig, parseMethodDescriptor y.desc = some sig → argsL.length = sig.parameters.length) (hW : (rest.map fun v => v.category).sum ≤ W)
    (hc : k + k1 ≤ R.cells) (hs : n + n1 ≤ R.slots) (hQ : ∀ v h' L, Qc v h' L → Fr Z.heap.size L)
    (K : ∀ v vm1 T' h' L, Now p l e R (s.setVm vm1) m args below meth c Z T' h' (k + k1) (n + n1) → Qc v h' L → Z.Warmed39 (s.setVm vm1).vm → (s.setVm vm1).vm.findClass own = some m.cls → Wd Z s EL vm1 h' → Ends p e below Φ T' (mkF m (pc + 3) Ls (v.toList ++ rest))) :
    Ends p e below Φ T (mkF m pc Ls st) := by
  obtain ⟨L, X, eT, F, hO⟩ := N
  obtain ⟨k0, h1, h2, h3⟩ := wd
  obtain ⟨v, _, ⟨T1, L1, q1, q2⟩, -, X1, S1, g1, ⟨Lc, hq, l1, y1, z1, C1⟩, st1⟩ := X.specialBackS hx (y := y) hy1 hown (mvT hZ w1) (mvT hZ w2) (mvT hZ w4) hy B (g := mkF m pc Ls st) rfl hsize (Steps.refl _) (a := a) (argsL := argsL) (rest := rest) hlen hst (by show 2 * 0 + _ ≤ _; omega) hd (fun _ _ => ⟨rfl, eT, hc, hs⟩)
  dsimp only [Pt.U, Pt.locs, Pt.cells, Pt.slots] at X1 l1 y1 z1 st1 hq S1 g1 C1
  subst l1 y1 z1
  have q := hQ _ _ _ hq
  have hh : k0 ≤ T1.heap.size := Nat.le_trans h2 (eT ▸ g1)
  exact Ends.go (fun t r => st1.trans r) (K v T1.vm T1 _ Lc ⟨_, X1, rfl, Fr.app F q, hO⟩ hq (State.Warmed39.trans (t := s.setVm vm0) hZ S1.1) (by rw [show (s.setVm T1.vm).vm = T1.vm from rfl, S1.1.alike.findClass]; exact hown) ⟨_, h1.trans S1 hh, Nat.le_refl _, h3.trans C1⟩)
theorem MetW.back {bytes : ByteArray} {maxL : Nat} {ret : Option FieldType} {rm : Room} {len : Nat} {as' : Array Value} (hM : MetW l Z EL y bytes maxL ret [] rm as' h Q)
    (hZ : Z.Warmed39 (s.setVm vm0).vm) (wc : (Jvm.Cond.code y bytes maxL ret).before a0 Z = true) (wz : (Jvm.Cond.initialized y.cls).before a0 Z = true) (hf : rm.frames + 1 ≤ R.frames) (hl : W + (maxL + 11) + rm.locals ≤ R.locals) (hEL : EW Z a0 EL) (wd : Wd Z s EL vm0 h) :
    BackS l R p e below (s.setVm vm0) args y len W (PreN R as' h rm.cells rm.slots) (PostW Z EL vm0 h (fun v h' L => Q v h' ∧ Fr Z.heap.size L) rm.cells rm.slots) := backOfSH (Q := fun v h' L => Q v h' ∧ Fr Z.heap.size L) hM hZ wc wz hf hl hEL wd.held
end Steps
end OwnWide
end Jvm.Pilot.@@N@@
namespace Jvm.Pilot.@@N@@
open Jvm Jvm.ClassFile Sem Op Lib Jvm.Free Jvm.Stand Jvm.LawKit Jvm.RoadKit Bundle Jvm.Pilot.@@N@@.Jvm.D
theorem elw {Z : State} {a0 : Array Value} (hw : ∀ d ∈ tables_1, d.before a0 Z = true) : EW Z a0 consts_1 := (EW.cons (hw _ (List.mem_of_getElem? (i := 77) rfl)) (by decide +kernel) (EW.cons (hw _ (List.mem_of_getElem? (i := 87) rfl)) (by decide +kernel) (EW.cons (hw _ (List.mem_of_getElem? (i := 88) rfl)) (by decide +kernel) (EW.cons (hw _ (List.mem_of_getElem? (i := 0) rfl)) (by decide +kernel) (EW.cons (hw _ (List.mem_of_getElem? (i := 89) rfl)) (by decide +kernel) EW.nil)))))
theorem satoms {Z : State} {a0 : Array Value} (hw : ∀ d ∈ tables_1, d.before a0 Z = true) : ∀ a ∈ Bundle.stringAtoms, a.before a0 Z = true := fun d hd => hw d ((by decide +kernel : ∀ d ∈ Bundle.stringAtoms, d ∈ tables_1) d hd)
theorem hp_nil : ∀ c ∈ ([] : List Int32), ¬ c < 0 ∧ ¬ (255 : Int32) < c := fun _ q => nomatch q
theorem hp_cons {c : Int32} {cs : List Int32} (h : ¬ c < 0 ∧ ¬ (255 : Int32) < c) (r : ∀ c ∈ cs, ¬ c < 0 ∧ ¬ (255 : Int32) < c) : ∀ c' ∈ c :: cs, ¬ c' < 0 ∧ ¬ (255 : Int32) < c' := fun c' q => (List.mem_cons.mp q).elim (fun e => e ▸ h) (r c')
/-- a String whose value is still null is no booked constant -/
theorem safe_null {Z : State} {EL : List (String × Nat)} {vm : Vm} {h : Heap} {x : Addr} (hal : Z.vm.Alike vm) (E : Exa Z h x "java/lang/String") (V : Fld Z h x "java/lang/String" "value" "[B" .null) : Safe Z EL vm h x := fun B => by
  obtain ⟨cell, k, e1, e2, -, -, -⟩ := E
  obtain ⟨cell', cf, kf, i, f, v1, v2, -, -, -, -, v7⟩ := V
  cases e1.symm.trans v1
  obtain ⟨p, -, u, a, -, q, -, F, rfl | rfl⟩ := B
  · have g1 : h[q.sa]? = some q.sC := F.ha
    cases g1.symm.trans e1
    obtain ⟨cS, ⟨⟨-, -, -, ⟨cv, kv, iv, s4, -⟩, -, -, -, s8, -⟩, -⟩, -⟩ := F
    obtain ⟨kv', z4⟩ := ff_back (U := Wst Z vm h) hal s4
    cases v2.symm.trans z4
    rw [v7] at s8
    cases s8
  · have g1 : h[q.sd]? = some q.SA := F.hd
    cases g1.symm.trans e1
    obtain ⟨cS, -, -, f2, -⟩ := F
    have f3 : Z.vm.findClass "[B" = some q.SA.cls := by rw [← hal.findClass]; exact f2
    obtain ⟨k1, q1, q2⟩ := Vm.findClass_spec e2
    obtain ⟨k2, q3, q4⟩ := Vm.findClass_spec f3
    cases q1.symm.trans q3
    exact absurd (q2.symm.trans q4) (by decide)
theorem d11_0 : decode jdk_42_method_149_code 0 = .ok (.aload_n 0, 1) := by decide +kernel
theorem d11_1 : decode jdk_42_method_149_code 1 = .ok (.invokespecial 1, 3) := by decide +kernel
theorem d11_4 : decode jdk_42_method_149_code 4 = .ok (.iload_n 3, 1) := by decide +kernel
theorem d11_5 : decode jdk_42_method_149_code 5 = .ok (.ifCond .ne 22, 3) := by decide +kernel
theorem d11_8 : decode jdk_42_method_149_code 8 = .ok (.aload_n 0, 1) := by decide +kernel
theorem d11_9 : decode jdk_42_method_149_code 9 = .ok (.ldc 7, 2) := by decide +kernel
theorem d11_11 : decode jdk_42_method_149_code 11 = .ok (.getfield 9, 3) := by decide +kernel
theorem d11_14 : decode jdk_42_method_149_code 14 = .ok (.putfield 9, 3) := by decide +kernel
theorem d11_17 : decode jdk_42_method_149_code 17 = .ok (.aload_n 0, 1) := by decide +kernel
theorem d11_18 : decode jdk_42_method_149_code 18 = .ok (.ldc 7, 2) := by decide +kernel
theorem d11_20 : decode jdk_42_method_149_code 20 = .ok (.getfield 15, 3) := by decide +kernel
theorem d11_23 : decode jdk_42_method_149_code 23 = .ok (.putfield 15, 3) := by decide +kernel
theorem d11_26 : decode jdk_42_method_149_code 26 = .ok (.return_, 1) := by decide +kernel
set_option maxRecDepth 65536 in
set_option maxHeartbeats 40000000 in
theorem rmE4 (l : Launch) (Z : State) (a0 : Array Value) (hw : ∀ d ∈ tables_1, d.before a0 Z = true) (x b : Addr) (h0 : Heap) (Z0 : Ext Z.heap h0) (E : Exa Z h0 x "java/lang/String") (V : Fld Z h0 x "java/lang/String" "value" "[B" .null) (Cd : Fld Z h0 x "java/lang/String" "coder" "B" (.int 0)) (gz : Z.heap.size ≤ x) :
    MetW l Z consts_1 (⟨"java/lang/String", "<init>", "([CIILjava/lang/Void;)V"⟩ : MethodName) jdk_42_method_149_code 6 none [] ({ frames := 1, cells := 4, slots := 8, locals := 12 } : Room) #[(.ref x), (.ref b), (.int (0 : Int32)), (.int (0 : Int32)), .null] h0 (fun v h => v = none ∧ Keep h0 h [x] ∧ Str Z h x []) := by
  refine metW (by first | exact plainFor_of_name (by first | (simp [plainName, overriddenIn]; done) | decide +kernel) | decide +kernel) Z0 (Ls := #[.val (.ref x), .val (.ref b), .val (.int (0 : Int32)), .val (.int (0 : Int32)), .val .null, .unset]) (fun m => by first | (simp [entryFrame, mkF, argsToLocals, Value.category]; done) | rfl) ?_
  intro p e s m below meth c T0 vm0 hx hby hml hret hlk hown hnm hZ N0 wd0
  refine Ends.go (f' := (mkF m 1 #[.val (.ref x), .val (.ref b), .val (.int (0 : Int32)), .val (.int (0 : Int32)), .val .null, .unset] [(.ref x)])) (fun t k => XS.aloadN N0.here hx rfl (hb hby d11_0) rfl rfl k) ?_
  refine gInitO 0 N0 hx hZ hown (hw _ (List.mem_of_getElem? (i := 60) rfl)) (hw _ (List.mem_of_getElem? (i := 61) rfl)) (hw _ (List.mem_of_getElem? (i := 62) rfl)) (hb hby d11_1) (by rw [hml]; rfl) (nle rfl) (nle rfl) (nle rfl) ?_
  intro T1 N2
  show Ends p e below _ T1 (mkF m 4 #[.val (.ref x), .val (.ref b), .val (.int (0 : Int32)), .val (.int (0 : Int32)), .val .null, .unset] [])
  refine Ends.go (f' := (mkF m 5 #[.val (.ref x), .val (.ref b), .val (.int (0 : Int32)), .val (.int (0 : Int32)), .val .null, .unset] [(.int (0 : Int32))])) (fun t k => XS.iloadN N2.here hx rfl (hb hby d11_4) rfl k) ?_
  refine Ends.go (f' := (mkF m 8 #[.val (.ref x), .val (.ref b), .val (.int (0 : Int32)), .val (.int (0 : Int32)), .val .null, .unset] [])) (fun t k => XS.ifNo N2.here hx rfl (hb hby d11_5) rfl (XT.i0_ne_f (by decide)) k) ?_
  refine Ends.go (f' := (mkF m 9 #[.val (.ref x), .val (.ref b), .val (.int (0 : Int32)), .val (.int (0 : Int32)), .val .null, .unset] [(.ref x)])) (fun t k => XS.aloadN N2.here hx rfl (hb hby d11_8) rfl rfl k) ?_
  refine gLdcS (cs := []) 0 N2 hx hZ hown (hw _ (List.mem_of_getElem? (i := 89) rfl)) (satoms hw) (elw hw) (by simp [consts_1]) wd0 ⟨by decide +kernel, by decide +kernel⟩ (by decide +kernel) (nle rfl) (hb hby d11_9) (nle rfl) (nle rfl) (nle rfl) (nle rfl) ?_
  intro vm3 T4 h5 a6 N7 E8 S9 hZ hown wd10 R11
  have X12 : Ext h0 h5 := ext_trans (ext_refl h0) E8
  show Ends p e below _ T4 (mkF m 11 #[.val (.ref x), .val (.ref b), .val (.int (0 : Int32)), .val (.int (0 : Int32)), .val .null, .unset] [(.ref a6), (.ref x)])
  obtain ⟨A1, C1, ⟨t1, kb1, V1, K1⟩, -, -⟩ := S9
  refine gGet (host := "") N7 hx hZ hown (Or.inl (hw _ (List.mem_of_getElem? (i := 22) rfl))) Via.refl V1 (hb hby d11_11) ?_
  intro T13 N14
  show Ends p e below _ T13 (mkF m 14 #[.val (.ref x), .val (.ref b), .val (.int (0 : Int32)), .val (.int (0 : Int32)), .val .null, .unset] [(.ref t1), (.ref x)])
  have ex1 := E.ext E8
  have vx1 := V.ext E8
  have cx1 := Cd.ext E8
  have ne1 : t1 ≠ x := fun q => (Exa.neArv ex1 K1 (hw _ (List.mem_of_getElem? (i := 2) rfl))) q.symm
  have sne : RoadKit.slotOf Z "java/lang/String" "coder" "B" ≠ RoadKit.slotOf Z "java/lang/String" "value" "[B" := slot_ne (t := .byte) (t' := .array .byte) (Or.inr (hw _ (List.mem_of_getElem? (i := 5) rfl))) (Or.inr (hw _ (List.mem_of_getElem? (i := 4) rfl))) (by decide) (by decide) (by decide)
  have sf1 : Safe Z consts_1 vm3 h5 x := safe_null hZ.alike ex1 vx1
  refine gPut (host := "") (C := "java/lang/String") N14 hx hZ hown (Or.inl (hw _ (List.mem_of_getElem? (i := 22) rfl))) Via.refl vx1 ex1 gz (Or.inr ⟨(hw _ (List.mem_of_getElem? (i := 4) rfl)), rfl, hnm⟩) (hw _ (List.mem_of_getElem? (i := 2) rfl)) (ty := (.array .byte)) (by decide) rfl rfl (hb hby d11_14) ?_
  intro T15 h16 N17 W18 F19 E20
  have wd2 : Wd Z s consts_1 vm3 h16 := wd10.keep (Keep.of_wr W18) (allS sf1 all0)
  have sf2 : Safe Z consts_1 vm3 h16 x := Safe.wr W18 sf1 wd10.held sf1
  show Ends p e below _ T15 (mkF m 17 #[.val (.ref x), .val (.ref b), .val (.int (0 : Int32)), .val (.int (0 : Int32)), .val .null, .unset] [])
  refine Ends.go (f' := (mkF m 18 #[.val (.ref x), .val (.ref b), .val (.int (0 : Int32)), .val (.int (0 : Int32)), .val .null, .unset] [(.ref x)])) (fun t k => XS.aloadN N17.here hx rfl (hb hby d11_17) rfl rfl k) ?_
  refine gLdcS (cs := []) 0 N17 hx hZ hown (hw _ (List.mem_of_getElem? (i := 89) rfl)) (satoms hw) (elw hw) (by simp [consts_1]) wd2 ⟨by decide +kernel, by decide +kernel⟩ (by decide +kernel) (nle rfl) (hb hby d11_18) (nle rfl) (nle rfl) (nle rfl) (nle rfl) ?_
  intro vm21 T22 h23 a24 N25 E26 S27 hZ hown wd28 R29
  have X30 : Ext h16 h23 := ext_trans (ext_refl h16) E26
  show Ends p e below _ T22 (mkF m 20 #[.val (.ref x), .val (.ref b), .val (.int (0 : Int32)), .val (.int (0 : Int32)), .val .null, .unset] [(.ref a24), (.ref x)])
  obtain ⟨A3, C3, -, -, -⟩ := S27
  refine gGet (host := "") N25 hx hZ hown (Or.inl (hw _ (List.mem_of_getElem? (i := 29) rfl))) Via.refl C3 (hb hby d11_20) ?_
  intro T31 N32
  show Ends p e below _ T31 (mkF m 23 #[.val (.ref x), .val (.ref b), .val (.int (0 : Int32)), .val (.int (0 : Int32)), .val .null, .unset] [(.int (0 : Int32)), (.ref x)])
  have sf3 : Safe Z consts_1 vm21 h23 x := R29.safe E20.lt sf2
  refine gPut (host := "") (C := "java/lang/String") N32 hx hZ hown (Or.inl (hw _ (List.mem_of_getElem? (i := 29) rfl))) Via.refl ((cx1.other W18 (Or.inr sne)).ext E26) (E20.ext E26) gz (Or.inr ⟨(hw _ (List.mem_of_getElem? (i := 5) rfl)), rfl, hnm⟩) (hw _ (List.mem_of_getElem? (i := 2) rfl)) (ty := .byte) (by decide) rfl rfl (hb hby d11_23) ?_
  intro T33 h34 N35 W36 F37 E38
  have wd4 : Wd Z s consts_1 vm21 h34 := wd28.keep (Keep.of_wr W36) (allS sf3 all0)
  show Ends p e below _ T33 (mkF m 26 #[.val (.ref x), .val (.ref b), .val (.int (0 : Int32)), .val (.int (0 : Int32)), .val .null, .unset] [])
  exact retVW N35 hZ (elw hw) wd4 hx hlk hret (hb hby d11_26) ⟨rfl, (((((Keep.refl h0 [x]).ext E8).wr W18 (Or.inl (List.mem_singleton.mpr rfl))).ext E26).wr W36 (Or.inl (List.mem_singleton.mpr rfl))), E38, F37, ⟨t1, kb1, (F19.ext E26).other W36 (Or.inr sne.symm), (((K1.other W18 ne1).ext E26).other W36 ne1)⟩, hp_nil, by decide⟩ (nle rfl) (nle rfl)
theorem d10_0 : decode jdk_42_method_3_code 0 = .ok (.aload_n 0, 1) := by decide +kernel
theorem d10_1 : decode jdk_42_method_3_code 1 = .ok (.aload_n 1, 1) := by decide +kernel
theorem d10_2 : decode jdk_42_method_3_code 2 = .ok (.iconst 0, 1) := by decide +kernel
theorem d10_3 : decode jdk_42_method_3_code 3 = .ok (.aload_n 1, 1) := by decide +kernel
theorem d10_4 : decode jdk_42_method_3_code 4 = .ok (.arraylength, 1) := by decide +kernel
theorem d10_5 : decode jdk_42_method_3_code 5 = .ok (.aconst_null, 1) := by decide +kernel
theorem d10_6 : decode jdk_42_method_3_code 6 = .ok (.invokespecial 27, 3) := by decide +kernel
theorem d10_9 : decode jdk_42_method_3_code 9 = .ok (.return_, 1) := by decide +kernel
set_option maxRecDepth 65536 in
set_option maxHeartbeats 40000000 in
theorem rmE1 (l : Launch) (Z : State) (a0 : Array Value) (hw : ∀ d ∈ tables_1, d.before a0 Z = true) (x b : Addr) (kC : ClassId) (vs : List Value) (d : Value) (h0 : Heap) (Z0 : Ext Z.heap h0) (E : Exa Z h0 x "java/lang/String") (V : Fld Z h0 x "java/lang/String" "value" "[B" .null) (Cd : Fld Z h0 x "java/lang/String" "coder" "B" (.int 0)) (gz : Z.heap.size ≤ x) (Kb : Arv Z h0 b kC .char (0 : Int32) vs d) :
    MetW l Z consts_1 (⟨"java/lang/String", "<init>", "([C)V"⟩ : MethodName) jdk_42_method_3_code 2 none [] ({ frames := 2, cells := 4, slots := 8, locals := 29 } : Room) #[(.ref x), (.ref b)] h0 (fun v h => v = none ∧ Keep h0 h [x] ∧ Str Z h x []) := by
  refine metW (by first | exact plainFor_of_name (by first | (simp [plainName, overriddenIn]; done) | decide +kernel) | decide +kernel) Z0 (Ls := #[.val (.ref x), .val (.ref b)]) (fun m => by first | (simp [entryFrame, mkF, argsToLocals, Value.category]; done) | rfl) ?_
  intro p e s m below meth c T0 vm0 hx hby hml hret hlk hown hnm hZ N0 wd0
  refine Ends.go (f' := (mkF m 1 #[.val (.ref x), .val (.ref b)] [(.ref x)])) (fun t k => XS.aloadN N0.here hx rfl (hb hby d10_0) rfl rfl k) ?_
  refine Ends.go (f' := (mkF m 2 #[.val (.ref x), .val (.ref b)] [(.ref b), (.ref x)])) (fun t k => XS.aloadN N0.here hx rfl (hb hby d10_1) rfl rfl k) ?_
  refine Ends.go (f' := (mkF m 3 #[.val (.ref x), .val (.ref b)] [(.int (0 : Int32)), (.ref b), (.ref x)])) (fun t k => XS.iconst N0.here hx rfl (hb hby d10_2) k) ?_
  refine Ends.go (f' := (mkF m 4 #[.val (.ref x), .val (.ref b)] [(.ref b), (.int (0 : Int32)), (.ref b), (.ref x)])) (fun t k => XS.aloadN N0.here hx rfl (hb hby d10_3) rfl rfl k) ?_
  refine gLen N0 hx hZ Kb (hb hby d10_4) ?_
  show Ends p e below _ T0 (mkF m 5 #[.val (.ref x), .val (.ref b)] [(.int (0 : Int32)), (.int (0 : Int32)), (.ref b), (.ref x)])
  refine Ends.go (f' := (mkF m 6 #[.val (.ref x), .val (.ref b)] [.null, (.int (0 : Int32)), (.int (0 : Int32)), (.ref b), (.ref x)])) (fun t k => XS.aconstNull N0.here hx rfl (hb hby d10_5) k) ?_
  refine gSpecialW (W := 0) (y := (⟨"java/lang/String", "<init>", "([CIILjava/lang/Void;)V"⟩ : MethodName)) (a := x) (argsL := [(.ref b), (.int (0 : Int32)), (.int (0 : Int32)), .null]) (rest := []) rfl N0 hx hZ hown wd0 (hw _ (List.mem_of_getElem? (i := 56) rfl)) (hw _ (List.mem_of_getElem? (i := 57) rfl)) (hw _ (List.mem_of_getElem? (i := 59) rfl)) (by decide) ((rmE4 l Z a0 hw x b h0 N0.ext E V Cd gz).back (W := 0) hZ (hw _ (List.mem_of_getElem? (i := 59) rfl)) (hw _ (List.mem_of_getElem? (i := 1) rfl)) (nle rfl) (nle rfl) (elw hw) wd0) (hb hby d10_6) rfl (by rw [hml]; rfl) (lenOf (by decide +kernel : parseMethodDescriptor "([CIILjava/lang/Void;)V" = some ⟨[(.array .char), .int, .int, (.object "java/lang/Void")], none⟩) rfl) (nle rfl) (nle rfl) (nle rfl) (fun _ _ _ q => q.2) ?_
  rintro _ vm1 T2 h3 L6 N4 ⟨⟨rfl, q1, q2⟩, -⟩ hZ hown wd5
  show Ends p e below _ T2 (mkF m 9 #[.val (.ref x), .val (.ref b)] [])
  exact retVW N4 hZ (elw hw) wd5 hx hlk hret (hb hby d10_9) ⟨rfl, q1, q2⟩ (nle rfl) (nle rfl)
theorem fr_nil {Z : State} {L : List Loc} (q : L = []) : Fr Z.heap.size L := q ▸ Fr.nil _
theorem nar_ok {c : Int32} (h : ¬ c < 0 ∧ ¬ (255 : Int32) < c) : nar .char c = c := by
  apply Int32.toInt_inj.mp
  have q := c_i2c c
  have e2 : (nar .char c).toInt = c.toUInt32.toUInt16.toUInt32.toInt32.toInt := rfl
  have e0 : (0 : Int32).toInt = 0 := rfl
  have e255 : (255 : Int32).toInt = 255 := rfl
  rw [Int32.lt_iff_toInt_lt, Int32.lt_iff_toInt_lt] at h
  omega
theorem nar255 (x : Int32) : (nar .char (x &&& (255 : Int32))).toInt = (x &&& (255 : Int32)).toInt := by
  have q := c_and x (255 : Int32) (by decide)
  have r := c_i2c (x &&& (255 : Int32))
  have e7 : (255 : Int32).toInt = 255 := rfl
  have e2 : (nar .char (x &&& (255 : Int32))).toInt = (x &&& (255 : Int32)).toUInt32.toUInt16.toUInt32.toInt32.toInt := rfl
  omega
theorem ok255 (x : Int32) : ¬ nar .char (x &&& (255 : Int32)) < 0 ∧ ¬ (255 : Int32) < nar .char (x &&& (255 : Int32)) := by
  have q := c_and x (255 : Int32) (by decide)
  have r := nar255 x
  have e7 : (255 : Int32).toInt = 255 := rfl
  have e0 : (0 : Int32).toInt = 0 := rfl
  rw [Int32.lt_iff_toInt_lt, Int32.lt_iff_toInt_lt]; omega
def fAt (ct : List Int32) (i : Nat) (pos c f : Int32) : Int32 := if Int32.ofNat i = pos then c else if Int32.ofNat i < Int32.ofNat ct.length then ct.getD i 0 else f
theorem at_ok {ct : List Int32} {i : Nat} {pos c f : Int32} (hc : ¬ c < 0 ∧ ¬ (255 : Int32) < c) (hf : ¬ f < 0 ∧ ¬ (255 : Int32) < f) (ht : ∀ c ∈ ct, ¬ c < 0 ∧ ¬ (255 : Int32) < c) : ¬ fAt ct i pos c f < 0 ∧ ¬ (255 : Int32) < fAt ct i pos c f := by
  unfold fAt
  split
  · exact hc
  · split
    · rw [List.getD_eq_getElem?_getD]
      cases q : ct[i]? with
      | none => decide
      | some d => exact ht d (List.mem_of_getElem? q)
    · exact hf
theorem ofNat_toInt {i : Nat} (h : i ≤ 4000) : (Int32.ofNat i).toInt = i := len_toInt (by omega)
theorem ofNat_lt {i j : Nat} (hi : i ≤ 4000) (hj : j ≤ 4000) : Int32.ofNat i < Int32.ofNat j ↔ i < j := by
  rw [Int32.lt_iff_toInt_lt, ofNat_toInt hi, ofNat_toInt hj]; omega
theorem d2_0 : decode method_3_code 0 = .ok (.iload_n 1, 1) := by decide +kernel
theorem d2_1 : decode method_3_code 1 = .ok (.iload_n 2, 1) := by decide +kernel
theorem d2_2 : decode method_3_code 2 = .ok (.if_icmp .ne 5, 3) := by decide +kernel
theorem d2_5 : decode method_3_code 5 = .ok (.iload_n 3, 1) := by decide +kernel
theorem d2_6 : decode method_3_code 6 = .ok (.ireturn, 1) := by decide +kernel
theorem d2_7 : decode method_3_code 7 = .ok (.iload_n 1, 1) := by decide +kernel
theorem d2_8 : decode method_3_code 8 = .ok (.aload_n 0, 1) := by decide +kernel
theorem d2_9 : decode method_3_code 9 = .ok (.invokevirtual 23, 3) := by decide +kernel
theorem d2_12 : decode method_3_code 12 = .ok (.if_icmp .ge 9, 3) := by decide +kernel
theorem d2_15 : decode method_3_code 15 = .ok (.aload_n 0, 1) := by decide +kernel
theorem d2_16 : decode method_3_code 16 = .ok (.iload_n 1, 1) := by decide +kernel
theorem d2_17 : decode method_3_code 17 = .ok (.invokevirtual 27, 3) := by decide +kernel
theorem d2_20 : decode method_3_code 20 = .ok (.ireturn, 1) := by decide +kernel
theorem d2_21 : decode method_3_code 21 = .ok (.iload 4, 2) := by decide +kernel
theorem d2_23 : decode method_3_code 23 = .ok (.ireturn, 1) := by decide +kernel
set_option maxRecDepth 65536 in
set_option maxHeartbeats 40000000 in
theorem rmAt (l : Launch) (Z : State) (a0 : Array Value) (hw : ∀ d ∈ tables_1, d.before a0 Z = true) (t : Addr) (i : Nat) (pos cc f : Int32) (ct : List Int32) (h0 : Heap) (Z0 : Ext Z.heap h0) (G : Jdk Z) (S : Str Z h0 t ct) (hi : i ≤ 4000) (hc : ¬ cc < 0 ∧ ¬ (255 : Int32) < cc) (hf : ¬ f < 0 ∧ ¬ (255 : Int32) < f) :
    MetN l Z (⟨"com/example/waypost/waypost/cli/ContentOptionsIsContentOptionPinLaw", "at", "(Ljava/lang/String;IICC)C"⟩ : MethodName) method_3_code 5 (some .char) [] ({ frames := 4, cells := 0, slots := 0, locals := 53 } : Room) #[(.ref t), (.int (Int32.ofNat i)), (.int pos), (.int cc), (.int f)] h0 (fun v h => v = some (.int (fAt ct i pos cc f)) ∧ h = h0) := by
  refine metN (by first | exact plainFor_of_name (by first | (simp [plainName, overriddenIn]; done) | decide +kernel) | decide +kernel) Z0 (Ls := #[.val (.ref t), .val (.int (Int32.ofNat i)), .val (.int pos), .val (.int cc), .val (.int f)]) (fun m => by first | (simp [entryFrame, mkF, argsToLocals, Value.category]; done) | rfl) ?_
  intro p e s m below meth c T0 hx hby hml hret hlk hown hnm hZ N0
  refine Ends.go (f' := (mkF m 1 #[.val (.ref t), .val (.int (Int32.ofNat i)), .val (.int pos), .val (.int cc), .val (.int f)] [(.int (Int32.ofNat i))])) (fun t k => XS.iloadN N0.here hx rfl (hb hby d2_0) rfl k) ?_
  refine Ends.go (f' := (mkF m 2 #[.val (.ref t), .val (.int (Int32.ofNat i)), .val (.int pos), .val (.int cc), .val (.int f)] [(.int pos), (.int (Int32.ofNat i))])) (fun t k => XS.iloadN N0.here hx rfl (hb hby d2_1) rfl k) ?_
  by_cases c1 : Int32.ofNat i = pos
  · refine Ends.go (f' := (mkF m 5 #[.val (.ref t), .val (.int (Int32.ofNat i)), .val (.int pos), .val (.int cc), .val (.int f)] [])) (fun t k => XS.icmpNo N0.here hx rfl (hb hby d2_2) rfl (XT.ii_ne_f c1) k) ?_
    refine Ends.go (f' := (mkF m 6 #[.val (.ref t), .val (.int (Int32.ofNat i)), .val (.int pos), .val (.int cc), .val (.int f)] [(.int cc)])) (fun t k => XS.iloadN N0.here hx rfl (hb hby d2_5) rfl k) ?_
    exact retZ N0 hx hlk hret (by simp) (hb hby d2_6) ⟨by rw [nar_ok hc]; simp only [fAt, if_pos c1], rfl⟩ (nle rfl) (nle rfl)
  · refine Ends.go (f' := (mkF m 7 #[.val (.ref t), .val (.int (Int32.ofNat i)), .val (.int pos), .val (.int cc), .val (.int f)] [])) (fun t k => XS.icmpYes N0.here hx rfl (pc0 := 2) (pc' := 7) rfl (hb hby d2_2) rfl (XT.ii_ne_t c1) (by decide) (by decide) k) ?_
    refine Ends.go (f' := (mkF m 8 #[.val (.ref t), .val (.int (Int32.ofNat i)), .val (.int pos), .val (.int cc), .val (.int f)] [(.int (Int32.ofNat i))])) (fun t k => XS.iloadN N0.here hx rfl (hb hby d2_7) rfl k) ?_
    refine Ends.go (f' := (mkF m 9 #[.val (.ref t), .val (.int (Int32.ofNat i)), .val (.int pos), .val (.int cc), .val (.int f)] [(.ref t), (.int (Int32.ofNat i))])) (fun t k => XS.aloadN N0.here hx rfl (hb hby d2_8) rfl rfl k) ?_
    refine gVirtual (W := 1) (y := (⟨"java/lang/String", "length", "()I"⟩ : MethodName)) (z := (⟨"java/lang/String", "length", "()I"⟩ : MethodName)) (C := "java/lang/String") (b := t) (argsL := []) (rest := [(.int (Int32.ofNat i))]) N0 hx hZ hown (hw _ (List.mem_of_getElem? (i := 17) rfl)) (hw _ (List.mem_of_getElem? (i := 18) rfl)) (hw _ (List.mem_of_getElem? (i := 20) rfl)) (hw _ (List.mem_of_getElem? (i := 19) rfl)) (by decide) (notFace_of_selects (args := #[]) (mvT hZ (hw _ (List.mem_of_getElem? (i := 20) rfl)))) S.1 (strLen (W := 1) hZ hw G N0.ext S (nle rfl) (nle rfl)) (hb hby d2_9) rfl (by rw [hml]; rfl) (lenOf (by decide +kernel : parseMethodDescriptor "()I" = some ⟨[], (some .int)⟩) rfl) (nle rfl) (nle rfl) (nle rfl) (fun _ _ _ q => fr_nil q.2.1) ?_
    rintro _ T1 _ _ N2 ⟨rfl, -, e_h⟩; rw [e_h] at N2; clear e_h
    show Ends p e below _ T1 (mkF m 12 #[.val (.ref t), .val (.int (Int32.ofNat i)), .val (.int pos), .val (.int cc), .val (.int f)] [(.int (Int32.ofNat (ct).length)), (.int (Int32.ofNat i))])
    by_cases c2 : Int32.ofNat i < Int32.ofNat ct.length
    · refine Ends.go (f' := (mkF m 15 #[.val (.ref t), .val (.int (Int32.ofNat i)), .val (.int pos), .val (.int cc), .val (.int f)] [])) (fun t k => XS.icmpNo N2.here hx rfl (hb hby d2_12) rfl (XT.ii_ge_f c2) k) ?_
      refine Ends.go (f' := (mkF m 16 #[.val (.ref t), .val (.int (Int32.ofNat i)), .val (.int pos), .val (.int cc), .val (.int f)] [(.ref t)])) (fun t k => XS.aloadN N2.here hx rfl (hb hby d2_15) rfl rfl k) ?_
      refine Ends.go (f' := (mkF m 17 #[.val (.ref t), .val (.int (Int32.ofNat i)), .val (.int pos), .val (.int cc), .val (.int f)] [(.int (Int32.ofNat i)), (.ref t)])) (fun t k => XS.iloadN N2.here hx rfl (hb hby d2_16) rfl k) ?_
      have hi1 : i < ct.length := (ofNat_lt hi S.2.2.2.2).mp c2
      refine gVirtual (W := 0) (y := (⟨"java/lang/String", "charAt", "(I)C"⟩ : MethodName)) (z := (⟨"java/lang/String", "charAt", "(I)C"⟩ : MethodName)) (C := "java/lang/String") (b := t) (argsL := [(.int (Int32.ofNat i))]) (rest := []) N2 hx hZ hown (hw _ (List.mem_of_getElem? (i := 30) rfl)) (hw _ (List.mem_of_getElem? (i := 31) rfl)) (hw _ (List.mem_of_getElem? (i := 33) rfl)) (hw _ (List.mem_of_getElem? (i := 32) rfl)) (by decide) (notFace_of_selects (args := #[]) (mvT hZ (hw _ (List.mem_of_getElem? (i := 33) rfl)))) S.1 (strAt (W := 0) hZ hw G N2.ext S (i := i) hi1 rfl (nle rfl) (nle rfl)) (hb hby d2_17) rfl (by rw [hml]; rfl) (lenOf (by decide +kernel : parseMethodDescriptor "(I)C" = some ⟨[.int], (some .char)⟩) rfl) (nle rfl) (nle rfl) (nle rfl) (fun _ _ _ q => fr_nil q.2.1) ?_
      rintro _ T3 _ _ N4 ⟨rfl, -, e_h⟩; rw [e_h] at N4; clear e_h
      show Ends p e below _ T3 (mkF m 20 #[.val (.ref t), .val (.int (Int32.ofNat i)), .val (.int pos), .val (.int cc), .val (.int f)] [(.int (ct.getD i 0))])
      have q9 : fAt ct i pos cc f = ct.getD i 0 := by simp only [fAt, if_neg c1, if_pos c2]
      exact retZ N4 hx hlk hret (by simp) (hb hby d2_20) ⟨by rw [← q9, nar_ok (at_ok hc hf S.2.2.2.1)], rfl⟩ (nle rfl) (nle rfl)
    · refine Ends.go (f' := (mkF m 21 #[.val (.ref t), .val (.int (Int32.ofNat i)), .val (.int pos), .val (.int cc), .val (.int f)] [])) (fun t k => XS.icmpYes N2.here hx rfl (pc0 := 12) (pc' := 21) rfl (hb hby d2_12) rfl (XT.ii_ge_t c2) (by decide) (by decide) k) ?_
      refine Ends.go (f' := (mkF m 23 #[.val (.ref t), .val (.int (Int32.ofNat i)), .val (.int pos), .val (.int cc), .val (.int f)] [(.int f)])) (fun t k => XS.iload N2.here hx rfl (hb hby d2_21) rfl k) ?_
      exact retZ N2 hx hlk hret (by simp) (hb hby d2_23) ⟨by rw [nar_ok hf]; simp only [fAt, if_neg c1, if_neg c2], rfl⟩ (nle rfl) (nle rfl)
theorem d1_0 : decode method_4_code 0 = .ok (.aload_n 0, 1) := by decide +kernel
theorem d1_1 : decode method_4_code 1 = .ok (.arraylength, 1) := by decide +kernel
theorem d1_2 : decode method_4_code 2 = .ok (.ifCond .le 15, 3) := by decide +kernel
theorem d1_5 : decode method_4_code 5 = .ok (.aload_n 0, 1) := by decide +kernel
theorem d1_6 : decode method_4_code 6 = .ok (.iconst 0, 1) := by decide +kernel
theorem d1_7 : decode method_4_code 7 = .ok (.aload_n 1, 1) := by decide +kernel
theorem d1_8 : decode method_4_code 8 = .ok (.iconst 0, 1) := by decide +kernel
theorem d1_9 : decode method_4_code 9 = .ok (.iload_n 2, 1) := by decide +kernel
theorem d1_10 : decode method_4_code 10 = .ok (.iload_n 3, 1) := by decide +kernel
theorem d1_11 : decode method_4_code 11 = .ok (.iload 4, 2) := by decide +kernel
theorem d1_13 : decode method_4_code 13 = .ok (.invokestatic 37, 3) := by decide +kernel
theorem d1_16 : decode method_4_code 16 = .ok (.castore, 1) := by decide +kernel
theorem d1_17 : decode method_4_code 17 = .ok (.aload_n 0, 1) := by decide +kernel
theorem d1_18 : decode method_4_code 18 = .ok (.arraylength, 1) := by decide +kernel
theorem d1_19 : decode method_4_code 19 = .ok (.iconst 1, 1) := by decide +kernel
theorem d1_20 : decode method_4_code 20 = .ok (.if_icmp .le 15, 3) := by decide +kernel
theorem d1_23 : decode method_4_code 23 = .ok (.aload_n 0, 1) := by decide +kernel
theorem d1_24 : decode method_4_code 24 = .ok (.iconst 1, 1) := by decide +kernel
theorem d1_25 : decode method_4_code 25 = .ok (.aload_n 1, 1) := by decide +kernel
theorem d1_26 : decode method_4_code 26 = .ok (.iconst 1, 1) := by decide +kernel
theorem d1_27 : decode method_4_code 27 = .ok (.iload_n 2, 1) := by decide +kernel
theorem d1_28 : decode method_4_code 28 = .ok (.iload_n 3, 1) := by decide +kernel
theorem d1_29 : decode method_4_code 29 = .ok (.iload 4, 2) := by decide +kernel
theorem d1_31 : decode method_4_code 31 = .ok (.invokestatic 37, 3) := by decide +kernel
theorem d1_34 : decode method_4_code 34 = .ok (.castore, 1) := by decide +kernel
theorem d1_35 : decode method_4_code 35 = .ok (.aload_n 0, 1) := by decide +kernel
theorem d1_36 : decode method_4_code 36 = .ok (.arraylength, 1) := by decide +kernel
theorem d1_37 : decode method_4_code 37 = .ok (.iconst 2, 1) := by decide +kernel
theorem d1_38 : decode method_4_code 38 = .ok (.if_icmp .le 15, 3) := by decide +kernel
theorem d1_41 : decode method_4_code 41 = .ok (.aload_n 0, 1) := by decide +kernel
theorem d1_42 : decode method_4_code 42 = .ok (.iconst 2, 1) := by decide +kernel
theorem d1_43 : decode method_4_code 43 = .ok (.aload_n 1, 1) := by decide +kernel
theorem d1_44 : decode method_4_code 44 = .ok (.iconst 2, 1) := by decide +kernel
theorem d1_45 : decode method_4_code 45 = .ok (.iload_n 2, 1) := by decide +kernel
theorem d1_46 : decode method_4_code 46 = .ok (.iload_n 3, 1) := by decide +kernel
theorem d1_47 : decode method_4_code 47 = .ok (.iload 4, 2) := by decide +kernel
theorem d1_49 : decode method_4_code 49 = .ok (.invokestatic 37, 3) := by decide +kernel
theorem d1_52 : decode method_4_code 52 = .ok (.castore, 1) := by decide +kernel
theorem d1_53 : decode method_4_code 53 = .ok (.aload_n 0, 1) := by decide +kernel
theorem d1_54 : decode method_4_code 54 = .ok (.arraylength, 1) := by decide +kernel
theorem d1_55 : decode method_4_code 55 = .ok (.iconst 3, 1) := by decide +kernel
theorem d1_56 : decode method_4_code 56 = .ok (.if_icmp .le 15, 3) := by decide +kernel
theorem d1_59 : decode method_4_code 59 = .ok (.aload_n 0, 1) := by decide +kernel
theorem d1_60 : decode method_4_code 60 = .ok (.iconst 3, 1) := by decide +kernel
theorem d1_61 : decode method_4_code 61 = .ok (.aload_n 1, 1) := by decide +kernel
theorem d1_62 : decode method_4_code 62 = .ok (.iconst 3, 1) := by decide +kernel
theorem d1_63 : decode method_4_code 63 = .ok (.iload_n 2, 1) := by decide +kernel
theorem d1_64 : decode method_4_code 64 = .ok (.iload_n 3, 1) := by decide +kernel
theorem d1_65 : decode method_4_code 65 = .ok (.iload 4, 2) := by decide +kernel
theorem d1_67 : decode method_4_code 67 = .ok (.invokestatic 37, 3) := by decide +kernel
theorem d1_70 : decode method_4_code 70 = .ok (.castore, 1) := by decide +kernel
theorem d1_71 : decode method_4_code 71 = .ok (.aload_n 0, 1) := by decide +kernel
theorem d1_72 : decode method_4_code 72 = .ok (.arraylength, 1) := by decide +kernel
theorem d1_73 : decode method_4_code 73 = .ok (.iconst 4, 1) := by decide +kernel
theorem d1_74 : decode method_4_code 74 = .ok (.if_icmp .le 15, 3) := by decide +kernel
theorem d1_77 : decode method_4_code 77 = .ok (.aload_n 0, 1) := by decide +kernel
theorem d1_78 : decode method_4_code 78 = .ok (.iconst 4, 1) := by decide +kernel
theorem d1_79 : decode method_4_code 79 = .ok (.aload_n 1, 1) := by decide +kernel
theorem d1_80 : decode method_4_code 80 = .ok (.iconst 4, 1) := by decide +kernel
theorem d1_81 : decode method_4_code 81 = .ok (.iload_n 2, 1) := by decide +kernel
theorem d1_82 : decode method_4_code 82 = .ok (.iload_n 3, 1) := by decide +kernel
theorem d1_83 : decode method_4_code 83 = .ok (.iload 4, 2) := by decide +kernel
theorem d1_85 : decode method_4_code 85 = .ok (.invokestatic 37, 3) := by decide +kernel
theorem d1_88 : decode method_4_code 88 = .ok (.castore, 1) := by decide +kernel
theorem d1_89 : decode method_4_code 89 = .ok (.aload_n 0, 1) := by decide +kernel
theorem d1_90 : decode method_4_code 90 = .ok (.arraylength, 1) := by decide +kernel
theorem d1_91 : decode method_4_code 91 = .ok (.iconst 5, 1) := by decide +kernel
theorem d1_92 : decode method_4_code 92 = .ok (.if_icmp .le 15, 3) := by decide +kernel
theorem d1_95 : decode method_4_code 95 = .ok (.aload_n 0, 1) := by decide +kernel
theorem d1_96 : decode method_4_code 96 = .ok (.iconst 5, 1) := by decide +kernel
theorem d1_97 : decode method_4_code 97 = .ok (.aload_n 1, 1) := by decide +kernel
theorem d1_98 : decode method_4_code 98 = .ok (.iconst 5, 1) := by decide +kernel
theorem d1_99 : decode method_4_code 99 = .ok (.iload_n 2, 1) := by decide +kernel
theorem d1_100 : decode method_4_code 100 = .ok (.iload_n 3, 1) := by decide +kernel
theorem d1_101 : decode method_4_code 101 = .ok (.iload 4, 2) := by decide +kernel
theorem d1_103 : decode method_4_code 103 = .ok (.invokestatic 37, 3) := by decide +kernel
theorem d1_106 : decode method_4_code 106 = .ok (.castore, 1) := by decide +kernel
theorem d1_107 : decode method_4_code 107 = .ok (.aload_n 0, 1) := by decide +kernel
theorem d1_108 : decode method_4_code 108 = .ok (.arraylength, 1) := by decide +kernel
theorem d1_109 : decode method_4_code 109 = .ok (.bipush 6, 2) := by decide +kernel
theorem d1_111 : decode method_4_code 111 = .ok (.if_icmp .le 17, 3) := by decide +kernel
theorem d1_114 : decode method_4_code 114 = .ok (.aload_n 0, 1) := by decide +kernel
theorem d1_115 : decode method_4_code 115 = .ok (.bipush 6, 2) := by decide +kernel
theorem d1_117 : decode method_4_code 117 = .ok (.aload_n 1, 1) := by decide +kernel
theorem d1_118 : decode method_4_code 118 = .ok (.bipush 6, 2) := by decide +kernel
theorem d1_120 : decode method_4_code 120 = .ok (.iload_n 2, 1) := by decide +kernel
theorem d1_121 : decode method_4_code 121 = .ok (.iload_n 3, 1) := by decide +kernel
theorem d1_122 : decode method_4_code 122 = .ok (.iload 4, 2) := by decide +kernel
theorem d1_124 : decode method_4_code 124 = .ok (.invokestatic 37, 3) := by decide +kernel
theorem d1_127 : decode method_4_code 127 = .ok (.castore, 1) := by decide +kernel
theorem d1_128 : decode method_4_code 128 = .ok (.aload_n 0, 1) := by decide +kernel
theorem d1_129 : decode method_4_code 129 = .ok (.arraylength, 1) := by decide +kernel
theorem d1_130 : decode method_4_code 130 = .ok (.bipush 7, 2) := by decide +kernel
theorem d1_132 : decode method_4_code 132 = .ok (.if_icmp .le 17, 3) := by decide +kernel
theorem d1_135 : decode method_4_code 135 = .ok (.aload_n 0, 1) := by decide +kernel
theorem d1_136 : decode method_4_code 136 = .ok (.bipush 7, 2) := by decide +kernel
theorem d1_138 : decode method_4_code 138 = .ok (.aload_n 1, 1) := by decide +kernel
theorem d1_139 : decode method_4_code 139 = .ok (.bipush 7, 2) := by decide +kernel
theorem d1_141 : decode method_4_code 141 = .ok (.iload_n 2, 1) := by decide +kernel
theorem d1_142 : decode method_4_code 142 = .ok (.iload_n 3, 1) := by decide +kernel
theorem d1_143 : decode method_4_code 143 = .ok (.iload 4, 2) := by decide +kernel
theorem d1_145 : decode method_4_code 145 = .ok (.invokestatic 37, 3) := by decide +kernel
theorem d1_148 : decode method_4_code 148 = .ok (.castore, 1) := by decide +kernel
theorem d1_149 : decode method_4_code 149 = .ok (.aload_n 0, 1) := by decide +kernel
theorem d1_150 : decode method_4_code 150 = .ok (.arraylength, 1) := by decide +kernel
theorem d1_151 : decode method_4_code 151 = .ok (.bipush 8, 2) := by decide +kernel
theorem d1_153 : decode method_4_code 153 = .ok (.if_icmp .le 17, 3) := by decide +kernel
theorem d1_156 : decode method_4_code 156 = .ok (.aload_n 0, 1) := by decide +kernel
theorem d1_157 : decode method_4_code 157 = .ok (.bipush 8, 2) := by decide +kernel
theorem d1_159 : decode method_4_code 159 = .ok (.aload_n 1, 1) := by decide +kernel
theorem d1_160 : decode method_4_code 160 = .ok (.bipush 8, 2) := by decide +kernel
theorem d1_162 : decode method_4_code 162 = .ok (.iload_n 2, 1) := by decide +kernel
theorem d1_163 : decode method_4_code 163 = .ok (.iload_n 3, 1) := by decide +kernel
theorem d1_164 : decode method_4_code 164 = .ok (.iload 4, 2) := by decide +kernel
theorem d1_166 : decode method_4_code 166 = .ok (.invokestatic 37, 3) := by decide +kernel
theorem d1_169 : decode method_4_code 169 = .ok (.castore, 1) := by decide +kernel
theorem d1_170 : decode method_4_code 170 = .ok (.aload_n 0, 1) := by decide +kernel
theorem d1_171 : decode method_4_code 171 = .ok (.arraylength, 1) := by decide +kernel
theorem d1_172 : decode method_4_code 172 = .ok (.bipush 9, 2) := by decide +kernel
theorem d1_174 : decode method_4_code 174 = .ok (.if_icmp .le 17, 3) := by decide +kernel
theorem d1_177 : decode method_4_code 177 = .ok (.aload_n 0, 1) := by decide +kernel
theorem d1_178 : decode method_4_code 178 = .ok (.bipush 9, 2) := by decide +kernel
theorem d1_180 : decode method_4_code 180 = .ok (.aload_n 1, 1) := by decide +kernel
theorem d1_181 : decode method_4_code 181 = .ok (.bipush 9, 2) := by decide +kernel
theorem d1_183 : decode method_4_code 183 = .ok (.iload_n 2, 1) := by decide +kernel
theorem d1_184 : decode method_4_code 184 = .ok (.iload_n 3, 1) := by decide +kernel
theorem d1_185 : decode method_4_code 185 = .ok (.iload 4, 2) := by decide +kernel
theorem d1_187 : decode method_4_code 187 = .ok (.invokestatic 37, 3) := by decide +kernel
theorem d1_190 : decode method_4_code 190 = .ok (.castore, 1) := by decide +kernel
theorem d1_191 : decode method_4_code 191 = .ok (.return_, 1) := by decide +kernel
set_option maxRecDepth 65536 in
set_option maxHeartbeats 40000000 in
theorem rmFill0 (l : Launch) (Z : State) (a0 : Array Value) (hw : ∀ d ∈ tables_1, d.before a0 Z = true) (a t : Addr) (kA : ClassId) (pos cc f : Int32) (ct : List Int32) (ht : Heap) (h0 : Heap) (Z0 : Ext Z.heap h0) (G : Jdk Z) (Et : Ext ht h0) (S : Str Z ht t ct) (ga : ht.size ≤ a) (gz : Z.heap.size ≤ a) (V : Arv Z h0 a kA .char (0 : Int32) [] (.int (0 : Int32))) (hc : ¬ cc < 0 ∧ ¬ (255 : Int32) < cc) (hf : ¬ f < 0 ∧ ¬ (255 : Int32) < f) :
    MetN l Z (⟨"com/example/waypost/waypost/cli/ContentOptionsIsContentOptionPinLaw", "fill", "([CLjava/lang/String;ICC)V"⟩ : MethodName) method_4_code 5 none [] ({ frames := 1, cells := 0, slots := 0, locals := 1 } : Room) #[(.ref a), (.ref t), (.int pos), (.int cc), (.int f)] h0 (fun v h => v = none ∧ Keep h0 h [a] ∧ Arv Z h a kA .char (0 : Int32) [] (.int (0 : Int32))) := by
  refine metN (by first | exact plainFor_of_name (by first | (simp [plainName, overriddenIn]; done) | decide +kernel) | decide +kernel) Z0 (Ls := #[.val (.ref a), .val (.ref t), .val (.int pos), .val (.int cc), .val (.int f)]) (fun m => by first | (simp [entryFrame, mkF, argsToLocals, Value.category]; done) | rfl) ?_
  intro p e s m below meth c T0 hx hby hml hret hlk hown hnm hZ N0
  refine Ends.go (f' := (mkF m 1 #[.val (.ref a), .val (.ref t), .val (.int pos), .val (.int cc), .val (.int f)] [(.ref a)])) (fun t k => XS.aloadN N0.here hx rfl (hb hby d1_0) rfl rfl k) ?_
  refine gLen N0 hx hZ V (hb hby d1_1) ?_
  show Ends p e below _ T0 (mkF m 2 #[.val (.ref a), .val (.ref t), .val (.int pos), .val (.int cc), .val (.int f)] [(.int (0 : Int32))])
  refine Ends.go (f' := (mkF m 17 #[.val (.ref a), .val (.ref t), .val (.int pos), .val (.int cc), .val (.int f)] [])) (fun t k => XS.ifYes N0.here hx rfl (pc0 := 2) (pc' := 17) rfl (hb hby d1_2) rfl (XT.i0_le_t (by decide)) (by decide) (by decide) k) ?_
  refine Ends.go (f' := (mkF m 18 #[.val (.ref a), .val (.ref t), .val (.int pos), .val (.int cc), .val (.int f)] [(.ref a)])) (fun t k => XS.aloadN N0.here hx rfl (hb hby d1_17) rfl rfl k) ?_
  refine gLen N0 hx hZ V (hb hby d1_18) ?_
  show Ends p e below _ T0 (mkF m 19 #[.val (.ref a), .val (.ref t), .val (.int pos), .val (.int cc), .val (.int f)] [(.int (0 : Int32))])
  refine Ends.go (f' := (mkF m 20 #[.val (.ref a), .val (.ref t), .val (.int pos), .val (.int cc), .val (.int f)] [(.int (1 : Int32)), (.int (0 : Int32))])) (fun t k => XS.iconst N0.here hx rfl (hb hby d1_19) k) ?_
  refine Ends.go (f' := (mkF m 35 #[.val (.ref a), .val (.ref t), .val (.int pos), .val (.int cc), .val (.int f)] [])) (fun t k => XS.icmpYes N0.here hx rfl (pc0 := 20) (pc' := 35) rfl (hb hby d1_20) rfl (XT.ii_le_t (by decide)) (by decide) (by decide) k) ?_
  refine Ends.go (f' := (mkF m 36 #[.val (.ref a), .val (.ref t), .val (.int pos), .val (.int cc), .val (.int f)] [(.ref a)])) (fun t k => XS.aloadN N0.here hx rfl (hb hby d1_35) rfl rfl k) ?_
  refine gLen N0 hx hZ V (hb hby d1_36) ?_
  show Ends p e below _ T0 (mkF m 37 #[.val (.ref a), .val (.ref t), .val (.int pos), .val (.int cc), .val (.int f)] [(.int (0 : Int32))])
  refine Ends.go (f' := (mkF m 38 #[.val (.ref a), .val (.ref t), .val (.int pos), .val (.int cc), .val (.int f)] [(.int (2 : Int32)), (.int (0 : Int32))])) (fun t k => XS.iconst N0.here hx rfl (hb hby d1_37) k) ?_
  refine Ends.go (f' := (mkF m 53 #[.val (.ref a), .val (.ref t), .val (.int pos), .val (.int cc), .val (.int f)] [])) (fun t k => XS.icmpYes N0.here hx rfl (pc0 := 38) (pc' := 53) rfl (hb hby d1_38) rfl (XT.ii_le_t (by decide)) (by decide) (by decide) k) ?_
  refine Ends.go (f' := (mkF m 54 #[.val (.ref a), .val (.ref t), .val (.int pos), .val (.int cc), .val (.int f)] [(.ref a)])) (fun t k => XS.aloadN N0.here hx rfl (hb hby d1_53) rfl rfl k) ?_
  refine gLen N0 hx hZ V (hb hby d1_54) ?_
  show Ends p e below _ T0 (mkF m 55 #[.val (.ref a), .val (.ref t), .val (.int pos), .val (.int cc), .val (.int f)] [(.int (0 : Int32))])
  refine Ends.go (f' := (mkF m 56 #[.val (.ref a), .val (.ref t), .val (.int pos), .val (.int cc), .val (.int f)] [(.int (3 : Int32)), (.int (0 : Int32))])) (fun t k => XS.iconst N0.here hx rfl (hb hby d1_55) k) ?_
  refine Ends.go (f' := (mkF m 71 #[.val (.ref a), .val (.ref t), .val (.int pos), .val (.int cc), .val (.int f)] [])) (fun t k => XS.icmpYes N0.here hx rfl (pc0 := 56) (pc' := 71) rfl (hb hby d1_56) rfl (XT.ii_le_t (by decide)) (by decide) (by decide) k) ?_
  refine Ends.go (f' := (mkF m 72 #[.val (.ref a), .val (.ref t), .val (.int pos), .val (.int cc), .val (.int f)] [(.ref a)])) (fun t k => XS.aloadN N0.here hx rfl (hb hby d1_71) rfl rfl k) ?_
  refine gLen N0 hx hZ V (hb hby d1_72) ?_
  show Ends p e below _ T0 (mkF m 73 #[.val (.ref a), .val (.ref t), .val (.int pos), .val (.int cc), .val (.int f)] [(.int (0 : Int32))])
  refine Ends.go (f' := (mkF m 74 #[.val (.ref a), .val (.ref t), .val (.int pos), .val (.int cc), .val (.int f)] [(.int (4 : Int32)), (.int (0 : Int32))])) (fun t k => XS.iconst N0.here hx rfl (hb hby d1_73) k) ?_
  refine Ends.go (f' := (mkF m 89 #[.val (.ref a), .val (.ref t), .val (.int pos), .val (.int cc), .val (.int f)] [])) (fun t k => XS.icmpYes N0.here hx rfl (pc0 := 74) (pc' := 89) rfl (hb hby d1_74) rfl (XT.ii_le_t (by decide)) (by decide) (by decide) k) ?_
  refine Ends.go (f' := (mkF m 90 #[.val (.ref a), .val (.ref t), .val (.int pos), .val (.int cc), .val (.int f)] [(.ref a)])) (fun t k => XS.aloadN N0.here hx rfl (hb hby d1_89) rfl rfl k) ?_
  refine gLen N0 hx hZ V (hb hby d1_90) ?_
  show Ends p e below _ T0 (mkF m 91 #[.val (.ref a), .val (.ref t), .val (.int pos), .val (.int cc), .val (.int f)] [(.int (0 : Int32))])
  refine Ends.go (f' := (mkF m 92 #[.val (.ref a), .val (.ref t), .val (.int pos), .val (.int cc), .val (.int f)] [(.int (5 : Int32)), (.int (0 : Int32))])) (fun t k => XS.iconst N0.here hx rfl (hb hby d1_91) k) ?_
  refine Ends.go (f' := (mkF m 107 #[.val (.ref a), .val (.ref t), .val (.int pos), .val (.int cc), .val (.int f)] [])) (fun t k => XS.icmpYes N0.here hx rfl (pc0 := 92) (pc' := 107) rfl (hb hby d1_92) rfl (XT.ii_le_t (by decide)) (by decide) (by decide) k) ?_
  refine Ends.go (f' := (mkF m 108 #[.val (.ref a), .val (.ref t), .val (.int pos), .val (.int cc), .val (.int f)] [(.ref a)])) (fun t k => XS.aloadN N0.here hx rfl (hb hby d1_107) rfl rfl k) ?_
  refine gLen N0 hx hZ V (hb hby d1_108) ?_
  show Ends p e below _ T0 (mkF m 109 #[.val (.ref a), .val (.ref t), .val (.int pos), .val (.int cc), .val (.int f)] [(.int (0 : Int32))])
  refine Ends.go (f' := (mkF m 111 #[.val (.ref a), .val (.ref t), .val (.int pos), .val (.int cc), .val (.int f)] [(.int (6 : Int32)), (.int (0 : Int32))])) (fun t k => XS.bipush N0.here hx rfl (hb hby d1_109) k) ?_
  refine Ends.go (f' := (mkF m 128 #[.val (.ref a), .val (.ref t), .val (.int pos), .val (.int cc), .val (.int f)] [])) (fun t k => XS.icmpYes N0.here hx rfl (pc0 := 111) (pc' := 128) rfl (hb hby d1_111) rfl (XT.ii_le_t (by decide)) (by decide) (by decide) k) ?_
  refine Ends.go (f' := (mkF m 129 #[.val (.ref a), .val (.ref t), .val (.int pos), .val (.int cc), .val (.int f)] [(.ref a)])) (fun t k => XS.aloadN N0.here hx rfl (hb hby d1_128) rfl rfl k) ?_
  refine gLen N0 hx hZ V (hb hby d1_129) ?_
  show Ends p e below _ T0 (mkF m 130 #[.val (.ref a), .val (.ref t), .val (.int pos), .val (.int cc), .val (.int f)] [(.int (0 : Int32))])
  refine Ends.go (f' := (mkF m 132 #[.val (.ref a), .val (.ref t), .val (.int pos), .val (.int cc), .val (.int f)] [(.int (7 : Int32)), (.int (0 : Int32))])) (fun t k => XS.bipush N0.here hx rfl (hb hby d1_130) k) ?_
  refine Ends.go (f' := (mkF m 149 #[.val (.ref a), .val (.ref t), .val (.int pos), .val (.int cc), .val (.int f)] [])) (fun t k => XS.icmpYes N0.here hx rfl (pc0 := 132) (pc' := 149) rfl (hb hby d1_132) rfl (XT.ii_le_t (by decide)) (by decide) (by decide) k) ?_
  refine Ends.go (f' := (mkF m 150 #[.val (.ref a), .val (.ref t), .val (.int pos), .val (.int cc), .val (.int f)] [(.ref a)])) (fun t k => XS.aloadN N0.here hx rfl (hb hby d1_149) rfl rfl k) ?_
  refine gLen N0 hx hZ V (hb hby d1_150) ?_
  show Ends p e below _ T0 (mkF m 151 #[.val (.ref a), .val (.ref t), .val (.int pos), .val (.int cc), .val (.int f)] [(.int (0 : Int32))])
  refine Ends.go (f' := (mkF m 153 #[.val (.ref a), .val (.ref t), .val (.int pos), .val (.int cc), .val (.int f)] [(.int (8 : Int32)), (.int (0 : Int32))])) (fun t k => XS.bipush N0.here hx rfl (hb hby d1_151) k) ?_
  refine Ends.go (f' := (mkF m 170 #[.val (.ref a), .val (.ref t), .val (.int pos), .val (.int cc), .val (.int f)] [])) (fun t k => XS.icmpYes N0.here hx rfl (pc0 := 153) (pc' := 170) rfl (hb hby d1_153) rfl (XT.ii_le_t (by decide)) (by decide) (by decide) k) ?_
  refine Ends.go (f' := (mkF m 171 #[.val (.ref a), .val (.ref t), .val (.int pos), .val (.int cc), .val (.int f)] [(.ref a)])) (fun t k => XS.aloadN N0.here hx rfl (hb hby d1_170) rfl rfl k) ?_
  refine gLen N0 hx hZ V (hb hby d1_171) ?_
  show Ends p e below _ T0 (mkF m 172 #[.val (.ref a), .val (.ref t), .val (.int pos), .val (.int cc), .val (.int f)] [(.int (0 : Int32))])
  refine Ends.go (f' := (mkF m 174 #[.val (.ref a), .val (.ref t), .val (.int pos), .val (.int cc), .val (.int f)] [(.int (9 : Int32)), (.int (0 : Int32))])) (fun t k => XS.bipush N0.here hx rfl (hb hby d1_172) k) ?_
  refine Ends.go (f' := (mkF m 191 #[.val (.ref a), .val (.ref t), .val (.int pos), .val (.int cc), .val (.int f)] [])) (fun t k => XS.icmpYes N0.here hx rfl (pc0 := 174) (pc' := 191) rfl (hb hby d1_174) rfl (XT.ii_le_t (by decide)) (by decide) (by decide) k) ?_
  exact retV N0 hx hlk hret (hb hby d1_191) ⟨rfl, (Keep.refl h0 [a]), V⟩ (nle rfl) (nle rfl)
set_option maxRecDepth 65536 in
set_option maxHeartbeats 40000000 in
theorem rmFill6 (l : Launch) (Z : State) (a0 : Array Value) (hw : ∀ d ∈ tables_1, d.before a0 Z = true) (a t : Addr) (kA : ClassId) (pos cc f : Int32) (ct : List Int32) (ht : Heap) (h0 : Heap) (Z0 : Ext Z.heap h0) (G : Jdk Z) (Et : Ext ht h0) (S : Str Z ht t ct) (ga : ht.size ≤ a) (gz : Z.heap.size ≤ a) (V : Arv Z h0 a kA .char (6 : Int32) [(.int (0 : Int32)), (.int (0 : Int32)), (.int (0 : Int32)), (.int (0 : Int32)), (.int (0 : Int32)), (.int (0 : Int32))] (.int (0 : Int32))) (hc : ¬ cc < 0 ∧ ¬ (255 : Int32) < cc) (hf : ¬ f < 0 ∧ ¬ (255 : Int32) < f) :
    MetN l Z (⟨"com/example/waypost/waypost/cli/ContentOptionsIsContentOptionPinLaw", "fill", "([CLjava/lang/String;ICC)V"⟩ : MethodName) method_4_code 5 none [] ({ frames := 5, cells := 0, slots := 0, locals := 71 } : Room) #[(.ref a), (.ref t), (.int pos), (.int cc), (.int f)] h0 (fun v h => v = none ∧ Keep h0 h [a] ∧ Arv Z h a kA .char (6 : Int32) [(.int (fAt ct 0 pos cc f)), (.int (fAt ct 1 pos cc f)), (.int (fAt ct 2 pos cc f)), (.int (fAt ct 3 pos cc f)), (.int (fAt ct 4 pos cc f)), (.int (fAt ct 5 pos cc f))] (.int (0 : Int32))) := by
  refine metN (by first | exact plainFor_of_name (by first | (simp [plainName, overriddenIn]; done) | decide +kernel) | decide +kernel) Z0 (Ls := #[.val (.ref a), .val (.ref t), .val (.int pos), .val (.int cc), .val (.int f)]) (fun m => by first | (simp [entryFrame, mkF, argsToLocals, Value.category]; done) | rfl) ?_
  intro p e s m below meth c T0 hx hby hml hret hlk hown hnm hZ N0
  refine Ends.go (f' := (mkF m 1 #[.val (.ref a), .val (.ref t), .val (.int pos), .val (.int cc), .val (.int f)] [(.ref a)])) (fun t k => XS.aloadN N0.here hx rfl (hb hby d1_0) rfl rfl k) ?_
  refine gLen N0 hx hZ V (hb hby d1_1) ?_
  show Ends p e below _ T0 (mkF m 2 #[.val (.ref a), .val (.ref t), .val (.int pos), .val (.int cc), .val (.int f)] [(.int (6 : Int32))])
  refine Ends.go (f' := (mkF m 5 #[.val (.ref a), .val (.ref t), .val (.int pos), .val (.int cc), .val (.int f)] [])) (fun t k => XS.ifNo N0.here hx rfl (hb hby d1_2) rfl (XT.i0_le_f (by decide)) k) ?_
  refine Ends.go (f' := (mkF m 6 #[.val (.ref a), .val (.ref t), .val (.int pos), .val (.int cc), .val (.int f)] [(.ref a)])) (fun t k => XS.aloadN N0.here hx rfl (hb hby d1_5) rfl rfl k) ?_
  refine Ends.go (f' := (mkF m 7 #[.val (.ref a), .val (.ref t), .val (.int pos), .val (.int cc), .val (.int f)] [(.int (0 : Int32)), (.ref a)])) (fun t k => XS.iconst N0.here hx rfl (hb hby d1_6) k) ?_
  refine Ends.go (f' := (mkF m 8 #[.val (.ref a), .val (.ref t), .val (.int pos), .val (.int cc), .val (.int f)] [(.ref t), (.int (0 : Int32)), (.ref a)])) (fun t k => XS.aloadN N0.here hx rfl (hb hby d1_7) rfl rfl k) ?_
  refine Ends.go (f' := (mkF m 9 #[.val (.ref a), .val (.ref t), .val (.int pos), .val (.int cc), .val (.int f)] [(.int (0 : Int32)), (.ref t), (.int (0 : Int32)), (.ref a)])) (fun t k => XS.iconst N0.here hx rfl (hb hby d1_8) k) ?_
  refine Ends.go (f' := (mkF m 10 #[.val (.ref a), .val (.ref t), .val (.int pos), .val (.int cc), .val (.int f)] [(.int pos), (.int (0 : Int32)), (.ref t), (.int (0 : Int32)), (.ref a)])) (fun t k => XS.iloadN N0.here hx rfl (hb hby d1_9) rfl k) ?_
  refine Ends.go (f' := (mkF m 11 #[.val (.ref a), .val (.ref t), .val (.int pos), .val (.int cc), .val (.int f)] [(.int cc), (.int pos), (.int (0 : Int32)), (.ref t), (.int (0 : Int32)), (.ref a)])) (fun t k => XS.iloadN N0.here hx rfl (hb hby d1_10) rfl k) ?_
  refine Ends.go (f' := (mkF m 13 #[.val (.ref a), .val (.ref t), .val (.int pos), .val (.int cc), .val (.int f)] [(.int f), (.int cc), (.int pos), (.int (0 : Int32)), (.ref t), (.int (0 : Int32)), (.ref a)])) (fun t k => XS.iload N0.here hx rfl (hb hby d1_11) rfl k) ?_
  refine gStatic (W := 2) (argsL := [(.ref t), (.int (0 : Int32)), (.int pos), (.int cc), (.int f)]) (rest := [(.int (0 : Int32)), (.ref a)]) N0 hx hZ hown (hw _ (List.mem_of_getElem? (i := 14) rfl)) (hw _ (List.mem_of_getElem? (i := 15) rfl)) (hw _ (List.mem_of_getElem? (i := 12) rfl)) (hw _ (List.mem_of_getElem? (i := 16) rfl)) (by decide) ((rmAt l Z a0 hw t 0 pos cc f ct h0 N0.ext G (S.ext Et) (nle rfl) hc hf).back (W := 2) hZ (hw _ (List.mem_of_getElem? (i := 16) rfl)) (hw _ (List.mem_of_getElem? (i := 12) rfl)) (nle rfl) (nle rfl)) (hb hby d1_13) rfl (by rw [hml]; rfl) (lenOf (by decide +kernel : parseMethodDescriptor "(Ljava/lang/String;IICC)C" = some ⟨[(.object "java/lang/String"), .int, .int, .char, .char], (some .char)⟩) rfl) (nle rfl) (nle rfl) (nle rfl) (fun _ _ _ q => q.2) ?_
  rintro _ T1 _ _ N2 ⟨⟨rfl, e_h⟩, -⟩; rw [e_h] at N2; clear e_h
  show Ends p e below _ T1 (mkF m 16 #[.val (.ref a), .val (.ref t), .val (.int pos), .val (.int cc), .val (.int f)] [(.int (fAt ct 0 pos cc f)), (.int (0 : Int32)), (.ref a)])
  refine gStC 0 N2 hx hZ V gz (by decide) rfl (nle rfl) (hb hby d1_16) ?_
  intro T3 h4 N5 W6 V7
  rw [nar_ok (at_ok (i := 0) (pos := pos) hc hf S.2.2.2.1)] at V7
  have V8 : Arv Z h4 a kA .char (6 : Int32) [(.int (fAt ct 0 pos cc f)), (.int (0 : Int32)), (.int (0 : Int32)), (.int (0 : Int32)), (.int (0 : Int32)), (.int (0 : Int32))] (.int (0 : Int32)) := V7
  have X9 : Ext ht h4 := ext_wr Et W6 ga
  show Ends p e below _ T3 (mkF m 17 #[.val (.ref a), .val (.ref t), .val (.int pos), .val (.int cc), .val (.int f)] [])
  refine Ends.go (f' := (mkF m 18 #[.val (.ref a), .val (.ref t), .val (.int pos), .val (.int cc), .val (.int f)] [(.ref a)])) (fun t k => XS.aloadN N5.here hx rfl (hb hby d1_17) rfl rfl k) ?_
  refine gLen N5 hx hZ V8 (hb hby d1_18) ?_
  show Ends p e below _ T3 (mkF m 19 #[.val (.ref a), .val (.ref t), .val (.int pos), .val (.int cc), .val (.int f)] [(.int (6 : Int32))])
  refine Ends.go (f' := (mkF m 20 #[.val (.ref a), .val (.ref t), .val (.int pos), .val (.int cc), .val (.int f)] [(.int (1 : Int32)), (.int (6 : Int32))])) (fun t k => XS.iconst N5.here hx rfl (hb hby d1_19) k) ?_
  refine Ends.go (f' := (mkF m 23 #[.val (.ref a), .val (.ref t), .val (.int pos), .val (.int cc), .val (.int f)] [])) (fun t k => XS.icmpNo N5.here hx rfl (hb hby d1_20) rfl (XT.ii_le_f (by decide)) k) ?_
  refine Ends.go (f' := (mkF m 24 #[.val (.ref a), .val (.ref t), .val (.int pos), .val (.int cc), .val (.int f)] [(.ref a)])) (fun t k => XS.aloadN N5.here hx rfl (hb hby d1_23) rfl rfl k) ?_
  refine Ends.go (f' := (mkF m 25 #[.val (.ref a), .val (.ref t), .val (.int pos), .val (.int cc), .val (.int f)] [(.int (1 : Int32)), (.ref a)])) (fun t k => XS.iconst N5.here hx rfl (hb hby d1_24) k) ?_
  refine Ends.go (f' := (mkF m 26 #[.val (.ref a), .val (.ref t), .val (.int pos), .val (.int cc), .val (.int f)] [(.ref t), (.int (1 : Int32)), (.ref a)])) (fun t k => XS.aloadN N5.here hx rfl (hb hby d1_25) rfl rfl k) ?_
  refine Ends.go (f' := (mkF m 27 #[.val (.ref a), .val (.ref t), .val (.int pos), .val (.int cc), .val (.int f)] [(.int (1 : Int32)), (.ref t), (.int (1 : Int32)), (.ref a)])) (fun t k => XS.iconst N5.here hx rfl (hb hby d1_26) k) ?_
  refine Ends.go (f' := (mkF m 28 #[.val (.ref a), .val (.ref t), .val (.int pos), .val (.int cc), .val (.int f)] [(.int pos), (.int (1 : Int32)), (.ref t), (.int (1 : Int32)), (.ref a)])) (fun t k => XS.iloadN N5.here hx rfl (hb hby d1_27) rfl k) ?_
  refine Ends.go (f' := (mkF m 29 #[.val (.ref a), .val (.ref t), .val (.int pos), .val (.int cc), .val (.int f)] [(.int cc), (.int pos), (.int (1 : Int32)), (.ref t), (.int (1 : Int32)), (.ref a)])) (fun t k => XS.iloadN N5.here hx rfl (hb hby d1_28) rfl k) ?_
  refine Ends.go (f' := (mkF m 31 #[.val (.ref a), .val (.ref t), .val (.int pos), .val (.int cc), .val (.int f)] [(.int f), (.int cc), (.int pos), (.int (1 : Int32)), (.ref t), (.int (1 : Int32)), (.ref a)])) (fun t k => XS.iload N5.here hx rfl (hb hby d1_29) rfl k) ?_
  refine gStatic (W := 2) (argsL := [(.ref t), (.int (1 : Int32)), (.int pos), (.int cc), (.int f)]) (rest := [(.int (1 : Int32)), (.ref a)]) N5 hx hZ hown (hw _ (List.mem_of_getElem? (i := 14) rfl)) (hw _ (List.mem_of_getElem? (i := 15) rfl)) (hw _ (List.mem_of_getElem? (i := 12) rfl)) (hw _ (List.mem_of_getElem? (i := 16) rfl)) (by decide) ((rmAt l Z a0 hw t 1 pos cc f ct h4 N5.ext G (S.ext X9) (nle rfl) hc hf).back (W := 2) hZ (hw _ (List.mem_of_getElem? (i := 16) rfl)) (hw _ (List.mem_of_getElem? (i := 12) rfl)) (nle rfl) (nle rfl)) (hb hby d1_31) rfl (by rw [hml]; rfl) (lenOf (by decide +kernel : parseMethodDescriptor "(Ljava/lang/String;IICC)C" = some ⟨[(.object "java/lang/String"), .int, .int, .char, .char], (some .char)⟩) rfl) (nle rfl) (nle rfl) (nle rfl) (fun _ _ _ q => q.2) ?_
  rintro _ T10 _ _ N11 ⟨⟨rfl, e_h⟩, -⟩; rw [e_h] at N11; clear e_h
  show Ends p e below _ T10 (mkF m 34 #[.val (.ref a), .val (.ref t), .val (.int pos), .val (.int cc), .val (.int f)] [(.int (fAt ct 1 pos cc f)), (.int (1 : Int32)), (.ref a)])
  refine gStC 1 N11 hx hZ V8 gz (by decide) rfl (nle rfl) (hb hby d1_34) ?_
  intro T12 h13 N14 W15 V16
  rw [nar_ok (at_ok (i := 1) (pos := pos) hc hf S.2.2.2.1)] at V16
  have V17 : Arv Z h13 a kA .char (6 : Int32) [(.int (fAt ct 0 pos cc f)), (.int (fAt ct 1 pos cc f)), (.int (0 : Int32)), (.int (0 : Int32)), (.int (0 : Int32)), (.int (0 : Int32))] (.int (0 : Int32)) := V16
  have X18 : Ext ht h13 := ext_wr X9 W15 ga
  show Ends p e below _ T12 (mkF m 35 #[.val (.ref a), .val (.ref t), .val (.int pos), .val (.int cc), .val (.int f)] [])
  refine Ends.go (f' := (mkF m 36 #[.val (.ref a), .val (.ref t), .val (.int pos), .val (.int cc), .val (.int f)] [(.ref a)])) (fun t k => XS.aloadN N14.here hx rfl (hb hby d1_35) rfl rfl k) ?_
  refine gLen N14 hx hZ V17 (hb hby d1_36) ?_
  show Ends p e below _ T12 (mkF m 37 #[.val (.ref a), .val (.ref t), .val (.int pos), .val (.int cc), .val (.int f)] [(.int (6 : Int32))])
  refine Ends.go (f' := (mkF m 38 #[.val (.ref a), .val (.ref t), .val (.int pos), .val (.int cc), .val (.int f)] [(.int (2 : Int32)), (.int (6 : Int32))])) (fun t k => XS.iconst N14.here hx rfl (hb hby d1_37) k) ?_
  refine Ends.go (f' := (mkF m 41 #[.val (.ref a), .val (.ref t), .val (.int pos), .val (.int cc), .val (.int f)] [])) (fun t k => XS.icmpNo N14.here hx rfl (hb hby d1_38) rfl (XT.ii_le_f (by decide)) k) ?_
  refine Ends.go (f' := (mkF m 42 #[.val (.ref a), .val (.ref t), .val (.int pos), .val (.int cc), .val (.int f)] [(.ref a)])) (fun t k => XS.aloadN N14.here hx rfl (hb hby d1_41) rfl rfl k) ?_
  refine Ends.go (f' := (mkF m 43 #[.val (.ref a), .val (.ref t), .val (.int pos), .val (.int cc), .val (.int f)] [(.int (2 : Int32)), (.ref a)])) (fun t k => XS.iconst N14.here hx rfl (hb hby d1_42) k) ?_
  refine Ends.go (f' := (mkF m 44 #[.val (.ref a), .val (.ref t), .val (.int pos), .val (.int cc), .val (.int f)] [(.ref t), (.int (2 : Int32)), (.ref a)])) (fun t k => XS.aloadN N14.here hx rfl (hb hby d1_43) rfl rfl k) ?_
  refine Ends.go (f' := (mkF m 45 #[.val (.ref a), .val (.ref t), .val (.int pos), .val (.int cc), .val (.int f)] [(.int (2 : Int32)), (.ref t), (.int (2 : Int32)), (.ref a)])) (fun t k => XS.iconst N14.here hx rfl (hb hby d1_44) k) ?_
  refine Ends.go (f' := (mkF m 46 #[.val (.ref a), .val (.ref t), .val (.int pos), .val (.int cc), .val (.int f)] [(.int pos), (.int (2 : Int32)), (.ref t), (.int (2 : Int32)), (.ref a)])) (fun t k => XS.iloadN N14.here hx rfl (hb hby d1_45) rfl k) ?_
  refine Ends.go (f' := (mkF m 47 #[.val (.ref a), .val (.ref t), .val (.int pos), .val (.int cc), .val (.int f)] [(.int cc), (.int pos), (.int (2 : Int32)), (.ref t), (.int (2 : Int32)), (.ref a)])) (fun t k => XS.iloadN N14.here hx rfl (hb hby d1_46) rfl k) ?_
  refine Ends.go (f' := (mkF m 49 #[.val (.ref a), .val (.ref t), .val (.int pos), .val (.int cc), .val (.int f)] [(.int f), (.int cc), (.int pos), (.int (2 : Int32)), (.ref t), (.int (2 : Int32)), (.ref a)])) (fun t k => XS.iload N14.here hx rfl (hb hby d1_47) rfl k) ?_
  refine gStatic (W := 2) (argsL := [(.ref t), (.int (2 : Int32)), (.int pos), (.int cc), (.int f)]) (rest := [(.int (2 : Int32)), (.ref a)]) N14 hx hZ hown (hw _ (List.mem_of_getElem? (i := 14) rfl)) (hw _ (List.mem_of_getElem? (i := 15) rfl)) (hw _ (List.mem_of_getElem? (i := 12) rfl)) (hw _ (List.mem_of_getElem? (i := 16) rfl)) (by decide) ((rmAt l Z a0 hw t 2 pos cc f ct h13 N14.ext G (S.ext X18) (nle rfl) hc hf).back (W := 2) hZ (hw _ (List.mem_of_getElem? (i := 16) rfl)) (hw _ (List.mem_of_getElem? (i := 12) rfl)) (nle rfl) (nle rfl)) (hb hby d1_49) rfl (by rw [hml]; rfl) (lenOf (by decide +kernel : parseMethodDescriptor "(Ljava/lang/String;IICC)C" = some ⟨[(.object "java/lang/String"), .int, .int, .char, .char], (some .char)⟩) rfl) (nle rfl) (nle rfl) (nle rfl) (fun _ _ _ q => q.2) ?_
  rintro _ T19 _ _ N20 ⟨⟨rfl, e_h⟩, -⟩; rw [e_h] at N20; clear e_h
  show Ends p e below _ T19 (mkF m 52 #[.val (.ref a), .val (.ref t), .val (.int pos), .val (.int cc), .val (.int f)] [(.int (fAt ct 2 pos cc f)), (.int (2 : Int32)), (.ref a)])
  refine gStC 2 N20 hx hZ V17 gz (by decide) rfl (nle rfl) (hb hby d1_52) ?_
  intro T21 h22 N23 W24 V25
  rw [nar_ok (at_ok (i := 2) (pos := pos) hc hf S.2.2.2.1)] at V25
  have V26 : Arv Z h22 a kA .char (6 : Int32) [(.int (fAt ct 0 pos cc f)), (.int (fAt ct 1 pos cc f)), (.int (fAt ct 2 pos cc f)), (.int (0 : Int32)), (.int (0 : Int32)), (.int (0 : Int32))] (.int (0 : Int32)) := V25
  have X27 : Ext ht h22 := ext_wr X18 W24 ga
  show Ends p e below _ T21 (mkF m 53 #[.val (.ref a), .val (.ref t), .val (.int pos), .val (.int cc), .val (.int f)] [])
  refine Ends.go (f' := (mkF m 54 #[.val (.ref a), .val (.ref t), .val (.int pos), .val (.int cc), .val (.int f)] [(.ref a)])) (fun t k => XS.aloadN N23.here hx rfl (hb hby d1_53) rfl rfl k) ?_
  refine gLen N23 hx hZ V26 (hb hby d1_54) ?_
  show Ends p e below _ T21 (mkF m 55 #[.val (.ref a), .val (.ref t), .val (.int pos), .val (.int cc), .val (.int f)] [(.int (6 : Int32))])
  refine Ends.go (f' := (mkF m 56 #[.val (.ref a), .val (.ref t), .val (.int pos), .val (.int cc), .val (.int f)] [(.int (3 : Int32)), (.int (6 : Int32))])) (fun t k => XS.iconst N23.here hx rfl (hb hby d1_55) k) ?_
  refine Ends.go (f' := (mkF m 59 #[.val (.ref a), .val (.ref t), .val (.int pos), .val (.int cc), .val (.int f)] [])) (fun t k => XS.icmpNo N23.here hx rfl (hb hby d1_56) rfl (XT.ii_le_f (by decide)) k) ?_
  refine Ends.go (f' := (mkF m 60 #[.val (.ref a), .val (.ref t), .val (.int pos), .val (.int cc), .val (.int f)] [(.ref a)])) (fun t k => XS.aloadN N23.here hx rfl (hb hby d1_59) rfl rfl k) ?_
  refine Ends.go (f' := (mkF m 61 #[.val (.ref a), .val (.ref t), .val (.int pos), .val (.int cc), .val (.int f)] [(.int (3 : Int32)), (.ref a)])) (fun t k => XS.iconst N23.here hx rfl (hb hby d1_60) k) ?_
  refine Ends.go (f' := (mkF m 62 #[.val (.ref a), .val (.ref t), .val (.int pos), .val (.int cc), .val (.int f)] [(.ref t), (.int (3 : Int32)), (.ref a)])) (fun t k => XS.aloadN N23.here hx rfl (hb hby d1_61) rfl rfl k) ?_
  refine Ends.go (f' := (mkF m 63 #[.val (.ref a), .val (.ref t), .val (.int pos), .val (.int cc), .val (.int f)] [(.int (3 : Int32)), (.ref t), (.int (3 : Int32)), (.ref a)])) (fun t k => XS.iconst N23.here hx rfl (hb hby d1_62) k) ?_
  refine Ends.go (f' := (mkF m 64 #[.val (.ref a), .val (.ref t), .val (.int pos), .val (.int cc), .val (.int f)] [(.int pos), (.int (3 : Int32)), (.ref t), (.int (3 : Int32)), (.ref a)])) (fun t k => XS.iloadN N23.here hx rfl (hb hby d1_63) rfl k) ?_
  refine Ends.go (f' := (mkF m 65 #[.val (.ref a), .val (.ref t), .val (.int pos), .val (.int cc), .val (.int f)] [(.int cc), (.int pos), (.int (3 : Int32)), (.ref t), (.int (3 : Int32)), (.ref a)])) (fun t k => XS.iloadN N23.here hx rfl (hb hby d1_64) rfl k) ?_
  refine Ends.go (f' := (mkF m 67 #[.val (.ref a), .val (.ref t), .val (.int pos), .val (.int cc), .val (.int f)] [(.int f), (.int cc), (.int pos), (.int (3 : Int32)), (.ref t), (.int (3 : Int32)), (.ref a)])) (fun t k => XS.iload N23.here hx rfl (hb hby d1_65) rfl k) ?_
  refine gStatic (W := 2) (argsL := [(.ref t), (.int (3 : Int32)), (.int pos), (.int cc), (.int f)]) (rest := [(.int (3 : Int32)), (.ref a)]) N23 hx hZ hown (hw _ (List.mem_of_getElem? (i := 14) rfl)) (hw _ (List.mem_of_getElem? (i := 15) rfl)) (hw _ (List.mem_of_getElem? (i := 12) rfl)) (hw _ (List.mem_of_getElem? (i := 16) rfl)) (by decide) ((rmAt l Z a0 hw t 3 pos cc f ct h22 N23.ext G (S.ext X27) (nle rfl) hc hf).back (W := 2) hZ (hw _ (List.mem_of_getElem? (i := 16) rfl)) (hw _ (List.mem_of_getElem? (i := 12) rfl)) (nle rfl) (nle rfl)) (hb hby d1_67) rfl (by rw [hml]; rfl) (lenOf (by decide +kernel : parseMethodDescriptor "(Ljava/lang/String;IICC)C" = some ⟨[(.object "java/lang/String"), .int, .int, .char, .char], (some .char)⟩) rfl) (nle rfl) (nle rfl) (nle rfl) (fun _ _ _ q => q.2) ?_
  rintro _ T28 _ _ N29 ⟨⟨rfl, e_h⟩, -⟩; rw [e_h] at N29; clear e_h
  show Ends p e below _ T28 (mkF m 70 #[.val (.ref a), .val (.ref t), .val (.int pos), .val (.int cc), .val (.int f)] [(.int (fAt ct 3 pos cc f)), (.int (3 : Int32)), (.ref a)])
  refine gStC 3 N29 hx hZ V26 gz (by decide) rfl (nle rfl) (hb hby d1_70) ?_
  intro T30 h31 N32 W33 V34
  rw [nar_ok (at_ok (i := 3) (pos := pos) hc hf S.2.2.2.1)] at V34
  have V35 : Arv Z h31 a kA .char (6 : Int32) [(.int (fAt ct 0 pos cc f)), (.int (fAt ct 1 pos cc f)), (.int (fAt ct 2 pos cc f)), (.int (fAt ct 3 pos cc f)), (.int (0 : Int32)), (.int (0 : Int32))] (.int (0 : Int32)) := V34
  have X36 : Ext ht h31 := ext_wr X27 W33 ga
  show Ends p e below _ T30 (mkF m 71 #[.val (.ref a), .val (.ref t), .val (.int pos), .val (.int cc), .val (.int f)] [])
  refine Ends.go (f' := (mkF m 72 #[.val (.ref a), .val (.ref t), .val (.int pos), .val (.int cc), .val (.int f)] [(.ref a)])) (fun t k => XS.aloadN N32.here hx rfl (hb hby d1_71) rfl rfl k) ?_
  refine gLen N32 hx hZ V35 (hb hby d1_72) ?_
  show Ends p e below _ T30 (mkF m 73 #[.val (.ref a), .val (.ref t), .val (.int pos), .val (.int cc), .val (.int f)] [(.int (6 : Int32))])
  refine Ends.go (f' := (mkF m 74 #[.val (.ref a), .val (.ref t), .val (.int pos), .val (.int cc), .val (.int f)] [(.int (4 : Int32)), (.int (6 : Int32))])) (fun t k => XS.iconst N32.here hx rfl (hb hby d1_73) k) ?_
  refine Ends.go (f' := (mkF m 77 #[.val (.ref a), .val (.ref t), .val (.int pos), .val (.int cc), .val (.int f)] [])) (fun t k => XS.icmpNo N32.here hx rfl (hb hby d1_74) rfl (XT.ii_le_f (by decide)) k) ?_
  refine Ends.go (f' := (mkF m 78 #[.val (.ref a), .val (.ref t), .val (.int pos), .val (.int cc), .val (.int f)] [(.ref a)])) (fun t k => XS.aloadN N32.here hx rfl (hb hby d1_77) rfl rfl k) ?_
  refine Ends.go (f' := (mkF m 79 #[.val (.ref a), .val (.ref t), .val (.int pos), .val (.int cc), .val (.int f)] [(.int (4 : Int32)), (.ref a)])) (fun t k => XS.iconst N32.here hx rfl (hb hby d1_78) k) ?_
  refine Ends.go (f' := (mkF m 80 #[.val (.ref a), .val (.ref t), .val (.int pos), .val (.int cc), .val (.int f)] [(.ref t), (.int (4 : Int32)), (.ref a)])) (fun t k => XS.aloadN N32.here hx rfl (hb hby d1_79) rfl rfl k) ?_
  refine Ends.go (f' := (mkF m 81 #[.val (.ref a), .val (.ref t), .val (.int pos), .val (.int cc), .val (.int f)] [(.int (4 : Int32)), (.ref t), (.int (4 : Int32)), (.ref a)])) (fun t k => XS.iconst N32.here hx rfl (hb hby d1_80) k) ?_
  refine Ends.go (f' := (mkF m 82 #[.val (.ref a), .val (.ref t), .val (.int pos), .val (.int cc), .val (.int f)] [(.int pos), (.int (4 : Int32)), (.ref t), (.int (4 : Int32)), (.ref a)])) (fun t k => XS.iloadN N32.here hx rfl (hb hby d1_81) rfl k) ?_
  refine Ends.go (f' := (mkF m 83 #[.val (.ref a), .val (.ref t), .val (.int pos), .val (.int cc), .val (.int f)] [(.int cc), (.int pos), (.int (4 : Int32)), (.ref t), (.int (4 : Int32)), (.ref a)])) (fun t k => XS.iloadN N32.here hx rfl (hb hby d1_82) rfl k) ?_
  refine Ends.go (f' := (mkF m 85 #[.val (.ref a), .val (.ref t), .val (.int pos), .val (.int cc), .val (.int f)] [(.int f), (.int cc), (.int pos), (.int (4 : Int32)), (.ref t), (.int (4 : Int32)), (.ref a)])) (fun t k => XS.iload N32.here hx rfl (hb hby d1_83) rfl k) ?_
  refine gStatic (W := 2) (argsL := [(.ref t), (.int (4 : Int32)), (.int pos), (.int cc), (.int f)]) (rest := [(.int (4 : Int32)), (.ref a)]) N32 hx hZ hown (hw _ (List.mem_of_getElem? (i := 14) rfl)) (hw _ (List.mem_of_getElem? (i := 15) rfl)) (hw _ (List.mem_of_getElem? (i := 12) rfl)) (hw _ (List.mem_of_getElem? (i := 16) rfl)) (by decide) ((rmAt l Z a0 hw t 4 pos cc f ct h31 N32.ext G (S.ext X36) (nle rfl) hc hf).back (W := 2) hZ (hw _ (List.mem_of_getElem? (i := 16) rfl)) (hw _ (List.mem_of_getElem? (i := 12) rfl)) (nle rfl) (nle rfl)) (hb hby d1_85) rfl (by rw [hml]; rfl) (lenOf (by decide +kernel : parseMethodDescriptor "(Ljava/lang/String;IICC)C" = some ⟨[(.object "java/lang/String"), .int, .int, .char, .char], (some .char)⟩) rfl) (nle rfl) (nle rfl) (nle rfl) (fun _ _ _ q => q.2) ?_
  rintro _ T37 _ _ N38 ⟨⟨rfl, e_h⟩, -⟩; rw [e_h] at N38; clear e_h
  show Ends p e below _ T37 (mkF m 88 #[.val (.ref a), .val (.ref t), .val (.int pos), .val (.int cc), .val (.int f)] [(.int (fAt ct 4 pos cc f)), (.int (4 : Int32)), (.ref a)])
  refine gStC 4 N38 hx hZ V35 gz (by decide) rfl (nle rfl) (hb hby d1_88) ?_
  intro T39 h40 N41 W42 V43
  rw [nar_ok (at_ok (i := 4) (pos := pos) hc hf S.2.2.2.1)] at V43
  have V44 : Arv Z h40 a kA .char (6 : Int32) [(.int (fAt ct 0 pos cc f)), (.int (fAt ct 1 pos cc f)), (.int (fAt ct 2 pos cc f)), (.int (fAt ct 3 pos cc f)), (.int (fAt ct 4 pos cc f)), (.int (0 : Int32))] (.int (0 : Int32)) := V43
  have X45 : Ext ht h40 := ext_wr X36 W42 ga
  show Ends p e below _ T39 (mkF m 89 #[.val (.ref a), .val (.ref t), .val (.int pos), .val (.int cc), .val (.int f)] [])
  refine Ends.go (f' := (mkF m 90 #[.val (.ref a), .val (.ref t), .val (.int pos), .val (.int cc), .val (.int f)] [(.ref a)])) (fun t k => XS.aloadN N41.here hx rfl (hb hby d1_89) rfl rfl k) ?_
  refine gLen N41 hx hZ V44 (hb hby d1_90) ?_
  show Ends p e below _ T39 (mkF m 91 #[.val (.ref a), .val (.ref t), .val (.int pos), .val (.int cc), .val (.int f)] [(.int (6 : Int32))])
  refine Ends.go (f' := (mkF m 92 #[.val (.ref a), .val (.ref t), .val (.int pos), .val (.int cc), .val (.int f)] [(.int (5 : Int32)), (.int (6 : Int32))])) (fun t k => XS.iconst N41.here hx rfl (hb hby d1_91) k) ?_
  refine Ends.go (f' := (mkF m 95 #[.val (.ref a), .val (.ref t), .val (.int pos), .val (.int cc), .val (.int f)] [])) (fun t k => XS.icmpNo N41.here hx rfl (hb hby d1_92) rfl (XT.ii_le_f (by decide)) k) ?_
  refine Ends.go (f' := (mkF m 96 #[.val (.ref a), .val (.ref t), .val (.int pos), .val (.int cc), .val (.int f)] [(.ref a)])) (fun t k => XS.aloadN N41.here hx rfl (hb hby d1_95) rfl rfl k) ?_
  refine Ends.go (f' := (mkF m 97 #[.val (.ref a), .val (.ref t), .val (.int pos), .val (.int cc), .val (.int f)] [(.int (5 : Int32)), (.ref a)])) (fun t k => XS.iconst N41.here hx rfl (hb hby d1_96) k) ?_
  refine Ends.go (f' := (mkF m 98 #[.val (.ref a), .val (.ref t), .val (.int pos), .val (.int cc), .val (.int f)] [(.ref t), (.int (5 : Int32)), (.ref a)])) (fun t k => XS.aloadN N41.here hx rfl (hb hby d1_97) rfl rfl k) ?_
  refine Ends.go (f' := (mkF m 99 #[.val (.ref a), .val (.ref t), .val (.int pos), .val (.int cc), .val (.int f)] [(.int (5 : Int32)), (.ref t), (.int (5 : Int32)), (.ref a)])) (fun t k => XS.iconst N41.here hx rfl (hb hby d1_98) k) ?_
  refine Ends.go (f' := (mkF m 100 #[.val (.ref a), .val (.ref t), .val (.int pos), .val (.int cc), .val (.int f)] [(.int pos), (.int (5 : Int32)), (.ref t), (.int (5 : Int32)), (.ref a)])) (fun t k => XS.iloadN N41.here hx rfl (hb hby d1_99) rfl k) ?_
  refine Ends.go (f' := (mkF m 101 #[.val (.ref a), .val (.ref t), .val (.int pos), .val (.int cc), .val (.int f)] [(.int cc), (.int pos), (.int (5 : Int32)), (.ref t), (.int (5 : Int32)), (.ref a)])) (fun t k => XS.iloadN N41.here hx rfl (hb hby d1_100) rfl k) ?_
  refine Ends.go (f' := (mkF m 103 #[.val (.ref a), .val (.ref t), .val (.int pos), .val (.int cc), .val (.int f)] [(.int f), (.int cc), (.int pos), (.int (5 : Int32)), (.ref t), (.int (5 : Int32)), (.ref a)])) (fun t k => XS.iload N41.here hx rfl (hb hby d1_101) rfl k) ?_
  refine gStatic (W := 2) (argsL := [(.ref t), (.int (5 : Int32)), (.int pos), (.int cc), (.int f)]) (rest := [(.int (5 : Int32)), (.ref a)]) N41 hx hZ hown (hw _ (List.mem_of_getElem? (i := 14) rfl)) (hw _ (List.mem_of_getElem? (i := 15) rfl)) (hw _ (List.mem_of_getElem? (i := 12) rfl)) (hw _ (List.mem_of_getElem? (i := 16) rfl)) (by decide) ((rmAt l Z a0 hw t 5 pos cc f ct h40 N41.ext G (S.ext X45) (nle rfl) hc hf).back (W := 2) hZ (hw _ (List.mem_of_getElem? (i := 16) rfl)) (hw _ (List.mem_of_getElem? (i := 12) rfl)) (nle rfl) (nle rfl)) (hb hby d1_103) rfl (by rw [hml]; rfl) (lenOf (by decide +kernel : parseMethodDescriptor "(Ljava/lang/String;IICC)C" = some ⟨[(.object "java/lang/String"), .int, .int, .char, .char], (some .char)⟩) rfl) (nle rfl) (nle rfl) (nle rfl) (fun _ _ _ q => q.2) ?_
  rintro _ T46 _ _ N47 ⟨⟨rfl, e_h⟩, -⟩; rw [e_h] at N47; clear e_h
  show Ends p e below _ T46 (mkF m 106 #[.val (.ref a), .val (.ref t), .val (.int pos), .val (.int cc), .val (.int f)] [(.int (fAt ct 5 pos cc f)), (.int (5 : Int32)), (.ref a)])
  refine gStC 5 N47 hx hZ V44 gz (by decide) rfl (nle rfl) (hb hby d1_106) ?_
  intro T48 h49 N50 W51 V52
  rw [nar_ok (at_ok (i := 5) (pos := pos) hc hf S.2.2.2.1)] at V52
  have V53 : Arv Z h49 a kA .char (6 : Int32) [(.int (fAt ct 0 pos cc f)), (.int (fAt ct 1 pos cc f)), (.int (fAt ct 2 pos cc f)), (.int (fAt ct 3 pos cc f)), (.int (fAt ct 4 pos cc f)), (.int (fAt ct 5 pos cc f))] (.int (0 : Int32)) := V52
  have X54 : Ext ht h49 := ext_wr X45 W51 ga
  show Ends p e below _ T48 (mkF m 107 #[.val (.ref a), .val (.ref t), .val (.int pos), .val (.int cc), .val (.int f)] [])
  refine Ends.go (f' := (mkF m 108 #[.val (.ref a), .val (.ref t), .val (.int pos), .val (.int cc), .val (.int f)] [(.ref a)])) (fun t k => XS.aloadN N50.here hx rfl (hb hby d1_107) rfl rfl k) ?_
  refine gLen N50 hx hZ V53 (hb hby d1_108) ?_
  show Ends p e below _ T48 (mkF m 109 #[.val (.ref a), .val (.ref t), .val (.int pos), .val (.int cc), .val (.int f)] [(.int (6 : Int32))])
  refine Ends.go (f' := (mkF m 111 #[.val (.ref a), .val (.ref t), .val (.int pos), .val (.int cc), .val (.int f)] [(.int (6 : Int32)), (.int (6 : Int32))])) (fun t k => XS.bipush N50.here hx rfl (hb hby d1_109) k) ?_
  refine Ends.go (f' := (mkF m 128 #[.val (.ref a), .val (.ref t), .val (.int pos), .val (.int cc), .val (.int f)] [])) (fun t k => XS.icmpYes N50.here hx rfl (pc0 := 111) (pc' := 128) rfl (hb hby d1_111) rfl (XT.ii_le_t (by decide)) (by decide) (by decide) k) ?_
  refine Ends.go (f' := (mkF m 129 #[.val (.ref a), .val (.ref t), .val (.int pos), .val (.int cc), .val (.int f)] [(.ref a)])) (fun t k => XS.aloadN N50.here hx rfl (hb hby d1_128) rfl rfl k) ?_
  refine gLen N50 hx hZ V53 (hb hby d1_129) ?_
  show Ends p e below _ T48 (mkF m 130 #[.val (.ref a), .val (.ref t), .val (.int pos), .val (.int cc), .val (.int f)] [(.int (6 : Int32))])
  refine Ends.go (f' := (mkF m 132 #[.val (.ref a), .val (.ref t), .val (.int pos), .val (.int cc), .val (.int f)] [(.int (7 : Int32)), (.int (6 : Int32))])) (fun t k => XS.bipush N50.here hx rfl (hb hby d1_130) k) ?_
  refine Ends.go (f' := (mkF m 149 #[.val (.ref a), .val (.ref t), .val (.int pos), .val (.int cc), .val (.int f)] [])) (fun t k => XS.icmpYes N50.here hx rfl (pc0 := 132) (pc' := 149) rfl (hb hby d1_132) rfl (XT.ii_le_t (by decide)) (by decide) (by decide) k) ?_
  refine Ends.go (f' := (mkF m 150 #[.val (.ref a), .val (.ref t), .val (.int pos), .val (.int cc), .val (.int f)] [(.ref a)])) (fun t k => XS.aloadN N50.here hx rfl (hb hby d1_149) rfl rfl k) ?_
  refine gLen N50 hx hZ V53 (hb hby d1_150) ?_
  show Ends p e below _ T48 (mkF m 151 #[.val (.ref a), .val (.ref t), .val (.int pos), .val (.int cc), .val (.int f)] [(.int (6 : Int32))])
  refine Ends.go (f' := (mkF m 153 #[.val (.ref a), .val (.ref t), .val (.int pos), .val (.int cc), .val (.int f)] [(.int (8 : Int32)), (.int (6 : Int32))])) (fun t k => XS.bipush N50.here hx rfl (hb hby d1_151) k) ?_
  refine Ends.go (f' := (mkF m 170 #[.val (.ref a), .val (.ref t), .val (.int pos), .val (.int cc), .val (.int f)] [])) (fun t k => XS.icmpYes N50.here hx rfl (pc0 := 153) (pc' := 170) rfl (hb hby d1_153) rfl (XT.ii_le_t (by decide)) (by decide) (by decide) k) ?_
  refine Ends.go (f' := (mkF m 171 #[.val (.ref a), .val (.ref t), .val (.int pos), .val (.int cc), .val (.int f)] [(.ref a)])) (fun t k => XS.aloadN N50.here hx rfl (hb hby d1_170) rfl rfl k) ?_
  refine gLen N50 hx hZ V53 (hb hby d1_171) ?_
  show Ends p e below _ T48 (mkF m 172 #[.val (.ref a), .val (.ref t), .val (.int pos), .val (.int cc), .val (.int f)] [(.int (6 : Int32))])
  refine Ends.go (f' := (mkF m 174 #[.val (.ref a), .val (.ref t), .val (.int pos), .val (.int cc), .val (.int f)] [(.int (9 : Int32)), (.int (6 : Int32))])) (fun t k => XS.bipush N50.here hx rfl (hb hby d1_172) k) ?_
  refine Ends.go (f' := (mkF m 191 #[.val (.ref a), .val (.ref t), .val (.int pos), .val (.int cc), .val (.int f)] [])) (fun t k => XS.icmpYes N50.here hx rfl (pc0 := 174) (pc' := 191) rfl (hb hby d1_174) rfl (XT.ii_le_t (by decide)) (by decide) (by decide) k) ?_
  exact retV N50 hx hlk hret (hb hby d1_191) ⟨rfl, (((((((Keep.refl h0 [a]).wr W6 (Or.inl (List.mem_singleton.mpr rfl))).wr W15 (Or.inl (List.mem_singleton.mpr rfl))).wr W24 (Or.inl (List.mem_singleton.mpr rfl))).wr W33 (Or.inl (List.mem_singleton.mpr rfl))).wr W42 (Or.inl (List.mem_singleton.mpr rfl))).wr W51 (Or.inl (List.mem_singleton.mpr rfl))), V53⟩ (nle rfl) (nle rfl)
set_option maxRecDepth 65536 in
set_option maxHeartbeats 40000000 in
theorem rmFill7 (l : Launch) (Z : State) (a0 : Array Value) (hw : ∀ d ∈ tables_1, d.before a0 Z = true) (a t : Addr) (kA : ClassId) (pos cc f : Int32) (ct : List Int32) (ht : Heap) (h0 : Heap) (Z0 : Ext Z.heap h0) (G : Jdk Z) (Et : Ext ht h0) (S : Str Z ht t ct) (ga : ht.size ≤ a) (gz : Z.heap.size ≤ a) (V : Arv Z h0 a kA .char (7 : Int32) [(.int (0 : Int32)), (.int (0 : Int32)), (.int (0 : Int32)), (.int (0 : Int32)), (.int (0 : Int32)), (.int (0 : Int32)), (.int (0 : Int32))] (.int (0 : Int32))) (hc : ¬ cc < 0 ∧ ¬ (255 : Int32) < cc) (hf : ¬ f < 0 ∧ ¬ (255 : Int32) < f) :
    MetN l Z (⟨"com/example/waypost/waypost/cli/ContentOptionsIsContentOptionPinLaw", "fill", "([CLjava/lang/String;ICC)V"⟩ : MethodName) method_4_code 5 none [] ({ frames := 5, cells := 0, slots := 0, locals := 71 } : Room) #[(.ref a), (.ref t), (.int pos), (.int cc), (.int f)] h0 (fun v h => v = none ∧ Keep h0 h [a] ∧ Arv Z h a kA .char (7 : Int32) [(.int (fAt ct 0 pos cc f)), (.int (fAt ct 1 pos cc f)), (.int (fAt ct 2 pos cc f)), (.int (fAt ct 3 pos cc f)), (.int (fAt ct 4 pos cc f)), (.int (fAt ct 5 pos cc f)), (.int (fAt ct 6 pos cc f))] (.int (0 : Int32))) := by
  refine metN (by first | exact plainFor_of_name (by first | (simp [plainName, overriddenIn]; done) | decide +kernel) | decide +kernel) Z0 (Ls := #[.val (.ref a), .val (.ref t), .val (.int pos), .val (.int cc), .val (.int f)]) (fun m => by first | (simp [entryFrame, mkF, argsToLocals, Value.category]; done) | rfl) ?_
  intro p e s m below meth c T0 hx hby hml hret hlk hown hnm hZ N0
  refine Ends.go (f' := (mkF m 1 #[.val (.ref a), .val (.ref t), .val (.int pos), .val (.int cc), .val (.int f)] [(.ref a)])) (fun t k => XS.aloadN N0.here hx rfl (hb hby d1_0) rfl rfl k) ?_
  refine gLen N0 hx hZ V (hb hby d1_1) ?_
  show Ends p e below _ T0 (mkF m 2 #[.val (.ref a), .val (.ref t), .val (.int pos), .val (.int cc), .val (.int f)] [(.int (7 : Int32))])
  refine Ends.go (f' := (mkF m 5 #[.val (.ref a), .val (.ref t), .val (.int pos), .val (.int cc), .val (.int f)] [])) (fun t k => XS.ifNo N0.here hx rfl (hb hby d1_2) rfl (XT.i0_le_f (by decide)) k) ?_
  refine Ends.go (f' := (mkF m 6 #[.val (.ref a), .val (.ref t), .val (.int pos), .val (.int cc), .val (.int f)] [(.ref a)])) (fun t k => XS.aloadN N0.here hx rfl (hb hby d1_5) rfl rfl k) ?_
  refine Ends.go (f' := (mkF m 7 #[.val (.ref a), .val (.ref t), .val (.int pos), .val (.int cc), .val (.int f)] [(.int (0 : Int32)), (.ref a)])) (fun t k => XS.iconst N0.here hx rfl (hb hby d1_6) k) ?_
  refine Ends.go (f' := (mkF m 8 #[.val (.ref a), .val (.ref t), .val (.int pos), .val (.int cc), .val (.int f)] [(.ref t), (.int (0 : Int32)), (.ref a)])) (fun t k => XS.aloadN N0.here hx rfl (hb hby d1_7) rfl rfl k) ?_
  refine Ends.go (f' := (mkF m 9 #[.val (.ref a), .val (.ref t), .val (.int pos), .val (.int cc), .val (.int f)] [(.int (0 : Int32)), (.ref t), (.int (0 : Int32)), (.ref a)])) (fun t k => XS.iconst N0.here hx rfl (hb hby d1_8) k) ?_
  refine Ends.go (f' := (mkF m 10 #[.val (.ref a), .val (.ref t), .val (.int pos), .val (.int cc), .val (.int f)] [(.int pos), (.int (0 : Int32)), (.ref t), (.int (0 : Int32)), (.ref a)])) (fun t k => XS.iloadN N0.here hx rfl (hb hby d1_9) rfl k) ?_
  refine Ends.go (f' := (mkF m 11 #[.val (.ref a), .val (.ref t), .val (.int pos), .val (.int cc), .val (.int f)] [(.int cc), (.int pos), (.int (0 : Int32)), (.ref t), (.int (0 : Int32)), (.ref a)])) (fun t k => XS.iloadN N0.here hx rfl (hb hby d1_10) rfl k) ?_
  refine Ends.go (f' := (mkF m 13 #[.val (.ref a), .val (.ref t), .val (.int pos), .val (.int cc), .val (.int f)] [(.int f), (.int cc), (.int pos), (.int (0 : Int32)), (.ref t), (.int (0 : Int32)), (.ref a)])) (fun t k => XS.iload N0.here hx rfl (hb hby d1_11) rfl k) ?_
  refine gStatic (W := 2) (argsL := [(.ref t), (.int (0 : Int32)), (.int pos), (.int cc), (.int f)]) (rest := [(.int (0 : Int32)), (.ref a)]) N0 hx hZ hown (hw _ (List.mem_of_getElem? (i := 14) rfl)) (hw _ (List.mem_of_getElem? (i := 15) rfl)) (hw _ (List.mem_of_getElem? (i := 12) rfl)) (hw _ (List.mem_of_getElem? (i := 16) rfl)) (by decide) ((rmAt l Z a0 hw t 0 pos cc f ct h0 N0.ext G (S.ext Et) (nle rfl) hc hf).back (W := 2) hZ (hw _ (List.mem_of_getElem? (i := 16) rfl)) (hw _ (List.mem_of_getElem? (i := 12) rfl)) (nle rfl) (nle rfl)) (hb hby d1_13) rfl (by rw [hml]; rfl) (lenOf (by decide +kernel : parseMethodDescriptor "(Ljava/lang/String;IICC)C" = some ⟨[(.object "java/lang/String"), .int, .int, .char, .char], (some .char)⟩) rfl) (nle rfl) (nle rfl) (nle rfl) (fun _ _ _ q => q.2) ?_
  rintro _ T1 _ _ N2 ⟨⟨rfl, e_h⟩, -⟩; rw [e_h] at N2; clear e_h
  show Ends p e below _ T1 (mkF m 16 #[.val (.ref a), .val (.ref t), .val (.int pos), .val (.int cc), .val (.int f)] [(.int (fAt ct 0 pos cc f)), (.int (0 : Int32)), (.ref a)])
  refine gStC 0 N2 hx hZ V gz (by decide) rfl (nle rfl) (hb hby d1_16) ?_
  intro T3 h4 N5 W6 V7
  rw [nar_ok (at_ok (i := 0) (pos := pos) hc hf S.2.2.2.1)] at V7
  have V8 : Arv Z h4 a kA .char (7 : Int32) [(.int (fAt ct 0 pos cc f)), (.int (0 : Int32)), (.int (0 : Int32)), (.int (0 : Int32)), (.int (0 : Int32)), (.int (0 : Int32)), (.int (0 : Int32))] (.int (0 : Int32)) := V7
  have X9 : Ext ht h4 := ext_wr Et W6 ga
  show Ends p e below _ T3 (mkF m 17 #[.val (.ref a), .val (.ref t), .val (.int pos), .val (.int cc), .val (.int f)] [])
  refine Ends.go (f' := (mkF m 18 #[.val (.ref a), .val (.ref t), .val (.int pos), .val (.int cc), .val (.int f)] [(.ref a)])) (fun t k => XS.aloadN N5.here hx rfl (hb hby d1_17) rfl rfl k) ?_
  refine gLen N5 hx hZ V8 (hb hby d1_18) ?_
  show Ends p e below _ T3 (mkF m 19 #[.val (.ref a), .val (.ref t), .val (.int pos), .val (.int cc), .val (.int f)] [(.int (7 : Int32))])
  refine Ends.go (f' := (mkF m 20 #[.val (.ref a), .val (.ref t), .val (.int pos), .val (.int cc), .val (.int f)] [(.int (1 : Int32)), (.int (7 : Int32))])) (fun t k => XS.iconst N5.here hx rfl (hb hby d1_19) k) ?_
  refine Ends.go (f' := (mkF m 23 #[.val (.ref a), .val (.ref t), .val (.int pos), .val (.int cc), .val (.int f)] [])) (fun t k => XS.icmpNo N5.here hx rfl (hb hby d1_20) rfl (XT.ii_le_f (by decide)) k) ?_
  refine Ends.go (f' := (mkF m 24 #[.val (.ref a), .val (.ref t), .val (.int pos), .val (.int cc), .val (.int f)] [(.ref a)])) (fun t k => XS.aloadN N5.here hx rfl (hb hby d1_23) rfl rfl k) ?_
  refine Ends.go (f' := (mkF m 25 #[.val (.ref a), .val (.ref t), .val (.int pos), .val (.int cc), .val (.int f)] [(.int (1 : Int32)), (.ref a)])) (fun t k => XS.iconst N5.here hx rfl (hb hby d1_24) k) ?_
  refine Ends.go (f' := (mkF m 26 #[.val (.ref a), .val (.ref t), .val (.int pos), .val (.int cc), .val (.int f)] [(.ref t), (.int (1 : Int32)), (.ref a)])) (fun t k => XS.aloadN N5.here hx rfl (hb hby d1_25) rfl rfl k) ?_
  refine Ends.go (f' := (mkF m 27 #[.val (.ref a), .val (.ref t), .val (.int pos), .val (.int cc), .val (.int f)] [(.int (1 : Int32)), (.ref t), (.int (1 : Int32)), (.ref a)])) (fun t k => XS.iconst N5.here hx rfl (hb hby d1_26) k) ?_
  refine Ends.go (f' := (mkF m 28 #[.val (.ref a), .val (.ref t), .val (.int pos), .val (.int cc), .val (.int f)] [(.int pos), (.int (1 : Int32)), (.ref t), (.int (1 : Int32)), (.ref a)])) (fun t k => XS.iloadN N5.here hx rfl (hb hby d1_27) rfl k) ?_
  refine Ends.go (f' := (mkF m 29 #[.val (.ref a), .val (.ref t), .val (.int pos), .val (.int cc), .val (.int f)] [(.int cc), (.int pos), (.int (1 : Int32)), (.ref t), (.int (1 : Int32)), (.ref a)])) (fun t k => XS.iloadN N5.here hx rfl (hb hby d1_28) rfl k) ?_
  refine Ends.go (f' := (mkF m 31 #[.val (.ref a), .val (.ref t), .val (.int pos), .val (.int cc), .val (.int f)] [(.int f), (.int cc), (.int pos), (.int (1 : Int32)), (.ref t), (.int (1 : Int32)), (.ref a)])) (fun t k => XS.iload N5.here hx rfl (hb hby d1_29) rfl k) ?_
  refine gStatic (W := 2) (argsL := [(.ref t), (.int (1 : Int32)), (.int pos), (.int cc), (.int f)]) (rest := [(.int (1 : Int32)), (.ref a)]) N5 hx hZ hown (hw _ (List.mem_of_getElem? (i := 14) rfl)) (hw _ (List.mem_of_getElem? (i := 15) rfl)) (hw _ (List.mem_of_getElem? (i := 12) rfl)) (hw _ (List.mem_of_getElem? (i := 16) rfl)) (by decide) ((rmAt l Z a0 hw t 1 pos cc f ct h4 N5.ext G (S.ext X9) (nle rfl) hc hf).back (W := 2) hZ (hw _ (List.mem_of_getElem? (i := 16) rfl)) (hw _ (List.mem_of_getElem? (i := 12) rfl)) (nle rfl) (nle rfl)) (hb hby d1_31) rfl (by rw [hml]; rfl) (lenOf (by decide +kernel : parseMethodDescriptor "(Ljava/lang/String;IICC)C" = some ⟨[(.object "java/lang/String"), .int, .int, .char, .char], (some .char)⟩) rfl) (nle rfl) (nle rfl) (nle rfl) (fun _ _ _ q => q.2) ?_
  rintro _ T10 _ _ N11 ⟨⟨rfl, e_h⟩, -⟩; rw [e_h] at N11; clear e_h
  show Ends p e below _ T10 (mkF m 34 #[.val (.ref a), .val (.ref t), .val (.int pos), .val (.int cc), .val (.int f)] [(.int (fAt ct 1 pos cc f)), (.int (1 : Int32)), (.ref a)])
  refine gStC 1 N11 hx hZ V8 gz (by decide) rfl (nle rfl) (hb hby d1_34) ?_
  intro T12 h13 N14 W15 V16
  rw [nar_ok (at_ok (i := 1) (pos := pos) hc hf S.2.2.2.1)] at V16
  have V17 : Arv Z h13 a kA .char (7 : Int32) [(.int (fAt ct 0 pos cc f)), (.int (fAt ct 1 pos cc f)), (.int (0 : Int32)), (.int (0 : Int32)), (.int (0 : Int32)), (.int (0 : Int32)), (.int (0 : Int32))] (.int (0 : Int32)) := V16
  have X18 : Ext ht h13 := ext_wr X9 W15 ga
  show Ends p e below _ T12 (mkF m 35 #[.val (.ref a), .val (.ref t), .val (.int pos), .val (.int cc), .val (.int f)] [])
  refine Ends.go (f' := (mkF m 36 #[.val (.ref a), .val (.ref t), .val (.int pos), .val (.int cc), .val (.int f)] [(.ref a)])) (fun t k => XS.aloadN N14.here hx rfl (hb hby d1_35) rfl rfl k) ?_
  refine gLen N14 hx hZ V17 (hb hby d1_36) ?_
  show Ends p e below _ T12 (mkF m 37 #[.val (.ref a), .val (.ref t), .val (.int pos), .val (.int cc), .val (.int f)] [(.int (7 : Int32))])
  refine Ends.go (f' := (mkF m 38 #[.val (.ref a), .val (.ref t), .val (.int pos), .val (.int cc), .val (.int f)] [(.int (2 : Int32)), (.int (7 : Int32))])) (fun t k => XS.iconst N14.here hx rfl (hb hby d1_37) k) ?_
  refine Ends.go (f' := (mkF m 41 #[.val (.ref a), .val (.ref t), .val (.int pos), .val (.int cc), .val (.int f)] [])) (fun t k => XS.icmpNo N14.here hx rfl (hb hby d1_38) rfl (XT.ii_le_f (by decide)) k) ?_
  refine Ends.go (f' := (mkF m 42 #[.val (.ref a), .val (.ref t), .val (.int pos), .val (.int cc), .val (.int f)] [(.ref a)])) (fun t k => XS.aloadN N14.here hx rfl (hb hby d1_41) rfl rfl k) ?_
  refine Ends.go (f' := (mkF m 43 #[.val (.ref a), .val (.ref t), .val (.int pos), .val (.int cc), .val (.int f)] [(.int (2 : Int32)), (.ref a)])) (fun t k => XS.iconst N14.here hx rfl (hb hby d1_42) k) ?_
  refine Ends.go (f' := (mkF m 44 #[.val (.ref a), .val (.ref t), .val (.int pos), .val (.int cc), .val (.int f)] [(.ref t), (.int (2 : Int32)), (.ref a)])) (fun t k => XS.aloadN N14.here hx rfl (hb hby d1_43) rfl rfl k) ?_
  refine Ends.go (f' := (mkF m 45 #[.val (.ref a), .val (.ref t), .val (.int pos), .val (.int cc), .val (.int f)] [(.int (2 : Int32)), (.ref t), (.int (2 : Int32)), (.ref a)])) (fun t k => XS.iconst N14.here hx rfl (hb hby d1_44) k) ?_
  refine Ends.go (f' := (mkF m 46 #[.val (.ref a), .val (.ref t), .val (.int pos), .val (.int cc), .val (.int f)] [(.int pos), (.int (2 : Int32)), (.ref t), (.int (2 : Int32)), (.ref a)])) (fun t k => XS.iloadN N14.here hx rfl (hb hby d1_45) rfl k) ?_
  refine Ends.go (f' := (mkF m 47 #[.val (.ref a), .val (.ref t), .val (.int pos), .val (.int cc), .val (.int f)] [(.int cc), (.int pos), (.int (2 : Int32)), (.ref t), (.int (2 : Int32)), (.ref a)])) (fun t k => XS.iloadN N14.here hx rfl (hb hby d1_46) rfl k) ?_
  refine Ends.go (f' := (mkF m 49 #[.val (.ref a), .val (.ref t), .val (.int pos), .val (.int cc), .val (.int f)] [(.int f), (.int cc), (.int pos), (.int (2 : Int32)), (.ref t), (.int (2 : Int32)), (.ref a)])) (fun t k => XS.iload N14.here hx rfl (hb hby d1_47) rfl k) ?_
  refine gStatic (W := 2) (argsL := [(.ref t), (.int (2 : Int32)), (.int pos), (.int cc), (.int f)]) (rest := [(.int (2 : Int32)), (.ref a)]) N14 hx hZ hown (hw _ (List.mem_of_getElem? (i := 14) rfl)) (hw _ (List.mem_of_getElem? (i := 15) rfl)) (hw _ (List.mem_of_getElem? (i := 12) rfl)) (hw _ (List.mem_of_getElem? (i := 16) rfl)) (by decide) ((rmAt l Z a0 hw t 2 pos cc f ct h13 N14.ext G (S.ext X18) (nle rfl) hc hf).back (W := 2) hZ (hw _ (List.mem_of_getElem? (i := 16) rfl)) (hw _ (List.mem_of_getElem? (i := 12) rfl)) (nle rfl) (nle rfl)) (hb hby d1_49) rfl (by rw [hml]; rfl) (lenOf (by decide +kernel : parseMethodDescriptor "(Ljava/lang/String;IICC)C" = some ⟨[(.object "java/lang/String"), .int, .int, .char, .char], (some .char)⟩) rfl) (nle rfl) (nle rfl) (nle rfl) (fun _ _ _ q => q.2) ?_
  rintro _ T19 _ _ N20 ⟨⟨rfl, e_h⟩, -⟩; rw [e_h] at N20; clear e_h
  show Ends p e below _ T19 (mkF m 52 #[.val (.ref a), .val (.ref t), .val (.int pos), .val (.int cc), .val (.int f)] [(.int (fAt ct 2 pos cc f)), (.int (2 : Int32)), (.ref a)])
  refine gStC 2 N20 hx hZ V17 gz (by decide) rfl (nle rfl) (hb hby d1_52) ?_
  intro T21 h22 N23 W24 V25
  rw [nar_ok (at_ok (i := 2) (pos := pos) hc hf S.2.2.2.1)] at V25
  have V26 : Arv Z h22 a kA .char (7 : Int32) [(.int (fAt ct 0 pos cc f)), (.int (fAt ct 1 pos cc f)), (.int (fAt ct 2 pos cc f)), (.int (0 : Int32)), (.int (0 : Int32)), (.int (0 : Int32)), (.int (0 : Int32))] (.int (0 : Int32)) := V25
  have X27 : Ext ht h22 := ext_wr X18 W24 ga
  show Ends p e below _ T21 (mkF m 53 #[.val (.ref a), .val (.ref t), .val (.int pos), .val (.int cc), .val (.int f)] [])
  refine Ends.go (f' := (mkF m 54 #[.val (.ref a), .val (.ref t), .val (.int pos), .val (.int cc), .val (.int f)] [(.ref a)])) (fun t k => XS.aloadN N23.here hx rfl (hb hby d1_53) rfl rfl k) ?_
  refine gLen N23 hx hZ V26 (hb hby d1_54) ?_
  show Ends p e below _ T21 (mkF m 55 #[.val (.ref a), .val (.ref t), .val (.int pos), .val (.int cc), .val (.int f)] [(.int (7 : Int32))])
  refine Ends.go (f' := (mkF m 56 #[.val (.ref a), .val (.ref t), .val (.int pos), .val (.int cc), .val (.int f)] [(.int (3 : Int32)), (.int (7 : Int32))])) (fun t k => XS.iconst N23.here hx rfl (hb hby d1_55) k) ?_
  refine Ends.go (f' := (mkF m 59 #[.val (.ref a), .val (.ref t), .val (.int pos), .val (.int cc), .val (.int f)] [])) (fun t k => XS.icmpNo N23.here hx rfl (hb hby d1_56) rfl (XT.ii_le_f (by decide)) k) ?_
  refine Ends.go (f' := (mkF m 60 #[.val (.ref a), .val (.ref t), .val (.int pos), .val (.int cc), .val (.int f)] [(.ref a)])) (fun t k => XS.aloadN N23.here hx rfl (hb hby d1_59) rfl rfl k) ?_
  refine Ends.go (f' := (mkF m 61 #[.val (.ref a), .val (.ref t), .val (.int pos), .val (.int cc), .val (.int f)] [(.int (3 : Int32)), (.ref a)])) (fun t k => XS.iconst N23.here hx rfl (hb hby d1_60) k) ?_
  refine Ends.go (f' := (mkF m 62 #[.val (.ref a), .val (.ref t), .val (.int pos), .val (.int cc), .val (.int f)] [(.ref t), (.int (3 : Int32)), (.ref a)])) (fun t k => XS.aloadN N23.here hx rfl (hb hby d1_61) rfl rfl k) ?_
  refine Ends.go (f' := (mkF m 63 #[.val (.ref a), .val (.ref t), .val (.int pos), .val (.int cc), .val (.int f)] [(.int (3 : Int32)), (.ref t), (.int (3 : Int32)), (.ref a)])) (fun t k => XS.iconst N23.here hx rfl (hb hby d1_62) k) ?_
  refine Ends.go (f' := (mkF m 64 #[.val (.ref a), .val (.ref t), .val (.int pos), .val (.int cc), .val (.int f)] [(.int pos), (.int (3 : Int32)), (.ref t), (.int (3 : Int32)), (.ref a)])) (fun t k => XS.iloadN N23.here hx rfl (hb hby d1_63) rfl k) ?_
  refine Ends.go (f' := (mkF m 65 #[.val (.ref a), .val (.ref t), .val (.int pos), .val (.int cc), .val (.int f)] [(.int cc), (.int pos), (.int (3 : Int32)), (.ref t), (.int (3 : Int32)), (.ref a)])) (fun t k => XS.iloadN N23.here hx rfl (hb hby d1_64) rfl k) ?_
  refine Ends.go (f' := (mkF m 67 #[.val (.ref a), .val (.ref t), .val (.int pos), .val (.int cc), .val (.int f)] [(.int f), (.int cc), (.int pos), (.int (3 : Int32)), (.ref t), (.int (3 : Int32)), (.ref a)])) (fun t k => XS.iload N23.here hx rfl (hb hby d1_65) rfl k) ?_
  refine gStatic (W := 2) (argsL := [(.ref t), (.int (3 : Int32)), (.int pos), (.int cc), (.int f)]) (rest := [(.int (3 : Int32)), (.ref a)]) N23 hx hZ hown (hw _ (List.mem_of_getElem? (i := 14) rfl)) (hw _ (List.mem_of_getElem? (i := 15) rfl)) (hw _ (List.mem_of_getElem? (i := 12) rfl)) (hw _ (List.mem_of_getElem? (i := 16) rfl)) (by decide) ((rmAt l Z a0 hw t 3 pos cc f ct h22 N23.ext G (S.ext X27) (nle rfl) hc hf).back (W := 2) hZ (hw _ (List.mem_of_getElem? (i := 16) rfl)) (hw _ (List.mem_of_getElem? (i := 12) rfl)) (nle rfl) (nle rfl)) (hb hby d1_67) rfl (by rw [hml]; rfl) (lenOf (by decide +kernel : parseMethodDescriptor "(Ljava/lang/String;IICC)C" = some ⟨[(.object "java/lang/String"), .int, .int, .char, .char], (some .char)⟩) rfl) (nle rfl) (nle rfl) (nle rfl) (fun _ _ _ q => q.2) ?_
  rintro _ T28 _ _ N29 ⟨⟨rfl, e_h⟩, -⟩; rw [e_h] at N29; clear e_h
  show Ends p e below _ T28 (mkF m 70 #[.val (.ref a), .val (.ref t), .val (.int pos), .val (.int cc), .val (.int f)] [(.int (fAt ct 3 pos cc f)), (.int (3 : Int32)), (.ref a)])
  refine gStC 3 N29 hx hZ V26 gz (by decide) rfl (nle rfl) (hb hby d1_70) ?_
  intro T30 h31 N32 W33 V34
  rw [nar_ok (at_ok (i := 3) (pos := pos) hc hf S.2.2.2.1)] at V34
  have V35 : Arv Z h31 a kA .char (7 : Int32) [(.int (fAt ct 0 pos cc f)), (.int (fAt ct 1 pos cc f)), (.int (fAt ct 2 pos cc f)), (.int (fAt ct 3 pos cc f)), (.int (0 : Int32)), (.int (0 : Int32)), (.int (0 : Int32))] (.int (0 : Int32)) := V34
  have X36 : Ext ht h31 := ext_wr X27 W33 ga
  show Ends p e below _ T30 (mkF m 71 #[.val (.ref a), .val (.ref t), .val (.int pos), .val (.int cc), .val (.int f)] [])
  refine Ends.go (f' := (mkF m 72 #[.val (.ref a), .val (.ref t), .val (.int pos), .val (.int cc), .val (.int f)] [(.ref a)])) (fun t k => XS.aloadN N32.here hx rfl (hb hby d1_71) rfl rfl k) ?_
  refine gLen N32 hx hZ V35 (hb hby d1_72) ?_
  show Ends p e below _ T30 (mkF m 73 #[.val (.ref a), .val (.ref t), .val (.int pos), .val (.int cc), .val (.int f)] [(.int (7 : Int32))])
  refine Ends.go (f' := (mkF m 74 #[.val (.ref a), .val (.ref t), .val (.int pos), .val (.int cc), .val (.int f)] [(.int (4 : Int32)), (.int (7 : Int32))])) (fun t k => XS.iconst N32.here hx rfl (hb hby d1_73) k) ?_
  refine Ends.go (f' := (mkF m 77 #[.val (.ref a), .val (.ref t), .val (.int pos), .val (.int cc), .val (.int f)] [])) (fun t k => XS.icmpNo N32.here hx rfl (hb hby d1_74) rfl (XT.ii_le_f (by decide)) k) ?_
  refine Ends.go (f' := (mkF m 78 #[.val (.ref a), .val (.ref t), .val (.int pos), .val (.int cc), .val (.int f)] [(.ref a)])) (fun t k => XS.aloadN N32.here hx rfl (hb hby d1_77) rfl rfl k) ?_
  refine Ends.go (f' := (mkF m 79 #[.val (.ref a), .val (.ref t), .val (.int pos), .val (.int cc), .val (.int f)] [(.int (4 : Int32)), (.ref a)])) (fun t k => XS.iconst N32.here hx rfl (hb hby d1_78) k) ?_
  refine Ends.go (f' := (mkF m 80 #[.val (.ref a), .val (.ref t), .val (.int pos), .val (.int cc), .val (.int f)] [(.ref t), (.int (4 : Int32)), (.ref a)])) (fun t k => XS.aloadN N32.here hx rfl (hb hby d1_79) rfl rfl k) ?_
  refine Ends.go (f' := (mkF m 81 #[.val (.ref a), .val (.ref t), .val (.int pos), .val (.int cc), .val (.int f)] [(.int (4 : Int32)), (.ref t), (.int (4 : Int32)), (.ref a)])) (fun t k => XS.iconst N32.here hx rfl (hb hby d1_80) k) ?_
  refine Ends.go (f' := (mkF m 82 #[.val (.ref a), .val (.ref t), .val (.int pos), .val (.int cc), .val (.int f)] [(.int pos), (.int (4 : Int32)), (.ref t), (.int (4 : Int32)), (.ref a)])) (fun t k => XS.iloadN N32.here hx rfl (hb hby d1_81) rfl k) ?_
  refine Ends.go (f' := (mkF m 83 #[.val (.ref a), .val (.ref t), .val (.int pos), .val (.int cc), .val (.int f)] [(.int cc), (.int pos), (.int (4 : Int32)), (.ref t), (.int (4 : Int32)), (.ref a)])) (fun t k => XS.iloadN N32.here hx rfl (hb hby d1_82) rfl k) ?_
  refine Ends.go (f' := (mkF m 85 #[.val (.ref a), .val (.ref t), .val (.int pos), .val (.int cc), .val (.int f)] [(.int f), (.int cc), (.int pos), (.int (4 : Int32)), (.ref t), (.int (4 : Int32)), (.ref a)])) (fun t k => XS.iload N32.here hx rfl (hb hby d1_83) rfl k) ?_
  refine gStatic (W := 2) (argsL := [(.ref t), (.int (4 : Int32)), (.int pos), (.int cc), (.int f)]) (rest := [(.int (4 : Int32)), (.ref a)]) N32 hx hZ hown (hw _ (List.mem_of_getElem? (i := 14) rfl)) (hw _ (List.mem_of_getElem? (i := 15) rfl)) (hw _ (List.mem_of_getElem? (i := 12) rfl)) (hw _ (List.mem_of_getElem? (i := 16) rfl)) (by decide) ((rmAt l Z a0 hw t 4 pos cc f ct h31 N32.ext G (S.ext X36) (nle rfl) hc hf).back (W := 2) hZ (hw _ (List.mem_of_getElem? (i := 16) rfl)) (hw _ (List.mem_of_getElem? (i := 12) rfl)) (nle rfl) (nle rfl)) (hb hby d1_85) rfl (by rw [hml]; rfl) (lenOf (by decide +kernel : parseMethodDescriptor "(Ljava/lang/String;IICC)C" = some ⟨[(.object "java/lang/String"), .int, .int, .char, .char], (some .char)⟩) rfl) (nle rfl) (nle rfl) (nle rfl) (fun _ _ _ q => q.2) ?_
  rintro _ T37 _ _ N38 ⟨⟨rfl, e_h⟩, -⟩; rw [e_h] at N38; clear e_h
  show Ends p e below _ T37 (mkF m 88 #[.val (.ref a), .val (.ref t), .val (.int pos), .val (.int cc), .val (.int f)] [(.int (fAt ct 4 pos cc f)), (.int (4 : Int32)), (.ref a)])
  refine gStC 4 N38 hx hZ V35 gz (by decide) rfl (nle rfl) (hb hby d1_88) ?_
  intro T39 h40 N41 W42 V43
  rw [nar_ok (at_ok (i := 4) (pos := pos) hc hf S.2.2.2.1)] at V43
  have V44 : Arv Z h40 a kA .char (7 : Int32) [(.int (fAt ct 0 pos cc f)), (.int (fAt ct 1 pos cc f)), (.int (fAt ct 2 pos cc f)), (.int (fAt ct 3 pos cc f)), (.int (fAt ct 4 pos cc f)), (.int (0 : Int32)), (.int (0 : Int32))] (.int (0 : Int32)) := V43
  have X45 : Ext ht h40 := ext_wr X36 W42 ga
  show Ends p e below _ T39 (mkF m 89 #[.val (.ref a), .val (.ref t), .val (.int pos), .val (.int cc), .val (.int f)] [])
  refine Ends.go (f' := (mkF m 90 #[.val (.ref a), .val (.ref t), .val (.int pos), .val (.int cc), .val (.int f)] [(.ref a)])) (fun t k => XS.aloadN N41.here hx rfl (hb hby d1_89) rfl rfl k) ?_
  refine gLen N41 hx hZ V44 (hb hby d1_90) ?_
  show Ends p e below _ T39 (mkF m 91 #[.val (.ref a), .val (.ref t), .val (.int pos), .val (.int cc), .val (.int f)] [(.int (7 : Int32))])
  refine Ends.go (f' := (mkF m 92 #[.val (.ref a), .val (.ref t), .val (.int pos), .val (.int cc), .val (.int f)] [(.int (5 : Int32)), (.int (7 : Int32))])) (fun t k => XS.iconst N41.here hx rfl (hb hby d1_91) k) ?_
  refine Ends.go (f' := (mkF m 95 #[.val (.ref a), .val (.ref t), .val (.int pos), .val (.int cc), .val (.int f)] [])) (fun t k => XS.icmpNo N41.here hx rfl (hb hby d1_92) rfl (XT.ii_le_f (by decide)) k) ?_
  refine Ends.go (f' := (mkF m 96 #[.val (.ref a), .val (.ref t), .val (.int pos), .val (.int cc), .val (.int f)] [(.ref a)])) (fun t k => XS.aloadN N41.here hx rfl (hb hby d1_95) rfl rfl k) ?_
  refine Ends.go (f' := (mkF m 97 #[.val (.ref a), .val (.ref t), .val (.int pos), .val (.int cc), .val (.int f)] [(.int (5 : Int32)), (.ref a)])) (fun t k => XS.iconst N41.here hx rfl (hb hby d1_96) k) ?_
  refine Ends.go (f' := (mkF m 98 #[.val (.ref a), .val (.ref t), .val (.int pos), .val (.int cc), .val (.int f)] [(.ref t), (.int (5 : Int32)), (.ref a)])) (fun t k => XS.aloadN N41.here hx rfl (hb hby d1_97) rfl rfl k) ?_
  refine Ends.go (f' := (mkF m 99 #[.val (.ref a), .val (.ref t), .val (.int pos), .val (.int cc), .val (.int f)] [(.int (5 : Int32)), (.ref t), (.int (5 : Int32)), (.ref a)])) (fun t k => XS.iconst N41.here hx rfl (hb hby d1_98) k) ?_
  refine Ends.go (f' := (mkF m 100 #[.val (.ref a), .val (.ref t), .val (.int pos), .val (.int cc), .val (.int f)] [(.int pos), (.int (5 : Int32)), (.ref t), (.int (5 : Int32)), (.ref a)])) (fun t k => XS.iloadN N41.here hx rfl (hb hby d1_99) rfl k) ?_
  refine Ends.go (f' := (mkF m 101 #[.val (.ref a), .val (.ref t), .val (.int pos), .val (.int cc), .val (.int f)] [(.int cc), (.int pos), (.int (5 : Int32)), (.ref t), (.int (5 : Int32)), (.ref a)])) (fun t k => XS.iloadN N41.here hx rfl (hb hby d1_100) rfl k) ?_
  refine Ends.go (f' := (mkF m 103 #[.val (.ref a), .val (.ref t), .val (.int pos), .val (.int cc), .val (.int f)] [(.int f), (.int cc), (.int pos), (.int (5 : Int32)), (.ref t), (.int (5 : Int32)), (.ref a)])) (fun t k => XS.iload N41.here hx rfl (hb hby d1_101) rfl k) ?_
  refine gStatic (W := 2) (argsL := [(.ref t), (.int (5 : Int32)), (.int pos), (.int cc), (.int f)]) (rest := [(.int (5 : Int32)), (.ref a)]) N41 hx hZ hown (hw _ (List.mem_of_getElem? (i := 14) rfl)) (hw _ (List.mem_of_getElem? (i := 15) rfl)) (hw _ (List.mem_of_getElem? (i := 12) rfl)) (hw _ (List.mem_of_getElem? (i := 16) rfl)) (by decide) ((rmAt l Z a0 hw t 5 pos cc f ct h40 N41.ext G (S.ext X45) (nle rfl) hc hf).back (W := 2) hZ (hw _ (List.mem_of_getElem? (i := 16) rfl)) (hw _ (List.mem_of_getElem? (i := 12) rfl)) (nle rfl) (nle rfl)) (hb hby d1_103) rfl (by rw [hml]; rfl) (lenOf (by decide +kernel : parseMethodDescriptor "(Ljava/lang/String;IICC)C" = some ⟨[(.object "java/lang/String"), .int, .int, .char, .char], (some .char)⟩) rfl) (nle rfl) (nle rfl) (nle rfl) (fun _ _ _ q => q.2) ?_
  rintro _ T46 _ _ N47 ⟨⟨rfl, e_h⟩, -⟩; rw [e_h] at N47; clear e_h
  show Ends p e below _ T46 (mkF m 106 #[.val (.ref a), .val (.ref t), .val (.int pos), .val (.int cc), .val (.int f)] [(.int (fAt ct 5 pos cc f)), (.int (5 : Int32)), (.ref a)])
  refine gStC 5 N47 hx hZ V44 gz (by decide) rfl (nle rfl) (hb hby d1_106) ?_
  intro T48 h49 N50 W51 V52
  rw [nar_ok (at_ok (i := 5) (pos := pos) hc hf S.2.2.2.1)] at V52
  have V53 : Arv Z h49 a kA .char (7 : Int32) [(.int (fAt ct 0 pos cc f)), (.int (fAt ct 1 pos cc f)), (.int (fAt ct 2 pos cc f)), (.int (fAt ct 3 pos cc f)), (.int (fAt ct 4 pos cc f)), (.int (fAt ct 5 pos cc f)), (.int (0 : Int32))] (.int (0 : Int32)) := V52
  have X54 : Ext ht h49 := ext_wr X45 W51 ga
  show Ends p e below _ T48 (mkF m 107 #[.val (.ref a), .val (.ref t), .val (.int pos), .val (.int cc), .val (.int f)] [])
  refine Ends.go (f' := (mkF m 108 #[.val (.ref a), .val (.ref t), .val (.int pos), .val (.int cc), .val (.int f)] [(.ref a)])) (fun t k => XS.aloadN N50.here hx rfl (hb hby d1_107) rfl rfl k) ?_
  refine gLen N50 hx hZ V53 (hb hby d1_108) ?_
  show Ends p e below _ T48 (mkF m 109 #[.val (.ref a), .val (.ref t), .val (.int pos), .val (.int cc), .val (.int f)] [(.int (7 : Int32))])
  refine Ends.go (f' := (mkF m 111 #[.val (.ref a), .val (.ref t), .val (.int pos), .val (.int cc), .val (.int f)] [(.int (6 : Int32)), (.int (7 : Int32))])) (fun t k => XS.bipush N50.here hx rfl (hb hby d1_109) k) ?_
  refine Ends.go (f' := (mkF m 114 #[.val (.ref a), .val (.ref t), .val (.int pos), .val (.int cc), .val (.int f)] [])) (fun t k => XS.icmpNo N50.here hx rfl (hb hby d1_111) rfl (XT.ii_le_f (by decide)) k) ?_
  refine Ends.go (f' := (mkF m 115 #[.val (.ref a), .val (.ref t), .val (.int pos), .val (.int cc), .val (.int f)] [(.ref a)])) (fun t k => XS.aloadN N50.here hx rfl (hb hby d1_114) rfl rfl k) ?_
  refine Ends.go (f' := (mkF m 117 #[.val (.ref a), .val (.ref t), .val (.int pos), .val (.int cc), .val (.int f)] [(.int (6 : Int32)), (.ref a)])) (fun t k => XS.bipush N50.here hx rfl (hb hby d1_115) k) ?_
  refine Ends.go (f' := (mkF m 118 #[.val (.ref a), .val (.ref t), .val (.int pos), .val (.int cc), .val (.int f)] [(.ref t), (.int (6 : Int32)), (.ref a)])) (fun t k => XS.aloadN N50.here hx rfl (hb hby d1_117) rfl rfl k) ?_
  refine Ends.go (f' := (mkF m 120 #[.val (.ref a), .val (.ref t), .val (.int pos), .val (.int cc), .val (.int f)] [(.int (6 : Int32)), (.ref t), (.int (6 : Int32)), (.ref a)])) (fun t k => XS.bipush N50.here hx rfl (hb hby d1_118) k) ?_
  refine Ends.go (f' := (mkF m 121 #[.val (.ref a), .val (.ref t), .val (.int pos), .val (.int cc), .val (.int f)] [(.int pos), (.int (6 : Int32)), (.ref t), (.int (6 : Int32)), (.ref a)])) (fun t k => XS.iloadN N50.here hx rfl (hb hby d1_120) rfl k) ?_
  refine Ends.go (f' := (mkF m 122 #[.val (.ref a), .val (.ref t), .val (.int pos), .val (.int cc), .val (.int f)] [(.int cc), (.int pos), (.int (6 : Int32)), (.ref t), (.int (6 : Int32)), (.ref a)])) (fun t k => XS.iloadN N50.here hx rfl (hb hby d1_121) rfl k) ?_
  refine Ends.go (f' := (mkF m 124 #[.val (.ref a), .val (.ref t), .val (.int pos), .val (.int cc), .val (.int f)] [(.int f), (.int cc), (.int pos), (.int (6 : Int32)), (.ref t), (.int (6 : Int32)), (.ref a)])) (fun t k => XS.iload N50.here hx rfl (hb hby d1_122) rfl k) ?_
  refine gStatic (W := 2) (argsL := [(.ref t), (.int (6 : Int32)), (.int pos), (.int cc), (.int f)]) (rest := [(.int (6 : Int32)), (.ref a)]) N50 hx hZ hown (hw _ (List.mem_of_getElem? (i := 14) rfl)) (hw _ (List.mem_of_getElem? (i := 15) rfl)) (hw _ (List.mem_of_getElem? (i := 12) rfl)) (hw _ (List.mem_of_getElem? (i := 16) rfl)) (by decide) ((rmAt l Z a0 hw t 6 pos cc f ct h49 N50.ext G (S.ext X54) (nle rfl) hc hf).back (W := 2) hZ (hw _ (List.mem_of_getElem? (i := 16) rfl)) (hw _ (List.mem_of_getElem? (i := 12) rfl)) (nle rfl) (nle rfl)) (hb hby d1_124) rfl (by rw [hml]; rfl) (lenOf (by decide +kernel : parseMethodDescriptor "(Ljava/lang/String;IICC)C" = some ⟨[(.object "java/lang/String"), .int, .int, .char, .char], (some .char)⟩) rfl) (nle rfl) (nle rfl) (nle rfl) (fun _ _ _ q => q.2) ?_
  rintro _ T55 _ _ N56 ⟨⟨rfl, e_h⟩, -⟩; rw [e_h] at N56; clear e_h
  show Ends p e below _ T55 (mkF m 127 #[.val (.ref a), .val (.ref t), .val (.int pos), .val (.int cc), .val (.int f)] [(.int (fAt ct 6 pos cc f)), (.int (6 : Int32)), (.ref a)])
  refine gStC 6 N56 hx hZ V53 gz (by decide) rfl (nle rfl) (hb hby d1_127) ?_
  intro T57 h58 N59 W60 V61
  rw [nar_ok (at_ok (i := 6) (pos := pos) hc hf S.2.2.2.1)] at V61
  have V62 : Arv Z h58 a kA .char (7 : Int32) [(.int (fAt ct 0 pos cc f)), (.int (fAt ct 1 pos cc f)), (.int (fAt ct 2 pos cc f)), (.int (fAt ct 3 pos cc f)), (.int (fAt ct 4 pos cc f)), (.int (fAt ct 5 pos cc f)), (.int (fAt ct 6 pos cc f))] (.int (0 : Int32)) := V61
  have X63 : Ext ht h58 := ext_wr X54 W60 ga
  show Ends p e below _ T57 (mkF m 128 #[.val (.ref a), .val (.ref t), .val (.int pos), .val (.int cc), .val (.int f)] [])
  refine Ends.go (f' := (mkF m 129 #[.val (.ref a), .val (.ref t), .val (.int pos), .val (.int cc), .val (.int f)] [(.ref a)])) (fun t k => XS.aloadN N59.here hx rfl (hb hby d1_128) rfl rfl k) ?_
  refine gLen N59 hx hZ V62 (hb hby d1_129) ?_
  show Ends p e below _ T57 (mkF m 130 #[.val (.ref a), .val (.ref t), .val (.int pos), .val (.int cc), .val (.int f)] [(.int (7 : Int32))])
  refine Ends.go (f' := (mkF m 132 #[.val (.ref a), .val (.ref t), .val (.int pos), .val (.int cc), .val (.int f)] [(.int (7 : Int32)), (.int (7 : Int32))])) (fun t k => XS.bipush N59.here hx rfl (hb hby d1_130) k) ?_
  refine Ends.go (f' := (mkF m 149 #[.val (.ref a), .val (.ref t), .val (.int pos), .val (.int cc), .val (.int f)] [])) (fun t k => XS.icmpYes N59.here hx rfl (pc0 := 132) (pc' := 149) rfl (hb hby d1_132) rfl (XT.ii_le_t (by decide)) (by decide) (by decide) k) ?_
  refine Ends.go (f' := (mkF m 150 #[.val (.ref a), .val (.ref t), .val (.int pos), .val (.int cc), .val (.int f)] [(.ref a)])) (fun t k => XS.aloadN N59.here hx rfl (hb hby d1_149) rfl rfl k) ?_
  refine gLen N59 hx hZ V62 (hb hby d1_150) ?_
  show Ends p e below _ T57 (mkF m 151 #[.val (.ref a), .val (.ref t), .val (.int pos), .val (.int cc), .val (.int f)] [(.int (7 : Int32))])
  refine Ends.go (f' := (mkF m 153 #[.val (.ref a), .val (.ref t), .val (.int pos), .val (.int cc), .val (.int f)] [(.int (8 : Int32)), (.int (7 : Int32))])) (fun t k => XS.bipush N59.here hx rfl (hb hby d1_151) k) ?_
  refine Ends.go (f' := (mkF m 170 #[.val (.ref a), .val (.ref t), .val (.int pos), .val (.int cc), .val (.int f)] [])) (fun t k => XS.icmpYes N59.here hx rfl (pc0 := 153) (pc' := 170) rfl (hb hby d1_153) rfl (XT.ii_le_t (by decide)) (by decide) (by decide) k) ?_
  refine Ends.go (f' := (mkF m 171 #[.val (.ref a), .val (.ref t), .val (.int pos), .val (.int cc), .val (.int f)] [(.ref a)])) (fun t k => XS.aloadN N59.here hx rfl (hb hby d1_170) rfl rfl k) ?_
  refine gLen N59 hx hZ V62 (hb hby d1_171) ?_
  show Ends p e below _ T57 (mkF m 172 #[.val (.ref a), .val (.ref t), .val (.int pos), .val (.int cc), .val (.int f)] [(.int (7 : Int32))])
  refine Ends.go (f' := (mkF m 174 #[.val (.ref a), .val (.ref t), .val (.int pos), .val (.int cc), .val (.int f)] [(.int (9 : Int32)), (.int (7 : Int32))])) (fun t k => XS.bipush N59.here hx rfl (hb hby d1_172) k) ?_
  refine Ends.go (f' := (mkF m 191 #[.val (.ref a), .val (.ref t), .val (.int pos), .val (.int cc), .val (.int f)] [])) (fun t k => XS.icmpYes N59.here hx rfl (pc0 := 174) (pc' := 191) rfl (hb hby d1_174) rfl (XT.ii_le_t (by decide)) (by decide) (by decide) k) ?_
  exact retV N59 hx hlk hret (hb hby d1_191) ⟨rfl, ((((((((Keep.refl h0 [a]).wr W6 (Or.inl (List.mem_singleton.mpr rfl))).wr W15 (Or.inl (List.mem_singleton.mpr rfl))).wr W24 (Or.inl (List.mem_singleton.mpr rfl))).wr W33 (Or.inl (List.mem_singleton.mpr rfl))).wr W42 (Or.inl (List.mem_singleton.mpr rfl))).wr W51 (Or.inl (List.mem_singleton.mpr rfl))).wr W60 (Or.inl (List.mem_singleton.mpr rfl))), V62⟩ (nle rfl) (nle rfl)
set_option maxRecDepth 65536 in
set_option maxHeartbeats 40000000 in
theorem rmFill8 (l : Launch) (Z : State) (a0 : Array Value) (hw : ∀ d ∈ tables_1, d.before a0 Z = true) (a t : Addr) (kA : ClassId) (pos cc f : Int32) (ct : List Int32) (ht : Heap) (h0 : Heap) (Z0 : Ext Z.heap h0) (G : Jdk Z) (Et : Ext ht h0) (S : Str Z ht t ct) (ga : ht.size ≤ a) (gz : Z.heap.size ≤ a) (V : Arv Z h0 a kA .char (8 : Int32) [(.int (0 : Int32)), (.int (0 : Int32)), (.int (0 : Int32)), (.int (0 : Int32)), (.int (0 : Int32)), (.int (0 : Int32)), (.int (0 : Int32)), (.int (0 : Int32))] (.int (0 : Int32))) (hc : ¬ cc < 0 ∧ ¬ (255 : Int32) < cc) (hf : ¬ f < 0 ∧ ¬ (255 : Int32) < f) :
    MetN l Z (⟨"com/example/waypost/waypost/cli/ContentOptionsIsContentOptionPinLaw", "fill", "([CLjava/lang/String;ICC)V"⟩ : MethodName) method_4_code 5 none [] ({ frames := 5, cells := 0, slots := 0, locals := 71 } : Room) #[(.ref a), (.ref t), (.int pos), (.int cc), (.int f)] h0 (fun v h => v = none ∧ Keep h0 h [a] ∧ Arv Z h a kA .char (8 : Int32) [(.int (fAt ct 0 pos cc f)), (.int (fAt ct 1 pos cc f)), (.int (fAt ct 2 pos cc f)), (.int (fAt ct 3 pos cc f)), (.int (fAt ct 4 pos cc f)), (.int (fAt ct 5 pos cc f)), (.int (fAt ct 6 pos cc f)), (.int (fAt ct 7 pos cc f))] (.int (0 : Int32))) := by
  refine metN (by first | exact plainFor_of_name (by first | (simp [plainName, overriddenIn]; done) | decide +kernel) | decide +kernel) Z0 (Ls := #[.val (.ref a), .val (.ref t), .val (.int pos), .val (.int cc), .val (.int f)]) (fun m => by first | (simp [entryFrame, mkF, argsToLocals, Value.category]; done) | rfl) ?_
  intro p e s m below meth c T0 hx hby hml hret hlk hown hnm hZ N0
  refine Ends.go (f' := (mkF m 1 #[.val (.ref a), .val (.ref t), .val (.int pos), .val (.int cc), .val (.int f)] [(.ref a)])) (fun t k => XS.aloadN N0.here hx rfl (hb hby d1_0) rfl rfl k) ?_
  refine gLen N0 hx hZ V (hb hby d1_1) ?_
  show Ends p e below _ T0 (mkF m 2 #[.val (.ref a), .val (.ref t), .val (.int pos), .val (.int cc), .val (.int f)] [(.int (8 : Int32))])
  refine Ends.go (f' := (mkF m 5 #[.val (.ref a), .val (.ref t), .val (.int pos), .val (.int cc), .val (.int f)] [])) (fun t k => XS.ifNo N0.here hx rfl (hb hby d1_2) rfl (XT.i0_le_f (by decide)) k) ?_
  refine Ends.go (f' := (mkF m 6 #[.val (.ref a), .val (.ref t), .val (.int pos), .val (.int cc), .val (.int f)] [(.ref a)])) (fun t k => XS.aloadN N0.here hx rfl (hb hby d1_5) rfl rfl k) ?_
  refine Ends.go (f' := (mkF m 7 #[.val (.ref a), .val (.ref t), .val (.int pos), .val (.int cc), .val (.int f)] [(.int (0 : Int32)), (.ref a)])) (fun t k => XS.iconst N0.here hx rfl (hb hby d1_6) k) ?_
  refine Ends.go (f' := (mkF m 8 #[.val (.ref a), .val (.ref t), .val (.int pos), .val (.int cc), .val (.int f)] [(.ref t), (.int (0 : Int32)), (.ref a)])) (fun t k => XS.aloadN N0.here hx rfl (hb hby d1_7) rfl rfl k) ?_
  refine Ends.go (f' := (mkF m 9 #[.val (.ref a), .val (.ref t), .val (.int pos), .val (.int cc), .val (.int f)] [(.int (0 : Int32)), (.ref t), (.int (0 : Int32)), (.ref a)])) (fun t k => XS.iconst N0.here hx rfl (hb hby d1_8) k) ?_
  refine Ends.go (f' := (mkF m 10 #[.val (.ref a), .val (.ref t), .val (.int pos), .val (.int cc), .val (.int f)] [(.int pos), (.int (0 : Int32)), (.ref t), (.int (0 : Int32)), (.ref a)])) (fun t k => XS.iloadN N0.here hx rfl (hb hby d1_9) rfl k) ?_
  refine Ends.go (f' := (mkF m 11 #[.val (.ref a), .val (.ref t), .val (.int pos), .val (.int cc), .val (.int f)] [(.int cc), (.int pos), (.int (0 : Int32)), (.ref t), (.int (0 : Int32)), (.ref a)])) (fun t k => XS.iloadN N0.here hx rfl (hb hby d1_10) rfl k) ?_
  refine Ends.go (f' := (mkF m 13 #[.val (.ref a), .val (.ref t), .val (.int pos), .val (.int cc), .val (.int f)] [(.int f), (.int cc), (.int pos), (.int (0 : Int32)), (.ref t), (.int (0 : Int32)), (.ref a)])) (fun t k => XS.iload N0.here hx rfl (hb hby d1_11) rfl k) ?_
  refine gStatic (W := 2) (argsL := [(.ref t), (.int (0 : Int32)), (.int pos), (.int cc), (.int f)]) (rest := [(.int (0 : Int32)), (.ref a)]) N0 hx hZ hown (hw _ (List.mem_of_getElem? (i := 14) rfl)) (hw _ (List.mem_of_getElem? (i := 15) rfl)) (hw _ (List.mem_of_getElem? (i := 12) rfl)) (hw _ (List.mem_of_getElem? (i := 16) rfl)) (by decide) ((rmAt l Z a0 hw t 0 pos cc f ct h0 N0.ext G (S.ext Et) (nle rfl) hc hf).back (W := 2) hZ (hw _ (List.mem_of_getElem? (i := 16) rfl)) (hw _ (List.mem_of_getElem? (i := 12) rfl)) (nle rfl) (nle rfl)) (hb hby d1_13) rfl (by rw [hml]; rfl) (lenOf (by decide +kernel : parseMethodDescriptor "(Ljava/lang/String;IICC)C" = some ⟨[(.object "java/lang/String"), .int, .int, .char, .char], (some .char)⟩) rfl) (nle rfl) (nle rfl) (nle rfl) (fun _ _ _ q => q.2) ?_
  rintro _ T1 _ _ N2 ⟨⟨rfl, e_h⟩, -⟩; rw [e_h] at N2; clear e_h
  show Ends p e below _ T1 (mkF m 16 #[.val (.ref a), .val (.ref t), .val (.int pos), .val (.int cc), .val (.int f)] [(.int (fAt ct 0 pos cc f)), (.int (0 : Int32)), (.ref a)])
  refine gStC 0 N2 hx hZ V gz (by decide) rfl (nle rfl) (hb hby d1_16) ?_
  intro T3 h4 N5 W6 V7
  rw [nar_ok (at_ok (i := 0) (pos := pos) hc hf S.2.2.2.1)] at V7
  have V8 : Arv Z h4 a kA .char (8 : Int32) [(.int (fAt ct 0 pos cc f)), (.int (0 : Int32)), (.int (0 : Int32)), (.int (0 : Int32)), (.int (0 : Int32)), (.int (0 : Int32)), (.int (0 : Int32)), (.int (0 : Int32))] (.int (0 : Int32)) := V7
  have X9 : Ext ht h4 := ext_wr Et W6 ga
  show Ends p e below _ T3 (mkF m 17 #[.val (.ref a), .val (.ref t), .val (.int pos), .val (.int cc), .val (.int f)] [])
  refine Ends.go (f' := (mkF m 18 #[.val (.ref a), .val (.ref t), .val (.int pos), .val (.int cc), .val (.int f)] [(.ref a)])) (fun t k => XS.aloadN N5.here hx rfl (hb hby d1_17) rfl rfl k) ?_
  refine gLen N5 hx hZ V8 (hb hby d1_18) ?_
  show Ends p e below _ T3 (mkF m 19 #[.val (.ref a), .val (.ref t), .val (.int pos), .val (.int cc), .val (.int f)] [(.int (8 : Int32))])
  refine Ends.go (f' := (mkF m 20 #[.val (.ref a), .val (.ref t), .val (.int pos), .val (.int cc), .val (.int f)] [(.int (1 : Int32)), (.int (8 : Int32))])) (fun t k => XS.iconst N5.here hx rfl (hb hby d1_19) k) ?_
  refine Ends.go (f' := (mkF m 23 #[.val (.ref a), .val (.ref t), .val (.int pos), .val (.int cc), .val (.int f)] [])) (fun t k => XS.icmpNo N5.here hx rfl (hb hby d1_20) rfl (XT.ii_le_f (by decide)) k) ?_
  refine Ends.go (f' := (mkF m 24 #[.val (.ref a), .val (.ref t), .val (.int pos), .val (.int cc), .val (.int f)] [(.ref a)])) (fun t k => XS.aloadN N5.here hx rfl (hb hby d1_23) rfl rfl k) ?_
  refine Ends.go (f' := (mkF m 25 #[.val (.ref a), .val (.ref t), .val (.int pos), .val (.int cc), .val (.int f)] [(.int (1 : Int32)), (.ref a)])) (fun t k => XS.iconst N5.here hx rfl (hb hby d1_24) k) ?_
  refine Ends.go (f' := (mkF m 26 #[.val (.ref a), .val (.ref t), .val (.int pos), .val (.int cc), .val (.int f)] [(.ref t), (.int (1 : Int32)), (.ref a)])) (fun t k => XS.aloadN N5.here hx rfl (hb hby d1_25) rfl rfl k) ?_
  refine Ends.go (f' := (mkF m 27 #[.val (.ref a), .val (.ref t), .val (.int pos), .val (.int cc), .val (.int f)] [(.int (1 : Int32)), (.ref t), (.int (1 : Int32)), (.ref a)])) (fun t k => XS.iconst N5.here hx rfl (hb hby d1_26) k) ?_
  refine Ends.go (f' := (mkF m 28 #[.val (.ref a), .val (.ref t), .val (.int pos), .val (.int cc), .val (.int f)] [(.int pos), (.int (1 : Int32)), (.ref t), (.int (1 : Int32)), (.ref a)])) (fun t k => XS.iloadN N5.here hx rfl (hb hby d1_27) rfl k) ?_
  refine Ends.go (f' := (mkF m 29 #[.val (.ref a), .val (.ref t), .val (.int pos), .val (.int cc), .val (.int f)] [(.int cc), (.int pos), (.int (1 : Int32)), (.ref t), (.int (1 : Int32)), (.ref a)])) (fun t k => XS.iloadN N5.here hx rfl (hb hby d1_28) rfl k) ?_
  refine Ends.go (f' := (mkF m 31 #[.val (.ref a), .val (.ref t), .val (.int pos), .val (.int cc), .val (.int f)] [(.int f), (.int cc), (.int pos), (.int (1 : Int32)), (.ref t), (.int (1 : Int32)), (.ref a)])) (fun t k => XS.iload N5.here hx rfl (hb hby d1_29) rfl k) ?_
  refine gStatic (W := 2) (argsL := [(.ref t), (.int (1 : Int32)), (.int pos), (.int cc), (.int f)]) (rest := [(.int (1 : Int32)), (.ref a)]) N5 hx hZ hown (hw _ (List.mem_of_getElem? (i := 14) rfl)) (hw _ (List.mem_of_getElem? (i := 15) rfl)) (hw _ (List.mem_of_getElem? (i := 12) rfl)) (hw _ (List.mem_of_getElem? (i := 16) rfl)) (by decide) ((rmAt l Z a0 hw t 1 pos cc f ct h4 N5.ext G (S.ext X9) (nle rfl) hc hf).back (W := 2) hZ (hw _ (List.mem_of_getElem? (i := 16) rfl)) (hw _ (List.mem_of_getElem? (i := 12) rfl)) (nle rfl) (nle rfl)) (hb hby d1_31) rfl (by rw [hml]; rfl) (lenOf (by decide +kernel : parseMethodDescriptor "(Ljava/lang/String;IICC)C" = some ⟨[(.object "java/lang/String"), .int, .int, .char, .char], (some .char)⟩) rfl) (nle rfl) (nle rfl) (nle rfl) (fun _ _ _ q => q.2) ?_
  rintro _ T10 _ _ N11 ⟨⟨rfl, e_h⟩, -⟩; rw [e_h] at N11; clear e_h
  show Ends p e below _ T10 (mkF m 34 #[.val (.ref a), .val (.ref t), .val (.int pos), .val (.int cc), .val (.int f)] [(.int (fAt ct 1 pos cc f)), (.int (1 : Int32)), (.ref a)])
  refine gStC 1 N11 hx hZ V8 gz (by decide) rfl (nle rfl) (hb hby d1_34) ?_
  intro T12 h13 N14 W15 V16
  rw [nar_ok (at_ok (i := 1) (pos := pos) hc hf S.2.2.2.1)] at V16
  have V17 : Arv Z h13 a kA .char (8 : Int32) [(.int (fAt ct 0 pos cc f)), (.int (fAt ct 1 pos cc f)), (.int (0 : Int32)), (.int (0 : Int32)), (.int (0 : Int32)), (.int (0 : Int32)), (.int (0 : Int32)), (.int (0 : Int32))] (.int (0 : Int32)) := V16
  have X18 : Ext ht h13 := ext_wr X9 W15 ga
  show Ends p e below _ T12 (mkF m 35 #[.val (.ref a), .val (.ref t), .val (.int pos), .val (.int cc), .val (.int f)] [])
  refine Ends.go (f' := (mkF m 36 #[.val (.ref a), .val (.ref t), .val (.int pos), .val (.int cc), .val (.int f)] [(.ref a)])) (fun t k => XS.aloadN N14.here hx rfl (hb hby d1_35) rfl rfl k) ?_
  refine gLen N14 hx hZ V17 (hb hby d1_36) ?_
  show Ends p e below _ T12 (mkF m 37 #[.val (.ref a), .val (.ref t), .val (.int pos), .val (.int cc), .val (.int f)] [(.int (8 : Int32))])
  refine Ends.go (f' := (mkF m 38 #[.val (.ref a), .val (.ref t), .val (.int pos), .val (.int cc), .val (.int f)] [(.int (2 : Int32)), (.int (8 : Int32))])) (fun t k => XS.iconst N14.here hx rfl (hb hby d1_37) k) ?_
  refine Ends.go (f' := (mkF m 41 #[.val (.ref a), .val (.ref t), .val (.int pos), .val (.int cc), .val (.int f)] [])) (fun t k => XS.icmpNo N14.here hx rfl (hb hby d1_38) rfl (XT.ii_le_f (by decide)) k) ?_
  refine Ends.go (f' := (mkF m 42 #[.val (.ref a), .val (.ref t), .val (.int pos), .val (.int cc), .val (.int f)] [(.ref a)])) (fun t k => XS.aloadN N14.here hx rfl (hb hby d1_41) rfl rfl k) ?_
  refine Ends.go (f' := (mkF m 43 #[.val (.ref a), .val (.ref t), .val (.int pos), .val (.int cc), .val (.int f)] [(.int (2 : Int32)), (.ref a)])) (fun t k => XS.iconst N14.here hx rfl (hb hby d1_42) k) ?_
  refine Ends.go (f' := (mkF m 44 #[.val (.ref a), .val (.ref t), .val (.int pos), .val (.int cc), .val (.int f)] [(.ref t), (.int (2 : Int32)), (.ref a)])) (fun t k => XS.aloadN N14.here hx rfl (hb hby d1_43) rfl rfl k) ?_
  refine Ends.go (f' := (mkF m 45 #[.val (.ref a), .val (.ref t), .val (.int pos), .val (.int cc), .val (.int f)] [(.int (2 : Int32)), (.ref t), (.int (2 : Int32)), (.ref a)])) (fun t k => XS.iconst N14.here hx rfl (hb hby d1_44) k) ?_
  refine Ends.go (f' := (mkF m 46 #[.val (.ref a), .val (.ref t), .val (.int pos), .val (.int cc), .val (.int f)] [(.int pos), (.int (2 : Int32)), (.ref t), (.int (2 : Int32)), (.ref a)])) (fun t k => XS.iloadN N14.here hx rfl (hb hby d1_45) rfl k) ?_
  refine Ends.go (f' := (mkF m 47 #[.val (.ref a), .val (.ref t), .val (.int pos), .val (.int cc), .val (.int f)] [(.int cc), (.int pos), (.int (2 : Int32)), (.ref t), (.int (2 : Int32)), (.ref a)])) (fun t k => XS.iloadN N14.here hx rfl (hb hby d1_46) rfl k) ?_
  refine Ends.go (f' := (mkF m 49 #[.val (.ref a), .val (.ref t), .val (.int pos), .val (.int cc), .val (.int f)] [(.int f), (.int cc), (.int pos), (.int (2 : Int32)), (.ref t), (.int (2 : Int32)), (.ref a)])) (fun t k => XS.iload N14.here hx rfl (hb hby d1_47) rfl k) ?_
  refine gStatic (W := 2) (argsL := [(.ref t), (.int (2 : Int32)), (.int pos), (.int cc), (.int f)]) (rest := [(.int (2 : Int32)), (.ref a)]) N14 hx hZ hown (hw _ (List.mem_of_getElem? (i := 14) rfl)) (hw _ (List.mem_of_getElem? (i := 15) rfl)) (hw _ (List.mem_of_getElem? (i := 12) rfl)) (hw _ (List.mem_of_getElem? (i := 16) rfl)) (by decide) ((rmAt l Z a0 hw t 2 pos cc f ct h13 N14.ext G (S.ext X18) (nle rfl) hc hf).back (W := 2) hZ (hw _ (List.mem_of_getElem? (i := 16) rfl)) (hw _ (List.mem_of_getElem? (i := 12) rfl)) (nle rfl) (nle rfl)) (hb hby d1_49) rfl (by rw [hml]; rfl) (lenOf (by decide +kernel : parseMethodDescriptor "(Ljava/lang/String;IICC)C" = some ⟨[(.object "java/lang/String"), .int, .int, .char, .char], (some .char)⟩) rfl) (nle rfl) (nle rfl) (nle rfl) (fun _ _ _ q => q.2) ?_
  rintro _ T19 _ _ N20 ⟨⟨rfl, e_h⟩, -⟩; rw [e_h] at N20; clear e_h
  show Ends p e below _ T19 (mkF m 52 #[.val (.ref a), .val (.ref t), .val (.int pos), .val (.int cc), .val (.int f)] [(.int (fAt ct 2 pos cc f)), (.int (2 : Int32)), (.ref a)])
  refine gStC 2 N20 hx hZ V17 gz (by decide) rfl (nle rfl) (hb hby d1_52) ?_
  intro T21 h22 N23 W24 V25
  rw [nar_ok (at_ok (i := 2) (pos := pos) hc hf S.2.2.2.1)] at V25
  have V26 : Arv Z h22 a kA .char (8 : Int32) [(.int (fAt ct 0 pos cc f)), (.int (fAt ct 1 pos cc f)), (.int (fAt ct 2 pos cc f)), (.int (0 : Int32)), (.int (0 : Int32)), (.int (0 : Int32)), (.int (0 : Int32)), (.int (0 : Int32))] (.int (0 : Int32)) := V25
  have X27 : Ext ht h22 := ext_wr X18 W24 ga
  show Ends p e below _ T21 (mkF m 53 #[.val (.ref a), .val (.ref t), .val (.int pos), .val (.int cc), .val (.int f)] [])
  refine Ends.go (f' := (mkF m 54 #[.val (.ref a), .val (.ref t), .val (.int pos), .val (.int cc), .val (.int f)] [(.ref a)])) (fun t k => XS.aloadN N23.here hx rfl (hb hby d1_53) rfl rfl k) ?_
  refine gLen N23 hx hZ V26 (hb hby d1_54) ?_
  show Ends p e below _ T21 (mkF m 55 #[.val (.ref a), .val (.ref t), .val (.int pos), .val (.int cc), .val (.int f)] [(.int (8 : Int32))])
  refine Ends.go (f' := (mkF m 56 #[.val (.ref a), .val (.ref t), .val (.int pos), .val (.int cc), .val (.int f)] [(.int (3 : Int32)), (.int (8 : Int32))])) (fun t k => XS.iconst N23.here hx rfl (hb hby d1_55) k) ?_
  refine Ends.go (f' := (mkF m 59 #[.val (.ref a), .val (.ref t), .val (.int pos), .val (.int cc), .val (.int f)] [])) (fun t k => XS.icmpNo N23.here hx rfl (hb hby d1_56) rfl (XT.ii_le_f (by decide)) k) ?_
  refine Ends.go (f' := (mkF m 60 #[.val (.ref a), .val (.ref t), .val (.int pos), .val (.int cc), .val (.int f)] [(.ref a)])) (fun t k => XS.aloadN N23.here hx rfl (hb hby d1_59) rfl rfl k) ?_
  refine Ends.go (f' := (mkF m 61 #[.val (.ref a), .val (.ref t), .val (.int pos), .val (.int cc), .val (.int f)] [(.int (3 : Int32)), (.ref a)])) (fun t k => XS.iconst N23.here hx rfl (hb hby d1_60) k) ?_
  refine Ends.go (f' := (mkF m 62 #[.val (.ref a), .val (.ref t), .val (.int pos), .val (.int cc), .val (.int f)] [(.ref t), (.int (3 : Int32)), (.ref a)])) (fun t k => XS.aloadN N23.here hx rfl (hb hby d1_61) rfl rfl k) ?_
  refine Ends.go (f' := (mkF m 63 #[.val (.ref a), .val (.ref t), .val (.int pos), .val (.int cc), .val (.int f)] [(.int (3 : Int32)), (.ref t), (.int (3 : Int32)), (.ref a)])) (fun t k => XS.iconst N23.here hx rfl (hb hby d1_62) k) ?_
  refine Ends.go (f' := (mkF m 64 #[.val (.ref a), .val (.ref t), .val (.int pos), .val (.int cc), .val (.int f)] [(.int pos), (.int (3 : Int32)), (.ref t), (.int (3 : Int32)), (.ref a)])) (fun t k => XS.iloadN N23.here hx rfl (hb hby d1_63) rfl k) ?_
  refine Ends.go (f' := (mkF m 65 #[.val (.ref a), .val (.ref t), .val (.int pos), .val (.int cc), .val (.int f)] [(.int cc), (.int pos), (.int (3 : Int32)), (.ref t), (.int (3 : Int32)), (.ref a)])) (fun t k => XS.iloadN N23.here hx rfl (hb hby d1_64) rfl k) ?_
  refine Ends.go (f' := (mkF m 67 #[.val (.ref a), .val (.ref t), .val (.int pos), .val (.int cc), .val (.int f)] [(.int f), (.int cc), (.int pos), (.int (3 : Int32)), (.ref t), (.int (3 : Int32)), (.ref a)])) (fun t k => XS.iload N23.here hx rfl (hb hby d1_65) rfl k) ?_
  refine gStatic (W := 2) (argsL := [(.ref t), (.int (3 : Int32)), (.int pos), (.int cc), (.int f)]) (rest := [(.int (3 : Int32)), (.ref a)]) N23 hx hZ hown (hw _ (List.mem_of_getElem? (i := 14) rfl)) (hw _ (List.mem_of_getElem? (i := 15) rfl)) (hw _ (List.mem_of_getElem? (i := 12) rfl)) (hw _ (List.mem_of_getElem? (i := 16) rfl)) (by decide) ((rmAt l Z a0 hw t 3 pos cc f ct h22 N23.ext G (S.ext X27) (nle rfl) hc hf).back (W := 2) hZ (hw _ (List.mem_of_getElem? (i := 16) rfl)) (hw _ (List.mem_of_getElem? (i := 12) rfl)) (nle rfl) (nle rfl)) (hb hby d1_67) rfl (by rw [hml]; rfl) (lenOf (by decide +kernel : parseMethodDescriptor "(Ljava/lang/String;IICC)C" = some ⟨[(.object "java/lang/String"), .int, .int, .char, .char], (some .char)⟩) rfl) (nle rfl) (nle rfl) (nle rfl) (fun _ _ _ q => q.2) ?_
  rintro _ T28 _ _ N29 ⟨⟨rfl, e_h⟩, -⟩; rw [e_h] at N29; clear e_h
  show Ends p e below _ T28 (mkF m 70 #[.val (.ref a), .val (.ref t), .val (.int pos), .val (.int cc), .val (.int f)] [(.int (fAt ct 3 pos cc f)), (.int (3 : Int32)), (.ref a)])
  refine gStC 3 N29 hx hZ V26 gz (by decide) rfl (nle rfl) (hb hby d1_70) ?_
  intro T30 h31 N32 W33 V34
  rw [nar_ok (at_ok (i := 3) (pos := pos) hc hf S.2.2.2.1)] at V34
  have V35 : Arv Z h31 a kA .char (8 : Int32) [(.int (fAt ct 0 pos cc f)), (.int (fAt ct 1 pos cc f)), (.int (fAt ct 2 pos cc f)), (.int (fAt ct 3 pos cc f)), (.int (0 : Int32)), (.int (0 : Int32)), (.int (0 : Int32)), (.int (0 : Int32))] (.int (0 : Int32)) := V34
  have X36 : Ext ht h31 := ext_wr X27 W33 ga
  show Ends p e below _ T30 (mkF m 71 #[.val (.ref a), .val (.ref t), .val (.int pos), .val (.int cc), .val (.int f)] [])
  refine Ends.go (f' := (mkF m 72 #[.val (.ref a), .val (.ref t), .val (.int pos), .val (.int cc), .val (.int f)] [(.ref a)])) (fun t k => XS.aloadN N32.here hx rfl (hb hby d1_71) rfl rfl k) ?_
  refine gLen N32 hx hZ V35 (hb hby d1_72) ?_
  show Ends p e below _ T30 (mkF m 73 #[.val (.ref a), .val (.ref t), .val (.int pos), .val (.int cc), .val (.int f)] [(.int (8 : Int32))])
  refine Ends.go (f' := (mkF m 74 #[.val (.ref a), .val (.ref t), .val (.int pos), .val (.int cc), .val (.int f)] [(.int (4 : Int32)), (.int (8 : Int32))])) (fun t k => XS.iconst N32.here hx rfl (hb hby d1_73) k) ?_
  refine Ends.go (f' := (mkF m 77 #[.val (.ref a), .val (.ref t), .val (.int pos), .val (.int cc), .val (.int f)] [])) (fun t k => XS.icmpNo N32.here hx rfl (hb hby d1_74) rfl (XT.ii_le_f (by decide)) k) ?_
  refine Ends.go (f' := (mkF m 78 #[.val (.ref a), .val (.ref t), .val (.int pos), .val (.int cc), .val (.int f)] [(.ref a)])) (fun t k => XS.aloadN N32.here hx rfl (hb hby d1_77) rfl rfl k) ?_
  refine Ends.go (f' := (mkF m 79 #[.val (.ref a), .val (.ref t), .val (.int pos), .val (.int cc), .val (.int f)] [(.int (4 : Int32)), (.ref a)])) (fun t k => XS.iconst N32.here hx rfl (hb hby d1_78) k) ?_
  refine Ends.go (f' := (mkF m 80 #[.val (.ref a), .val (.ref t), .val (.int pos), .val (.int cc), .val (.int f)] [(.ref t), (.int (4 : Int32)), (.ref a)])) (fun t k => XS.aloadN N32.here hx rfl (hb hby d1_79) rfl rfl k) ?_
  refine Ends.go (f' := (mkF m 81 #[.val (.ref a), .val (.ref t), .val (.int pos), .val (.int cc), .val (.int f)] [(.int (4 : Int32)), (.ref t), (.int (4 : Int32)), (.ref a)])) (fun t k => XS.iconst N32.here hx rfl (hb hby d1_80) k) ?_
  refine Ends.go (f' := (mkF m 82 #[.val (.ref a), .val (.ref t), .val (.int pos), .val (.int cc), .val (.int f)] [(.int pos), (.int (4 : Int32)), (.ref t), (.int (4 : Int32)), (.ref a)])) (fun t k => XS.iloadN N32.here hx rfl (hb hby d1_81) rfl k) ?_
  refine Ends.go (f' := (mkF m 83 #[.val (.ref a), .val (.ref t), .val (.int pos), .val (.int cc), .val (.int f)] [(.int cc), (.int pos), (.int (4 : Int32)), (.ref t), (.int (4 : Int32)), (.ref a)])) (fun t k => XS.iloadN N32.here hx rfl (hb hby d1_82) rfl k) ?_
  refine Ends.go (f' := (mkF m 85 #[.val (.ref a), .val (.ref t), .val (.int pos), .val (.int cc), .val (.int f)] [(.int f), (.int cc), (.int pos), (.int (4 : Int32)), (.ref t), (.int (4 : Int32)), (.ref a)])) (fun t k => XS.iload N32.here hx rfl (hb hby d1_83) rfl k) ?_
  refine gStatic (W := 2) (argsL := [(.ref t), (.int (4 : Int32)), (.int pos), (.int cc), (.int f)]) (rest := [(.int (4 : Int32)), (.ref a)]) N32 hx hZ hown (hw _ (List.mem_of_getElem? (i := 14) rfl)) (hw _ (List.mem_of_getElem? (i := 15) rfl)) (hw _ (List.mem_of_getElem? (i := 12) rfl)) (hw _ (List.mem_of_getElem? (i := 16) rfl)) (by decide) ((rmAt l Z a0 hw t 4 pos cc f ct h31 N32.ext G (S.ext X36) (nle rfl) hc hf).back (W := 2) hZ (hw _ (List.mem_of_getElem? (i := 16) rfl)) (hw _ (List.mem_of_getElem? (i := 12) rfl)) (nle rfl) (nle rfl)) (hb hby d1_85) rfl (by rw [hml]; rfl) (lenOf (by decide +kernel : parseMethodDescriptor "(Ljava/lang/String;IICC)C" = some ⟨[(.object "java/lang/String"), .int, .int, .char, .char], (some .char)⟩) rfl) (nle rfl) (nle rfl) (nle rfl) (fun _ _ _ q => q.2) ?_
  rintro _ T37 _ _ N38 ⟨⟨rfl, e_h⟩, -⟩; rw [e_h] at N38; clear e_h
  show Ends p e below _ T37 (mkF m 88 #[.val (.ref a), .val (.ref t), .val (.int pos), .val (.int cc), .val (.int f)] [(.int (fAt ct 4 pos cc f)), (.int (4 : Int32)), (.ref a)])
  refine gStC 4 N38 hx hZ V35 gz (by decide) rfl (nle rfl) (hb hby d1_88) ?_
  intro T39 h40 N41 W42 V43
  rw [nar_ok (at_ok (i := 4) (pos := pos) hc hf S.2.2.2.1)] at V43
  have V44 : Arv Z h40 a kA .char (8 : Int32) [(.int (fAt ct 0 pos cc f)), (.int (fAt ct 1 pos cc f)), (.int (fAt ct 2 pos cc f)), (.int (fAt ct 3 pos cc f)), (.int (fAt ct 4 pos cc f)), (.int (0 : Int32)), (.int (0 : Int32)), (.int (0 : Int32))] (.int (0 : Int32)) := V43
  have X45 : Ext ht h40 := ext_wr X36 W42 ga
  show Ends p e below _ T39 (mkF m 89 #[.val (.ref a), .val (.ref t), .val (.int pos), .val (.int cc), .val (.int f)] [])
  refine Ends.go (f' := (mkF m 90 #[.val (.ref a), .val (.ref t), .val (.int pos), .val (.int cc), .val (.int f)] [(.ref a)])) (fun t k => XS.aloadN N41.here hx rfl (hb hby d1_89) rfl rfl k) ?_
  refine gLen N41 hx hZ V44 (hb hby d1_90) ?_
  show Ends p e below _ T39 (mkF m 91 #[.val (.ref a), .val (.ref t), .val (.int pos), .val (.int cc), .val (.int f)] [(.int (8 : Int32))])
  refine Ends.go (f' := (mkF m 92 #[.val (.ref a), .val (.ref t), .val (.int pos), .val (.int cc), .val (.int f)] [(.int (5 : Int32)), (.int (8 : Int32))])) (fun t k => XS.iconst N41.here hx rfl (hb hby d1_91) k) ?_
  refine Ends.go (f' := (mkF m 95 #[.val (.ref a), .val (.ref t), .val (.int pos), .val (.int cc), .val (.int f)] [])) (fun t k => XS.icmpNo N41.here hx rfl (hb hby d1_92) rfl (XT.ii_le_f (by decide)) k) ?_
  refine Ends.go (f' := (mkF m 96 #[.val (.ref a), .val (.ref t), .val (.int pos), .val (.int cc), .val (.int f)] [(.ref a)])) (fun t k => XS.aloadN N41.here hx rfl (hb hby d1_95) rfl rfl k) ?_
  refine Ends.go (f' := (mkF m 97 #[.val (.ref a), .val (.ref t), .val (.int pos), .val (.int cc), .val (.int f)] [(.int (5 : Int32)), (.ref a)])) (fun t k => XS.iconst N41.here hx rfl (hb hby d1_96) k) ?_
  refine Ends.go (f' := (mkF m 98 #[.val (.ref a), .val (.ref t), .val (.int pos), .val (.int cc), .val (.int f)] [(.ref t), (.int (5 : Int32)), (.ref a)])) (fun t k => XS.aloadN N41.here hx rfl (hb hby d1_97) rfl rfl k) ?_
  refine Ends.go (f' := (mkF m 99 #[.val (.ref a), .val (.ref t), .val (.int pos), .val (.int cc), .val (.int f)] [(.int (5 : Int32)), (.ref t), (.int (5 : Int32)), (.ref a)])) (fun t k => XS.iconst N41.here hx rfl (hb hby d1_98) k) ?_
  refine Ends.go (f' := (mkF m 100 #[.val (.ref a), .val (.ref t), .val (.int pos), .val (.int cc), .val (.int f)] [(.int pos), (.int (5 : Int32)), (.ref t), (.int (5 : Int32)), (.ref a)])) (fun t k => XS.iloadN N41.here hx rfl (hb hby d1_99) rfl k) ?_
  refine Ends.go (f' := (mkF m 101 #[.val (.ref a), .val (.ref t), .val (.int pos), .val (.int cc), .val (.int f)] [(.int cc), (.int pos), (.int (5 : Int32)), (.ref t), (.int (5 : Int32)), (.ref a)])) (fun t k => XS.iloadN N41.here hx rfl (hb hby d1_100) rfl k) ?_
  refine Ends.go (f' := (mkF m 103 #[.val (.ref a), .val (.ref t), .val (.int pos), .val (.int cc), .val (.int f)] [(.int f), (.int cc), (.int pos), (.int (5 : Int32)), (.ref t), (.int (5 : Int32)), (.ref a)])) (fun t k => XS.iload N41.here hx rfl (hb hby d1_101) rfl k) ?_
  refine gStatic (W := 2) (argsL := [(.ref t), (.int (5 : Int32)), (.int pos), (.int cc), (.int f)]) (rest := [(.int (5 : Int32)), (.ref a)]) N41 hx hZ hown (hw _ (List.mem_of_getElem? (i := 14) rfl)) (hw _ (List.mem_of_getElem? (i := 15) rfl)) (hw _ (List.mem_of_getElem? (i := 12) rfl)) (hw _ (List.mem_of_getElem? (i := 16) rfl)) (by decide) ((rmAt l Z a0 hw t 5 pos cc f ct h40 N41.ext G (S.ext X45) (nle rfl) hc hf).back (W := 2) hZ (hw _ (List.mem_of_getElem? (i := 16) rfl)) (hw _ (List.mem_of_getElem? (i := 12) rfl)) (nle rfl) (nle rfl)) (hb hby d1_103) rfl (by rw [hml]; rfl) (lenOf (by decide +kernel : parseMethodDescriptor "(Ljava/lang/String;IICC)C" = some ⟨[(.object "java/lang/String"), .int, .int, .char, .char], (some .char)⟩) rfl) (nle rfl) (nle rfl) (nle rfl) (fun _ _ _ q => q.2) ?_
  rintro _ T46 _ _ N47 ⟨⟨rfl, e_h⟩, -⟩; rw [e_h] at N47; clear e_h
  show Ends p e below _ T46 (mkF m 106 #[.val (.ref a), .val (.ref t), .val (.int pos), .val (.int cc), .val (.int f)] [(.int (fAt ct 5 pos cc f)), (.int (5 : Int32)), (.ref a)])
  refine gStC 5 N47 hx hZ V44 gz (by decide) rfl (nle rfl) (hb hby d1_106) ?_
  intro T48 h49 N50 W51 V52
  rw [nar_ok (at_ok (i := 5) (pos := pos) hc hf S.2.2.2.1)] at V52
  have V53 : Arv Z h49 a kA .char (8 : Int32) [(.int (fAt ct 0 pos cc f)), (.int (fAt ct 1 pos cc f)), (.int (fAt ct 2 pos cc f)), (.int (fAt ct 3 pos cc f)), (.int (fAt ct 4 pos cc f)), (.int (fAt ct 5 pos cc f)), (.int (0 : Int32)), (.int (0 : Int32))] (.int (0 : Int32)) := V52
  have X54 : Ext ht h49 := ext_wr X45 W51 ga
  show Ends p e below _ T48 (mkF m 107 #[.val (.ref a), .val (.ref t), .val (.int pos), .val (.int cc), .val (.int f)] [])
  refine Ends.go (f' := (mkF m 108 #[.val (.ref a), .val (.ref t), .val (.int pos), .val (.int cc), .val (.int f)] [(.ref a)])) (fun t k => XS.aloadN N50.here hx rfl (hb hby d1_107) rfl rfl k) ?_
  refine gLen N50 hx hZ V53 (hb hby d1_108) ?_
  show Ends p e below _ T48 (mkF m 109 #[.val (.ref a), .val (.ref t), .val (.int pos), .val (.int cc), .val (.int f)] [(.int (8 : Int32))])
  refine Ends.go (f' := (mkF m 111 #[.val (.ref a), .val (.ref t), .val (.int pos), .val (.int cc), .val (.int f)] [(.int (6 : Int32)), (.int (8 : Int32))])) (fun t k => XS.bipush N50.here hx rfl (hb hby d1_109) k) ?_
  refine Ends.go (f' := (mkF m 114 #[.val (.ref a), .val (.ref t), .val (.int pos), .val (.int cc), .val (.int f)] [])) (fun t k => XS.icmpNo N50.here hx rfl (hb hby d1_111) rfl (XT.ii_le_f (by decide)) k) ?_
  refine Ends.go (f' := (mkF m 115 #[.val (.ref a), .val (.ref t), .val (.int pos), .val (.int cc), .val (.int f)] [(.ref a)])) (fun t k => XS.aloadN N50.here hx rfl (hb hby d1_114) rfl rfl k) ?_
  refine Ends.go (f' := (mkF m 117 #[.val (.ref a), .val (.ref t), .val (.int pos), .val (.int cc), .val (.int f)] [(.int (6 : Int32)), (.ref a)])) (fun t k => XS.bipush N50.here hx rfl (hb hby d1_115) k) ?_
  refine Ends.go (f' := (mkF m 118 #[.val (.ref a), .val (.ref t), .val (.int pos), .val (.int cc), .val (.int f)] [(.ref t), (.int (6 : Int32)), (.ref a)])) (fun t k => XS.aloadN N50.here hx rfl (hb hby d1_117) rfl rfl k) ?_
  refine Ends.go (f' := (mkF m 120 #[.val (.ref a), .val (.ref t), .val (.int pos), .val (.int cc), .val (.int f)] [(.int (6 : Int32)), (.ref t), (.int (6 : Int32)), (.ref a)])) (fun t k => XS.bipush N50.here hx rfl (hb hby d1_118) k) ?_
  refine Ends.go (f' := (mkF m 121 #[.val (.ref a), .val (.ref t), .val (.int pos), .val (.int cc), .val (.int f)] [(.int pos), (.int (6 : Int32)), (.ref t), (.int (6 : Int32)), (.ref a)])) (fun t k => XS.iloadN N50.here hx rfl (hb hby d1_120) rfl k) ?_
  refine Ends.go (f' := (mkF m 122 #[.val (.ref a), .val (.ref t), .val (.int pos), .val (.int cc), .val (.int f)] [(.int cc), (.int pos), (.int (6 : Int32)), (.ref t), (.int (6 : Int32)), (.ref a)])) (fun t k => XS.iloadN N50.here hx rfl (hb hby d1_121) rfl k) ?_
  refine Ends.go (f' := (mkF m 124 #[.val (.ref a), .val (.ref t), .val (.int pos), .val (.int cc), .val (.int f)] [(.int f), (.int cc), (.int pos), (.int (6 : Int32)), (.ref t), (.int (6 : Int32)), (.ref a)])) (fun t k => XS.iload N50.here hx rfl (hb hby d1_122) rfl k) ?_
  refine gStatic (W := 2) (argsL := [(.ref t), (.int (6 : Int32)), (.int pos), (.int cc), (.int f)]) (rest := [(.int (6 : Int32)), (.ref a)]) N50 hx hZ hown (hw _ (List.mem_of_getElem? (i := 14) rfl)) (hw _ (List.mem_of_getElem? (i := 15) rfl)) (hw _ (List.mem_of_getElem? (i := 12) rfl)) (hw _ (List.mem_of_getElem? (i := 16) rfl)) (by decide) ((rmAt l Z a0 hw t 6 pos cc f ct h49 N50.ext G (S.ext X54) (nle rfl) hc hf).back (W := 2) hZ (hw _ (List.mem_of_getElem? (i := 16) rfl)) (hw _ (List.mem_of_getElem? (i := 12) rfl)) (nle rfl) (nle rfl)) (hb hby d1_124) rfl (by rw [hml]; rfl) (lenOf (by decide +kernel : parseMethodDescriptor "(Ljava/lang/String;IICC)C" = some ⟨[(.object "java/lang/String"), .int, .int, .char, .char], (some .char)⟩) rfl) (nle rfl) (nle rfl) (nle rfl) (fun _ _ _ q => q.2) ?_
  rintro _ T55 _ _ N56 ⟨⟨rfl, e_h⟩, -⟩; rw [e_h] at N56; clear e_h
  show Ends p e below _ T55 (mkF m 127 #[.val (.ref a), .val (.ref t), .val (.int pos), .val (.int cc), .val (.int f)] [(.int (fAt ct 6 pos cc f)), (.int (6 : Int32)), (.ref a)])
  refine gStC 6 N56 hx hZ V53 gz (by decide) rfl (nle rfl) (hb hby d1_127) ?_
  intro T57 h58 N59 W60 V61
  rw [nar_ok (at_ok (i := 6) (pos := pos) hc hf S.2.2.2.1)] at V61
  have V62 : Arv Z h58 a kA .char (8 : Int32) [(.int (fAt ct 0 pos cc f)), (.int (fAt ct 1 pos cc f)), (.int (fAt ct 2 pos cc f)), (.int (fAt ct 3 pos cc f)), (.int (fAt ct 4 pos cc f)), (.int (fAt ct 5 pos cc f)), (.int (fAt ct 6 pos cc f)), (.int (0 : Int32))] (.int (0 : Int32)) := V61
  have X63 : Ext ht h58 := ext_wr X54 W60 ga
  show Ends p e below _ T57 (mkF m 128 #[.val (.ref a), .val (.ref t), .val (.int pos), .val (.int cc), .val (.int f)] [])
  refine Ends.go (f' := (mkF m 129 #[.val (.ref a), .val (.ref t), .val (.int pos), .val (.int cc), .val (.int f)] [(.ref a)])) (fun t k => XS.aloadN N59.here hx rfl (hb hby d1_128) rfl rfl k) ?_
  refine gLen N59 hx hZ V62 (hb hby d1_129) ?_
  show Ends p e below _ T57 (mkF m 130 #[.val (.ref a), .val (.ref t), .val (.int pos), .val (.int cc), .val (.int f)] [(.int (8 : Int32))])
  refine Ends.go (f' := (mkF m 132 #[.val (.ref a), .val (.ref t), .val (.int pos), .val (.int cc), .val (.int f)] [(.int (7 : Int32)), (.int (8 : Int32))])) (fun t k => XS.bipush N59.here hx rfl (hb hby d1_130) k) ?_
  refine Ends.go (f' := (mkF m 135 #[.val (.ref a), .val (.ref t), .val (.int pos), .val (.int cc), .val (.int f)] [])) (fun t k => XS.icmpNo N59.here hx rfl (hb hby d1_132) rfl (XT.ii_le_f (by decide)) k) ?_
  refine Ends.go (f' := (mkF m 136 #[.val (.ref a), .val (.ref t), .val (.int pos), .val (.int cc), .val (.int f)] [(.ref a)])) (fun t k => XS.aloadN N59.here hx rfl (hb hby d1_135) rfl rfl k) ?_
  refine Ends.go (f' := (mkF m 138 #[.val (.ref a), .val (.ref t), .val (.int pos), .val (.int cc), .val (.int f)] [(.int (7 : Int32)), (.ref a)])) (fun t k => XS.bipush N59.here hx rfl (hb hby d1_136) k) ?_
  refine Ends.go (f' := (mkF m 139 #[.val (.ref a), .val (.ref t), .val (.int pos), .val (.int cc), .val (.int f)] [(.ref t), (.int (7 : Int32)), (.ref a)])) (fun t k => XS.aloadN N59.here hx rfl (hb hby d1_138) rfl rfl k) ?_
  refine Ends.go (f' := (mkF m 141 #[.val (.ref a), .val (.ref t), .val (.int pos), .val (.int cc), .val (.int f)] [(.int (7 : Int32)), (.ref t), (.int (7 : Int32)), (.ref a)])) (fun t k => XS.bipush N59.here hx rfl (hb hby d1_139) k) ?_
  refine Ends.go (f' := (mkF m 142 #[.val (.ref a), .val (.ref t), .val (.int pos), .val (.int cc), .val (.int f)] [(.int pos), (.int (7 : Int32)), (.ref t), (.int (7 : Int32)), (.ref a)])) (fun t k => XS.iloadN N59.here hx rfl (hb hby d1_141) rfl k) ?_
  refine Ends.go (f' := (mkF m 143 #[.val (.ref a), .val (.ref t), .val (.int pos), .val (.int cc), .val (.int f)] [(.int cc), (.int pos), (.int (7 : Int32)), (.ref t), (.int (7 : Int32)), (.ref a)])) (fun t k => XS.iloadN N59.here hx rfl (hb hby d1_142) rfl k) ?_
  refine Ends.go (f' := (mkF m 145 #[.val (.ref a), .val (.ref t), .val (.int pos), .val (.int cc), .val (.int f)] [(.int f), (.int cc), (.int pos), (.int (7 : Int32)), (.ref t), (.int (7 : Int32)), (.ref a)])) (fun t k => XS.iload N59.here hx rfl (hb hby d1_143) rfl k) ?_
  refine gStatic (W := 2) (argsL := [(.ref t), (.int (7 : Int32)), (.int pos), (.int cc), (.int f)]) (rest := [(.int (7 : Int32)), (.ref a)]) N59 hx hZ hown (hw _ (List.mem_of_getElem? (i := 14) rfl)) (hw _ (List.mem_of_getElem? (i := 15) rfl)) (hw _ (List.mem_of_getElem? (i := 12) rfl)) (hw _ (List.mem_of_getElem? (i := 16) rfl)) (by decide) ((rmAt l Z a0 hw t 7 pos cc f ct h58 N59.ext G (S.ext X63) (nle rfl) hc hf).back (W := 2) hZ (hw _ (List.mem_of_getElem? (i := 16) rfl)) (hw _ (List.mem_of_getElem? (i := 12) rfl)) (nle rfl) (nle rfl)) (hb hby d1_145) rfl (by rw [hml]; rfl) (lenOf (by decide +kernel : parseMethodDescriptor "(Ljava/lang/String;IICC)C" = some ⟨[(.object "java/lang/String"), .int, .int, .char, .char], (some .char)⟩) rfl) (nle rfl) (nle rfl) (nle rfl) (fun _ _ _ q => q.2) ?_
  rintro _ T64 _ _ N65 ⟨⟨rfl, e_h⟩, -⟩; rw [e_h] at N65; clear e_h
  show Ends p e below _ T64 (mkF m 148 #[.val (.ref a), .val (.ref t), .val (.int pos), .val (.int cc), .val (.int f)] [(.int (fAt ct 7 pos cc f)), (.int (7 : Int32)), (.ref a)])
  refine gStC 7 N65 hx hZ V62 gz (by decide) rfl (nle rfl) (hb hby d1_148) ?_
  intro T66 h67 N68 W69 V70
  rw [nar_ok (at_ok (i := 7) (pos := pos) hc hf S.2.2.2.1)] at V70
  have V71 : Arv Z h67 a kA .char (8 : Int32) [(.int (fAt ct 0 pos cc f)), (.int (fAt ct 1 pos cc f)), (.int (fAt ct 2 pos cc f)), (.int (fAt ct 3 pos cc f)), (.int (fAt ct 4 pos cc f)), (.int (fAt ct 5 pos cc f)), (.int (fAt ct 6 pos cc f)), (.int (fAt ct 7 pos cc f))] (.int (0 : Int32)) := V70
  have X72 : Ext ht h67 := ext_wr X63 W69 ga
  show Ends p e below _ T66 (mkF m 149 #[.val (.ref a), .val (.ref t), .val (.int pos), .val (.int cc), .val (.int f)] [])
  refine Ends.go (f' := (mkF m 150 #[.val (.ref a), .val (.ref t), .val (.int pos), .val (.int cc), .val (.int f)] [(.ref a)])) (fun t k => XS.aloadN N68.here hx rfl (hb hby d1_149) rfl rfl k) ?_
  refine gLen N68 hx hZ V71 (hb hby d1_150) ?_
  show Ends p e below _ T66 (mkF m 151 #[.val (.ref a), .val (.ref t), .val (.int pos), .val (.int cc), .val (.int f)] [(.int (8 : Int32))])
  refine Ends.go (f' := (mkF m 153 #[.val (.ref a), .val (.ref t), .val (.int pos), .val (.int cc), .val (.int f)] [(.int (8 : Int32)), (.int (8 : Int32))])) (fun t k => XS.bipush N68.here hx rfl (hb hby d1_151) k) ?_
  refine Ends.go (f' := (mkF m 170 #[.val (.ref a), .val (.ref t), .val (.int pos), .val (.int cc), .val (.int f)] [])) (fun t k => XS.icmpYes N68.here hx rfl (pc0 := 153) (pc' := 170) rfl (hb hby d1_153) rfl (XT.ii_le_t (by decide)) (by decide) (by decide) k) ?_
  refine Ends.go (f' := (mkF m 171 #[.val (.ref a), .val (.ref t), .val (.int pos), .val (.int cc), .val (.int f)] [(.ref a)])) (fun t k => XS.aloadN N68.here hx rfl (hb hby d1_170) rfl rfl k) ?_
  refine gLen N68 hx hZ V71 (hb hby d1_171) ?_
  show Ends p e below _ T66 (mkF m 172 #[.val (.ref a), .val (.ref t), .val (.int pos), .val (.int cc), .val (.int f)] [(.int (8 : Int32))])
  refine Ends.go (f' := (mkF m 174 #[.val (.ref a), .val (.ref t), .val (.int pos), .val (.int cc), .val (.int f)] [(.int (9 : Int32)), (.int (8 : Int32))])) (fun t k => XS.bipush N68.here hx rfl (hb hby d1_172) k) ?_
  refine Ends.go (f' := (mkF m 191 #[.val (.ref a), .val (.ref t), .val (.int pos), .val (.int cc), .val (.int f)] [])) (fun t k => XS.icmpYes N68.here hx rfl (pc0 := 174) (pc' := 191) rfl (hb hby d1_174) rfl (XT.ii_le_t (by decide)) (by decide) (by decide) k) ?_
  exact retV N68 hx hlk hret (hb hby d1_191) ⟨rfl, (((((((((Keep.refl h0 [a]).wr W6 (Or.inl (List.mem_singleton.mpr rfl))).wr W15 (Or.inl (List.mem_singleton.mpr rfl))).wr W24 (Or.inl (List.mem_singleton.mpr rfl))).wr W33 (Or.inl (List.mem_singleton.mpr rfl))).wr W42 (Or.inl (List.mem_singleton.mpr rfl))).wr W51 (Or.inl (List.mem_singleton.mpr rfl))).wr W60 (Or.inl (List.mem_singleton.mpr rfl))).wr W69 (Or.inl (List.mem_singleton.mpr rfl))), V71⟩ (nle rfl) (nle rfl)
set_option maxRecDepth 65536 in
set_option maxHeartbeats 40000000 in
theorem rmFill9 (l : Launch) (Z : State) (a0 : Array Value) (hw : ∀ d ∈ tables_1, d.before a0 Z = true) (a t : Addr) (kA : ClassId) (pos cc f : Int32) (ct : List Int32) (ht : Heap) (h0 : Heap) (Z0 : Ext Z.heap h0) (G : Jdk Z) (Et : Ext ht h0) (S : Str Z ht t ct) (ga : ht.size ≤ a) (gz : Z.heap.size ≤ a) (V : Arv Z h0 a kA .char (9 : Int32) [(.int (0 : Int32)), (.int (0 : Int32)), (.int (0 : Int32)), (.int (0 : Int32)), (.int (0 : Int32)), (.int (0 : Int32)), (.int (0 : Int32)), (.int (0 : Int32)), (.int (0 : Int32))] (.int (0 : Int32))) (hc : ¬ cc < 0 ∧ ¬ (255 : Int32) < cc) (hf : ¬ f < 0 ∧ ¬ (255 : Int32) < f) :
    MetN l Z (⟨"com/example/waypost/waypost/cli/ContentOptionsIsContentOptionPinLaw", "fill", "([CLjava/lang/String;ICC)V"⟩ : MethodName) method_4_code 5 none [] ({ frames := 5, cells := 0, slots := 0, locals := 71 } : Room) #[(.ref a), (.ref t), (.int pos), (.int cc), (.int f)] h0 (fun v h => v = none ∧ Keep h0 h [a] ∧ Arv Z h a kA .char (9 : Int32) [(.int (fAt ct 0 pos cc f)), (.int (fAt ct 1 pos cc f)), (.int (fAt ct 2 pos cc f)), (.int (fAt ct 3 pos cc f)), (.int (fAt ct 4 pos cc f)), (.int (fAt ct 5 pos cc f)), (.int (fAt ct 6 pos cc f)), (.int (fAt ct 7 pos cc f)), (.int (fAt ct 8 pos cc f))] (.int (0 : Int32))) := by
  refine metN (by first | exact plainFor_of_name (by first | (simp [plainName, overriddenIn]; done) | decide +kernel) | decide +kernel) Z0 (Ls := #[.val (.ref a), .val (.ref t), .val (.int pos), .val (.int cc), .val (.int f)]) (fun m => by first | (simp [entryFrame, mkF, argsToLocals, Value.category]; done) | rfl) ?_
  intro p e s m below meth c T0 hx hby hml hret hlk hown hnm hZ N0
  refine Ends.go (f' := (mkF m 1 #[.val (.ref a), .val (.ref t), .val (.int pos), .val (.int cc), .val (.int f)] [(.ref a)])) (fun t k => XS.aloadN N0.here hx rfl (hb hby d1_0) rfl rfl k) ?_
  refine gLen N0 hx hZ V (hb hby d1_1) ?_
  show Ends p e below _ T0 (mkF m 2 #[.val (.ref a), .val (.ref t), .val (.int pos), .val (.int cc), .val (.int f)] [(.int (9 : Int32))])
  refine Ends.go (f' := (mkF m 5 #[.val (.ref a), .val (.ref t), .val (.int pos), .val (.int cc), .val (.int f)] [])) (fun t k => XS.ifNo N0.here hx rfl (hb hby d1_2) rfl (XT.i0_le_f (by decide)) k) ?_
  refine Ends.go (f' := (mkF m 6 #[.val (.ref a), .val (.ref t), .val (.int pos), .val (.int cc), .val (.int f)] [(.ref a)])) (fun t k => XS.aloadN N0.here hx rfl (hb hby d1_5) rfl rfl k) ?_
  refine Ends.go (f' := (mkF m 7 #[.val (.ref a), .val (.ref t), .val (.int pos), .val (.int cc), .val (.int f)] [(.int (0 : Int32)), (.ref a)])) (fun t k => XS.iconst N0.here hx rfl (hb hby d1_6) k) ?_
  refine Ends.go (f' := (mkF m 8 #[.val (.ref a), .val (.ref t), .val (.int pos), .val (.int cc), .val (.int f)] [(.ref t), (.int (0 : Int32)), (.ref a)])) (fun t k => XS.aloadN N0.here hx rfl (hb hby d1_7) rfl rfl k) ?_
  refine Ends.go (f' := (mkF m 9 #[.val (.ref a), .val (.ref t), .val (.int pos), .val (.int cc), .val (.int f)] [(.int (0 : Int32)), (.ref t), (.int (0 : Int32)), (.ref a)])) (fun t k => XS.iconst N0.here hx rfl (hb hby d1_8) k) ?_
  refine Ends.go (f' := (mkF m 10 #[.val (.ref a), .val (.ref t), .val (.int pos), .val (.int cc), .val (.int f)] [(.int pos), (.int (0 : Int32)), (.ref t), (.int (0 : Int32)), (.ref a)])) (fun t k => XS.iloadN N0.here hx rfl (hb hby d1_9) rfl k) ?_
  refine Ends.go (f' := (mkF m 11 #[.val (.ref a), .val (.ref t), .val (.int pos), .val (.int cc), .val (.int f)] [(.int cc), (.int pos), (.int (0 : Int32)), (.ref t), (.int (0 : Int32)), (.ref a)])) (fun t k => XS.iloadN N0.here hx rfl (hb hby d1_10) rfl k) ?_
  refine Ends.go (f' := (mkF m 13 #[.val (.ref a), .val (.ref t), .val (.int pos), .val (.int cc), .val (.int f)] [(.int f), (.int cc), (.int pos), (.int (0 : Int32)), (.ref t), (.int (0 : Int32)), (.ref a)])) (fun t k => XS.iload N0.here hx rfl (hb hby d1_11) rfl k) ?_
  refine gStatic (W := 2) (argsL := [(.ref t), (.int (0 : Int32)), (.int pos), (.int cc), (.int f)]) (rest := [(.int (0 : Int32)), (.ref a)]) N0 hx hZ hown (hw _ (List.mem_of_getElem? (i := 14) rfl)) (hw _ (List.mem_of_getElem? (i := 15) rfl)) (hw _ (List.mem_of_getElem? (i := 12) rfl)) (hw _ (List.mem_of_getElem? (i := 16) rfl)) (by decide) ((rmAt l Z a0 hw t 0 pos cc f ct h0 N0.ext G (S.ext Et) (nle rfl) hc hf).back (W := 2) hZ (hw _ (List.mem_of_getElem? (i := 16) rfl)) (hw _ (List.mem_of_getElem? (i := 12) rfl)) (nle rfl) (nle rfl)) (hb hby d1_13) rfl (by rw [hml]; rfl) (lenOf (by decide +kernel : parseMethodDescriptor "(Ljava/lang/String;IICC)C" = some ⟨[(.object "java/lang/String"), .int, .int, .char, .char], (some .char)⟩) rfl) (nle rfl) (nle rfl) (nle rfl) (fun _ _ _ q => q.2) ?_
  rintro _ T1 _ _ N2 ⟨⟨rfl, e_h⟩, -⟩; rw [e_h] at N2; clear e_h
  show Ends p e below _ T1 (mkF m 16 #[.val (.ref a), .val (.ref t), .val (.int pos), .val (.int cc), .val (.int f)] [(.int (fAt ct 0 pos cc f)), (.int (0 : Int32)), (.ref a)])
  refine gStC 0 N2 hx hZ V gz (by decide) rfl (nle rfl) (hb hby d1_16) ?_
  intro T3 h4 N5 W6 V7
  rw [nar_ok (at_ok (i := 0) (pos := pos) hc hf S.2.2.2.1)] at V7
  have V8 : Arv Z h4 a kA .char (9 : Int32) [(.int (fAt ct 0 pos cc f)), (.int (0 : Int32)), (.int (0 : Int32)), (.int (0 : Int32)), (.int (0 : Int32)), (.int (0 : Int32)), (.int (0 : Int32)), (.int (0 : Int32)), (.int (0 : Int32))] (.int (0 : Int32)) := V7
  have X9 : Ext ht h4 := ext_wr Et W6 ga
  show Ends p e below _ T3 (mkF m 17 #[.val (.ref a), .val (.ref t), .val (.int pos), .val (.int cc), .val (.int f)] [])
  refine Ends.go (f' := (mkF m 18 #[.val (.ref a), .val (.ref t), .val (.int pos), .val (.int cc), .val (.int f)] [(.ref a)])) (fun t k => XS.aloadN N5.here hx rfl (hb hby d1_17) rfl rfl k) ?_
  refine gLen N5 hx hZ V8 (hb hby d1_18) ?_
  show Ends p e below _ T3 (mkF m 19 #[.val (.ref a), .val (.ref t), .val (.int pos), .val (.int cc), .val (.int f)] [(.int (9 : Int32))])
  refine Ends.go (f' := (mkF m 20 #[.val (.ref a), .val (.ref t), .val (.int pos), .val (.int cc), .val (.int f)] [(.int (1 : Int32)), (.int (9 : Int32))])) (fun t k => XS.iconst N5.here hx rfl (hb hby d1_19) k) ?_
  refine Ends.go (f' := (mkF m 23 #[.val (.ref a), .val (.ref t), .val (.int pos), .val (.int cc), .val (.int f)] [])) (fun t k => XS.icmpNo N5.here hx rfl (hb hby d1_20) rfl (XT.ii_le_f (by decide)) k) ?_
  refine Ends.go (f' := (mkF m 24 #[.val (.ref a), .val (.ref t), .val (.int pos), .val (.int cc), .val (.int f)] [(.ref a)])) (fun t k => XS.aloadN N5.here hx rfl (hb hby d1_23) rfl rfl k) ?_
  refine Ends.go (f' := (mkF m 25 #[.val (.ref a), .val (.ref t), .val (.int pos), .val (.int cc), .val (.int f)] [(.int (1 : Int32)), (.ref a)])) (fun t k => XS.iconst N5.here hx rfl (hb hby d1_24) k) ?_
  refine Ends.go (f' := (mkF m 26 #[.val (.ref a), .val (.ref t), .val (.int pos), .val (.int cc), .val (.int f)] [(.ref t), (.int (1 : Int32)), (.ref a)])) (fun t k => XS.aloadN N5.here hx rfl (hb hby d1_25) rfl rfl k) ?_
  refine Ends.go (f' := (mkF m 27 #[.val (.ref a), .val (.ref t), .val (.int pos), .val (.int cc), .val (.int f)] [(.int (1 : Int32)), (.ref t), (.int (1 : Int32)), (.ref a)])) (fun t k => XS.iconst N5.here hx rfl (hb hby d1_26) k) ?_
  refine Ends.go (f' := (mkF m 28 #[.val (.ref a), .val (.ref t), .val (.int pos), .val (.int cc), .val (.int f)] [(.int pos), (.int (1 : Int32)), (.ref t), (.int (1 : Int32)), (.ref a)])) (fun t k => XS.iloadN N5.here hx rfl (hb hby d1_27) rfl k) ?_
  refine Ends.go (f' := (mkF m 29 #[.val (.ref a), .val (.ref t), .val (.int pos), .val (.int cc), .val (.int f)] [(.int cc), (.int pos), (.int (1 : Int32)), (.ref t), (.int (1 : Int32)), (.ref a)])) (fun t k => XS.iloadN N5.here hx rfl (hb hby d1_28) rfl k) ?_
  refine Ends.go (f' := (mkF m 31 #[.val (.ref a), .val (.ref t), .val (.int pos), .val (.int cc), .val (.int f)] [(.int f), (.int cc), (.int pos), (.int (1 : Int32)), (.ref t), (.int (1 : Int32)), (.ref a)])) (fun t k => XS.iload N5.here hx rfl (hb hby d1_29) rfl k) ?_
  refine gStatic (W := 2) (argsL := [(.ref t), (.int (1 : Int32)), (.int pos), (.int cc), (.int f)]) (rest := [(.int (1 : Int32)), (.ref a)]) N5 hx hZ hown (hw _ (List.mem_of_getElem? (i := 14) rfl)) (hw _ (List.mem_of_getElem? (i := 15) rfl)) (hw _ (List.mem_of_getElem? (i := 12) rfl)) (hw _ (List.mem_of_getElem? (i := 16) rfl)) (by decide) ((rmAt l Z a0 hw t 1 pos cc f ct h4 N5.ext G (S.ext X9) (nle rfl) hc hf).back (W := 2) hZ (hw _ (List.mem_of_getElem? (i := 16) rfl)) (hw _ (List.mem_of_getElem? (i := 12) rfl)) (nle rfl) (nle rfl)) (hb hby d1_31) rfl (by rw [hml]; rfl) (lenOf (by decide +kernel : parseMethodDescriptor "(Ljava/lang/String;IICC)C" = some ⟨[(.object "java/lang/String"), .int, .int, .char, .char], (some .char)⟩) rfl) (nle rfl) (nle rfl) (nle rfl) (fun _ _ _ q => q.2) ?_
  rintro _ T10 _ _ N11 ⟨⟨rfl, e_h⟩, -⟩; rw [e_h] at N11; clear e_h
  show Ends p e below _ T10 (mkF m 34 #[.val (.ref a), .val (.ref t), .val (.int pos), .val (.int cc), .val (.int f)] [(.int (fAt ct 1 pos cc f)), (.int (1 : Int32)), (.ref a)])
  refine gStC 1 N11 hx hZ V8 gz (by decide) rfl (nle rfl) (hb hby d1_34) ?_
  intro T12 h13 N14 W15 V16
  rw [nar_ok (at_ok (i := 1) (pos := pos) hc hf S.2.2.2.1)] at V16
  have V17 : Arv Z h13 a kA .char (9 : Int32) [(.int (fAt ct 0 pos cc f)), (.int (fAt ct 1 pos cc f)), (.int (0 : Int32)), (.int (0 : Int32)), (.int (0 : Int32)), (.int (0 : Int32)), (.int (0 : Int32)), (.int (0 : Int32)), (.int (0 : Int32))] (.int (0 : Int32)) := V16
  have X18 : Ext ht h13 := ext_wr X9 W15 ga
  show Ends p e below _ T12 (mkF m 35 #[.val (.ref a), .val (.ref t), .val (.int pos), .val (.int cc), .val (.int f)] [])
  refine Ends.go (f' := (mkF m 36 #[.val (.ref a), .val (.ref t), .val (.int pos), .val (.int cc), .val (.int f)] [(.ref a)])) (fun t k => XS.aloadN N14.here hx rfl (hb hby d1_35) rfl rfl k) ?_
  refine gLen N14 hx hZ V17 (hb hby d1_36) ?_
  show Ends p e below _ T12 (mkF m 37 #[.val (.ref a), .val (.ref t), .val (.int pos), .val (.int cc), .val (.int f)] [(.int (9 : Int32))])
  refine Ends.go (f' := (mkF m 38 #[.val (.ref a), .val (.ref t), .val (.int pos), .val (.int cc), .val (.int f)] [(.int (2 : Int32)), (.int (9 : Int32))])) (fun t k => XS.iconst N14.here hx rfl (hb hby d1_37) k) ?_
  refine Ends.go (f' := (mkF m 41 #[.val (.ref a), .val (.ref t), .val (.int pos), .val (.int cc), .val (.int f)] [])) (fun t k => XS.icmpNo N14.here hx rfl (hb hby d1_38) rfl (XT.ii_le_f (by decide)) k) ?_
  refine Ends.go (f' := (mkF m 42 #[.val (.ref a), .val (.ref t), .val (.int pos), .val (.int cc), .val (.int f)] [(.ref a)])) (fun t k => XS.aloadN N14.here hx rfl (hb hby d1_41) rfl rfl k) ?_
  refine Ends.go (f' := (mkF m 43 #[.val (.ref a), .val (.ref t), .val (.int pos), .val (.int cc), .val (.int f)] [(.int (2 : Int32)), (.ref a)])) (fun t k => XS.iconst N14.here hx rfl (hb hby d1_42) k) ?_
  refine Ends.go (f' := (mkF m 44 #[.val (.ref a), .val (.ref t), .val (.int pos), .val (.int cc), .val (.int f)] [(.ref t), (.int (2 : Int32)), (.ref a)])) (fun t k => XS.aloadN N14.here hx rfl (hb hby d1_43) rfl rfl k) ?_
  refine Ends.go (f' := (mkF m 45 #[.val (.ref a), .val (.ref t), .val (.int pos), .val (.int cc), .val (.int f)] [(.int (2 : Int32)), (.ref t), (.int (2 : Int32)), (.ref a)])) (fun t k => XS.iconst N14.here hx rfl (hb hby d1_44) k) ?_
  refine Ends.go (f' := (mkF m 46 #[.val (.ref a), .val (.ref t), .val (.int pos), .val (.int cc), .val (.int f)] [(.int pos), (.int (2 : Int32)), (.ref t), (.int (2 : Int32)), (.ref a)])) (fun t k => XS.iloadN N14.here hx rfl (hb hby d1_45) rfl k) ?_
  refine Ends.go (f' := (mkF m 47 #[.val (.ref a), .val (.ref t), .val (.int pos), .val (.int cc), .val (.int f)] [(.int cc), (.int pos), (.int (2 : Int32)), (.ref t), (.int (2 : Int32)), (.ref a)])) (fun t k => XS.iloadN N14.here hx rfl (hb hby d1_46) rfl k) ?_
  refine Ends.go (f' := (mkF m 49 #[.val (.ref a), .val (.ref t), .val (.int pos), .val (.int cc), .val (.int f)] [(.int f), (.int cc), (.int pos), (.int (2 : Int32)), (.ref t), (.int (2 : Int32)), (.ref a)])) (fun t k => XS.iload N14.here hx rfl (hb hby d1_47) rfl k) ?_
  refine gStatic (W := 2) (argsL := [(.ref t), (.int (2 : Int32)), (.int pos), (.int cc), (.int f)]) (rest := [(.int (2 : Int32)), (.ref a)]) N14 hx hZ hown (hw _ (List.mem_of_getElem? (i := 14) rfl)) (hw _ (List.mem_of_getElem? (i := 15) rfl)) (hw _ (List.mem_of_getElem? (i := 12) rfl)) (hw _ (List.mem_of_getElem? (i := 16) rfl)) (by decide) ((rmAt l Z a0 hw t 2 pos cc f ct h13 N14.ext G (S.ext X18) (nle rfl) hc hf).back (W := 2) hZ (hw _ (List.mem_of_getElem? (i := 16) rfl)) (hw _ (List.mem_of_getElem? (i := 12) rfl)) (nle rfl) (nle rfl)) (hb hby d1_49) rfl (by rw [hml]; rfl) (lenOf (by decide +kernel : parseMethodDescriptor "(Ljava/lang/String;IICC)C" = some ⟨[(.object "java/lang/String"), .int, .int, .char, .char], (some .char)⟩) rfl) (nle rfl) (nle rfl) (nle rfl) (fun _ _ _ q => q.2) ?_
  rintro _ T19 _ _ N20 ⟨⟨rfl, e_h⟩, -⟩; rw [e_h] at N20; clear e_h
  show Ends p e below _ T19 (mkF m 52 #[.val (.ref a), .val (.ref t), .val (.int pos), .val (.int cc), .val (.int f)] [(.int (fAt ct 2 pos cc f)), (.int (2 : Int32)), (.ref a)])
  refine gStC 2 N20 hx hZ V17 gz (by decide) rfl (nle rfl) (hb hby d1_52) ?_
  intro T21 h22 N23 W24 V25
  rw [nar_ok (at_ok (i := 2) (pos := pos) hc hf S.2.2.2.1)] at V25
  have V26 : Arv Z h22 a kA .char (9 : Int32) [(.int (fAt ct 0 pos cc f)), (.int (fAt ct 1 pos cc f)), (.int (fAt ct 2 pos cc f)), (.int (0 : Int32)), (.int (0 : Int32)), (.int (0 : Int32)), (.int (0 : Int32)), (.int (0 : Int32)), (.int (0 : Int32))] (.int (0 : Int32)) := V25
  have X27 : Ext ht h22 := ext_wr X18 W24 ga
  show Ends p e below _ T21 (mkF m 53 #[.val (.ref a), .val (.ref t), .val (.int pos), .val (.int cc), .val (.int f)] [])
  refine Ends.go (f' := (mkF m 54 #[.val (.ref a), .val (.ref t), .val (.int pos), .val (.int cc), .val (.int f)] [(.ref a)])) (fun t k => XS.aloadN N23.here hx rfl (hb hby d1_53) rfl rfl k) ?_
  refine gLen N23 hx hZ V26 (hb hby d1_54) ?_
  show Ends p e below _ T21 (mkF m 55 #[.val (.ref a), .val (.ref t), .val (.int pos), .val (.int cc), .val (.int f)] [(.int (9 : Int32))])
  refine Ends.go (f' := (mkF m 56 #[.val (.ref a), .val (.ref t), .val (.int pos), .val (.int cc), .val (.int f)] [(.int (3 : Int32)), (.int (9 : Int32))])) (fun t k => XS.iconst N23.here hx rfl (hb hby d1_55) k) ?_
  refine Ends.go (f' := (mkF m 59 #[.val (.ref a), .val (.ref t), .val (.int pos), .val (.int cc), .val (.int f)] [])) (fun t k => XS.icmpNo N23.here hx rfl (hb hby d1_56) rfl (XT.ii_le_f (by decide)) k) ?_
  refine Ends.go (f' := (mkF m 60 #[.val (.ref a), .val (.ref t), .val (.int pos), .val (.int cc), .val (.int f)] [(.ref a)])) (fun t k => XS.aloadN N23.here hx rfl (hb hby d1_59) rfl rfl k) ?_
  refine Ends.go (f' := (mkF m 61 #[.val (.ref a), .val (.ref t), .val (.int pos), .val (.int cc), .val (.int f)] [(.int (3 : Int32)), (.ref a)])) (fun t k => XS.iconst N23.here hx rfl (hb hby d1_60) k) ?_
  refine Ends.go (f' := (mkF m 62 #[.val (.ref a), .val (.ref t), .val (.int pos), .val (.int cc), .val (.int f)] [(.ref t), (.int (3 : Int32)), (.ref a)])) (fun t k => XS.aloadN N23.here hx rfl (hb hby d1_61) rfl rfl k) ?_
  refine Ends.go (f' := (mkF m 63 #[.val (.ref a), .val (.ref t), .val (.int pos), .val (.int cc), .val (.int f)] [(.int (3 : Int32)), (.ref t), (.int (3 : Int32)), (.ref a)])) (fun t k => XS.iconst N23.here hx rfl (hb hby d1_62) k) ?_
  refine Ends.go (f' := (mkF m 64 #[.val (.ref a), .val (.ref t), .val (.int pos), .val (.int cc), .val (.int f)] [(.int pos), (.int (3 : Int32)), (.ref t), (.int (3 : Int32)), (.ref a)])) (fun t k => XS.iloadN N23.here hx rfl (hb hby d1_63) rfl k) ?_
  refine Ends.go (f' := (mkF m 65 #[.val (.ref a), .val (.ref t), .val (.int pos), .val (.int cc), .val (.int f)] [(.int cc), (.int pos), (.int (3 : Int32)), (.ref t), (.int (3 : Int32)), (.ref a)])) (fun t k => XS.iloadN N23.here hx rfl (hb hby d1_64) rfl k) ?_
  refine Ends.go (f' := (mkF m 67 #[.val (.ref a), .val (.ref t), .val (.int pos), .val (.int cc), .val (.int f)] [(.int f), (.int cc), (.int pos), (.int (3 : Int32)), (.ref t), (.int (3 : Int32)), (.ref a)])) (fun t k => XS.iload N23.here hx rfl (hb hby d1_65) rfl k) ?_
  refine gStatic (W := 2) (argsL := [(.ref t), (.int (3 : Int32)), (.int pos), (.int cc), (.int f)]) (rest := [(.int (3 : Int32)), (.ref a)]) N23 hx hZ hown (hw _ (List.mem_of_getElem? (i := 14) rfl)) (hw _ (List.mem_of_getElem? (i := 15) rfl)) (hw _ (List.mem_of_getElem? (i := 12) rfl)) (hw _ (List.mem_of_getElem? (i := 16) rfl)) (by decide) ((rmAt l Z a0 hw t 3 pos cc f ct h22 N23.ext G (S.ext X27) (nle rfl) hc hf).back (W := 2) hZ (hw _ (List.mem_of_getElem? (i := 16) rfl)) (hw _ (List.mem_of_getElem? (i := 12) rfl)) (nle rfl) (nle rfl)) (hb hby d1_67) rfl (by rw [hml]; rfl) (lenOf (by decide +kernel : parseMethodDescriptor "(Ljava/lang/String;IICC)C" = some ⟨[(.object "java/lang/String"), .int, .int, .char, .char], (some .char)⟩) rfl) (nle rfl) (nle rfl) (nle rfl) (fun _ _ _ q => q.2) ?_
  rintro _ T28 _ _ N29 ⟨⟨rfl, e_h⟩, -⟩; rw [e_h] at N29; clear e_h
  show Ends p e below _ T28 (mkF m 70 #[.val (.ref a), .val (.ref t), .val (.int pos), .val (.int cc), .val (.int f)] [(.int (fAt ct 3 pos cc f)), (.int (3 : Int32)), (.ref a)])
  refine gStC 3 N29 hx hZ V26 gz (by decide) rfl (nle rfl) (hb hby d1_70) ?_
  intro T30 h31 N32 W33 V34
  rw [nar_ok (at_ok (i := 3) (pos := pos) hc hf S.2.2.2.1)] at V34
  have V35 : Arv Z h31 a kA .char (9 : Int32) [(.int (fAt ct 0 pos cc f)), (.int (fAt ct 1 pos cc f)), (.int (fAt ct 2 pos cc f)), (.int (fAt ct 3 pos cc f)), (.int (0 : Int32)), (.int (0 : Int32)), (.int (0 : Int32)), (.int (0 : Int32)), (.int (0 : Int32))] (.int (0 : Int32)) := V34
  have X36 : Ext ht h31 := ext_wr X27 W33 ga
  show Ends p e below _ T30 (mkF m 71 #[.val (.ref a), .val (.ref t), .val (.int pos), .val (.int cc), .val (.int f)] [])
  refine Ends.go (f' := (mkF m 72 #[.val (.ref a), .val (.ref t), .val (.int pos), .val (.int cc), .val (.int f)] [(.ref a)])) (fun t k => XS.aloadN N32.here hx rfl (hb hby d1_71) rfl rfl k) ?_
  refine gLen N32 hx hZ V35 (hb hby d1_72) ?_
  show Ends p e below _ T30 (mkF m 73 #[.val (.ref a), .val (.ref t), .val (.int pos), .val (.int cc), .val (.int f)] [(.int (9 : Int32))])
  refine Ends.go (f' := (mkF m 74 #[.val (.ref a), .val (.ref t), .val (.int pos), .val (.int cc), .val (.int f)] [(.int (4 : Int32)), (.int (9 : Int32))])) (fun t k => XS.iconst N32.here hx rfl (hb hby d1_73) k) ?_
  refine Ends.go (f' := (mkF m 77 #[.val (.ref a), .val (.ref t), .val (.int pos), .val (.int cc), .val (.int f)] [])) (fun t k => XS.icmpNo N32.here hx rfl (hb hby d1_74) rfl (XT.ii_le_f (by decide)) k) ?_
  refine Ends.go (f' := (mkF m 78 #[.val (.ref a), .val (.ref t), .val (.int pos), .val (.int cc), .val (.int f)] [(.ref a)])) (fun t k => XS.aloadN N32.here hx rfl (hb hby d1_77) rfl rfl k) ?_
  refine Ends.go (f' := (mkF m 79 #[.val (.ref a), .val (.ref t), .val (.int pos), .val (.int cc), .val (.int f)] [(.int (4 : Int32)), (.ref a)])) (fun t k => XS.iconst N32.here hx rfl (hb hby d1_78) k) ?_
  refine Ends.go (f' := (mkF m 80 #[.val (.ref a), .val (.ref t), .val (.int pos), .val (.int cc), .val (.int f)] [(.ref t), (.int (4 : Int32)), (.ref a)])) (fun t k => XS.aloadN N32.here hx rfl (hb hby d1_79) rfl rfl k) ?_
  refine Ends.go (f' := (mkF m 81 #[.val (.ref a), .val (.ref t), .val (.int pos), .val (.int cc), .val (.int f)] [(.int (4 : Int32)), (.ref t), (.int (4 : Int32)), (.ref a)])) (fun t k => XS.iconst N32.here hx rfl (hb hby d1_80) k) ?_
  refine Ends.go (f' := (mkF m 82 #[.val (.ref a), .val (.ref t), .val (.int pos), .val (.int cc), .val (.int f)] [(.int pos), (.int (4 : Int32)), (.ref t), (.int (4 : Int32)), (.ref a)])) (fun t k => XS.iloadN N32.here hx rfl (hb hby d1_81) rfl k) ?_
  refine Ends.go (f' := (mkF m 83 #[.val (.ref a), .val (.ref t), .val (.int pos), .val (.int cc), .val (.int f)] [(.int cc), (.int pos), (.int (4 : Int32)), (.ref t), (.int (4 : Int32)), (.ref a)])) (fun t k => XS.iloadN N32.here hx rfl (hb hby d1_82) rfl k) ?_
  refine Ends.go (f' := (mkF m 85 #[.val (.ref a), .val (.ref t), .val (.int pos), .val (.int cc), .val (.int f)] [(.int f), (.int cc), (.int pos), (.int (4 : Int32)), (.ref t), (.int (4 : Int32)), (.ref a)])) (fun t k => XS.iload N32.here hx rfl (hb hby d1_83) rfl k) ?_
  refine gStatic (W := 2) (argsL := [(.ref t), (.int (4 : Int32)), (.int pos), (.int cc), (.int f)]) (rest := [(.int (4 : Int32)), (.ref a)]) N32 hx hZ hown (hw _ (List.mem_of_getElem? (i := 14) rfl)) (hw _ (List.mem_of_getElem? (i := 15) rfl)) (hw _ (List.mem_of_getElem? (i := 12) rfl)) (hw _ (List.mem_of_getElem? (i := 16) rfl)) (by decide) ((rmAt l Z a0 hw t 4 pos cc f ct h31 N32.ext G (S.ext X36) (nle rfl) hc hf).back (W := 2) hZ (hw _ (List.mem_of_getElem? (i := 16) rfl)) (hw _ (List.mem_of_getElem? (i := 12) rfl)) (nle rfl) (nle rfl)) (hb hby d1_85) rfl (by rw [hml]; rfl) (lenOf (by decide +kernel : parseMethodDescriptor "(Ljava/lang/String;IICC)C" = some ⟨[(.object "java/lang/String"), .int, .int, .char, .char], (some .char)⟩) rfl) (nle rfl) (nle rfl) (nle rfl) (fun _ _ _ q => q.2) ?_
  rintro _ T37 _ _ N38 ⟨⟨rfl, e_h⟩, -⟩; rw [e_h] at N38; clear e_h
  show Ends p e below _ T37 (mkF m 88 #[.val (.ref a), .val (.ref t), .val (.int pos), .val (.int cc), .val (.int f)] [(.int (fAt ct 4 pos cc f)), (.int (4 : Int32)), (.ref a)])
  refine gStC 4 N38 hx hZ V35 gz (by decide) rfl (nle rfl) (hb hby d1_88) ?_
  intro T39 h40 N41 W42 V43
  rw [nar_ok (at_ok (i := 4) (pos := pos) hc hf S.2.2.2.1)] at V43
  have V44 : Arv Z h40 a kA .char (9 : Int32) [(.int (fAt ct 0 pos cc f)), (.int (fAt ct 1 pos cc f)), (.int (fAt ct 2 pos cc f)), (.int (fAt ct 3 pos cc f)), (.int (fAt ct 4 pos cc f)), (.int (0 : Int32)), (.int (0 : Int32)), (.int (0 : Int32)), (.int (0 : Int32))] (.int (0 : Int32)) := V43
  have X45 : Ext ht h40 := ext_wr X36 W42 ga
  show Ends p e below _ T39 (mkF m 89 #[.val (.ref a), .val (.ref t), .val (.int pos), .val (.int cc), .val (.int f)] [])
  refine Ends.go (f' := (mkF m 90 #[.val (.ref a), .val (.ref t), .val (.int pos), .val (.int cc), .val (.int f)] [(.ref a)])) (fun t k => XS.aloadN N41.here hx rfl (hb hby d1_89) rfl rfl k) ?_
  refine gLen N41 hx hZ V44 (hb hby d1_90) ?_
  show Ends p e below _ T39 (mkF m 91 #[.val (.ref a), .val (.ref t), .val (.int pos), .val (.int cc), .val (.int f)] [(.int (9 : Int32))])
  refine Ends.go (f' := (mkF m 92 #[.val (.ref a), .val (.ref t), .val (.int pos), .val (.int cc), .val (.int f)] [(.int (5 : Int32)), (.int (9 : Int32))])) (fun t k => XS.iconst N41.here hx rfl (hb hby d1_91) k) ?_
  refine Ends.go (f' := (mkF m 95 #[.val (.ref a), .val (.ref t), .val (.int pos), .val (.int cc), .val (.int f)] [])) (fun t k => XS.icmpNo N41.here hx rfl (hb hby d1_92) rfl (XT.ii_le_f (by decide)) k) ?_
  refine Ends.go (f' := (mkF m 96 #[.val (.ref a), .val (.ref t), .val (.int pos), .val (.int cc), .val (.int f)] [(.ref a)])) (fun t k => XS.aloadN N41.here hx rfl (hb hby d1_95) rfl rfl k) ?_
  refine Ends.go (f' := (mkF m 97 #[.val (.ref a), .val (.ref t), .val (.int pos), .val (.int cc), .val (.int f)] [(.int (5 : Int32)), (.ref a)])) (fun t k => XS.iconst N41.here hx rfl (hb hby d1_96) k) ?_
  refine Ends.go (f' := (mkF m 98 #[.val (.ref a), .val (.ref t), .val (.int pos), .val (.int cc), .val (.int f)] [(.ref t), (.int (5 : Int32)), (.ref a)])) (fun t k => XS.aloadN N41.here hx rfl (hb hby d1_97) rfl rfl k) ?_
  refine Ends.go (f' := (mkF m 99 #[.val (.ref a), .val (.ref t), .val (.int pos), .val (.int cc), .val (.int f)] [(.int (5 : Int32)), (.ref t), (.int (5 : Int32)), (.ref a)])) (fun t k => XS.iconst N41.here hx rfl (hb hby d1_98) k) ?_
  refine Ends.go (f' := (mkF m 100 #[.val (.ref a), .val (.ref t), .val (.int pos), .val (.int cc), .val (.int f)] [(.int pos), (.int (5 : Int32)), (.ref t), (.int (5 : Int32)), (.ref a)])) (fun t k => XS.iloadN N41.here hx rfl (hb hby d1_99) rfl k) ?_
  refine Ends.go (f' := (mkF m 101 #[.val (.ref a), .val (.ref t), .val (.int pos), .val (.int cc), .val (.int f)] [(.int cc), (.int pos), (.int (5 : Int32)), (.ref t), (.int (5 : Int32)), (.ref a)])) (fun t k => XS.iloadN N41.here hx rfl (hb hby d1_100) rfl k) ?_
  refine Ends.go (f' := (mkF m 103 #[.val (.ref a), .val (.ref t), .val (.int pos), .val (.int cc), .val (.int f)] [(.int f), (.int cc), (.int pos), (.int (5 : Int32)), (.ref t), (.int (5 : Int32)), (.ref a)])) (fun t k => XS.iload N41.here hx rfl (hb hby d1_101) rfl k) ?_
  refine gStatic (W := 2) (argsL := [(.ref t), (.int (5 : Int32)), (.int pos), (.int cc), (.int f)]) (rest := [(.int (5 : Int32)), (.ref a)]) N41 hx hZ hown (hw _ (List.mem_of_getElem? (i := 14) rfl)) (hw _ (List.mem_of_getElem? (i := 15) rfl)) (hw _ (List.mem_of_getElem? (i := 12) rfl)) (hw _ (List.mem_of_getElem? (i := 16) rfl)) (by decide) ((rmAt l Z a0 hw t 5 pos cc f ct h40 N41.ext G (S.ext X45) (nle rfl) hc hf).back (W := 2) hZ (hw _ (List.mem_of_getElem? (i := 16) rfl)) (hw _ (List.mem_of_getElem? (i := 12) rfl)) (nle rfl) (nle rfl)) (hb hby d1_103) rfl (by rw [hml]; rfl) (lenOf (by decide +kernel : parseMethodDescriptor "(Ljava/lang/String;IICC)C" = some ⟨[(.object "java/lang/String"), .int, .int, .char, .char], (some .char)⟩) rfl) (nle rfl) (nle rfl) (nle rfl) (fun _ _ _ q => q.2) ?_
  rintro _ T46 _ _ N47 ⟨⟨rfl, e_h⟩, -⟩; rw [e_h] at N47; clear e_h
  show Ends p e below _ T46 (mkF m 106 #[.val (.ref a), .val (.ref t), .val (.int pos), .val (.int cc), .val (.int f)] [(.int (fAt ct 5 pos cc f)), (.int (5 : Int32)), (.ref a)])
  refine gStC 5 N47 hx hZ V44 gz (by decide) rfl (nle rfl) (hb hby d1_106) ?_
  intro T48 h49 N50 W51 V52
  rw [nar_ok (at_ok (i := 5) (pos := pos) hc hf S.2.2.2.1)] at V52
  have V53 : Arv Z h49 a kA .char (9 : Int32) [(.int (fAt ct 0 pos cc f)), (.int (fAt ct 1 pos cc f)), (.int (fAt ct 2 pos cc f)), (.int (fAt ct 3 pos cc f)), (.int (fAt ct 4 pos cc f)), (.int (fAt ct 5 pos cc f)), (.int (0 : Int32)), (.int (0 : Int32)), (.int (0 : Int32))] (.int (0 : Int32)) := V52
  have X54 : Ext ht h49 := ext_wr X45 W51 ga
  show Ends p e below _ T48 (mkF m 107 #[.val (.ref a), .val (.ref t), .val (.int pos), .val (.int cc), .val (.int f)] [])
  refine Ends.go (f' := (mkF m 108 #[.val (.ref a), .val (.ref t), .val (.int pos), .val (.int cc), .val (.int f)] [(.ref a)])) (fun t k => XS.aloadN N50.here hx rfl (hb hby d1_107) rfl rfl k) ?_
  refine gLen N50 hx hZ V53 (hb hby d1_108) ?_
  show Ends p e below _ T48 (mkF m 109 #[.val (.ref a), .val (.ref t), .val (.int pos), .val (.int cc), .val (.int f)] [(.int (9 : Int32))])
  refine Ends.go (f' := (mkF m 111 #[.val (.ref a), .val (.ref t), .val (.int pos), .val (.int cc), .val (.int f)] [(.int (6 : Int32)), (.int (9 : Int32))])) (fun t k => XS.bipush N50.here hx rfl (hb hby d1_109) k) ?_
  refine Ends.go (f' := (mkF m 114 #[.val (.ref a), .val (.ref t), .val (.int pos), .val (.int cc), .val (.int f)] [])) (fun t k => XS.icmpNo N50.here hx rfl (hb hby d1_111) rfl (XT.ii_le_f (by decide)) k) ?_
  refine Ends.go (f' := (mkF m 115 #[.val (.ref a), .val (.ref t), .val (.int pos), .val (.int cc), .val (.int f)] [(.ref a)])) (fun t k => XS.aloadN N50.here hx rfl (hb hby d1_114) rfl rfl k) ?_
  refine Ends.go (f' := (mkF m 117 #[.val (.ref a), .val (.ref t), .val (.int pos), .val (.int cc), .val (.int f)] [(.int (6 : Int32)), (.ref a)])) (fun t k => XS.bipush N50.here hx rfl (hb hby d1_115) k) ?_
  refine Ends.go (f' := (mkF m 118 #[.val (.ref a), .val (.ref t), .val (.int pos), .val (.int cc), .val (.int f)] [(.ref t), (.int (6 : Int32)), (.ref a)])) (fun t k => XS.aloadN N50.here hx rfl (hb hby d1_117) rfl rfl k) ?_
  refine Ends.go (f' := (mkF m 120 #[.val (.ref a), .val (.ref t), .val (.int pos), .val (.int cc), .val (.int f)] [(.int (6 : Int32)), (.ref t), (.int (6 : Int32)), (.ref a)])) (fun t k => XS.bipush N50.here hx rfl (hb hby d1_118) k) ?_
  refine Ends.go (f' := (mkF m 121 #[.val (.ref a), .val (.ref t), .val (.int pos), .val (.int cc), .val (.int f)] [(.int pos), (.int (6 : Int32)), (.ref t), (.int (6 : Int32)), (.ref a)])) (fun t k => XS.iloadN N50.here hx rfl (hb hby d1_120) rfl k) ?_
  refine Ends.go (f' := (mkF m 122 #[.val (.ref a), .val (.ref t), .val (.int pos), .val (.int cc), .val (.int f)] [(.int cc), (.int pos), (.int (6 : Int32)), (.ref t), (.int (6 : Int32)), (.ref a)])) (fun t k => XS.iloadN N50.here hx rfl (hb hby d1_121) rfl k) ?_
  refine Ends.go (f' := (mkF m 124 #[.val (.ref a), .val (.ref t), .val (.int pos), .val (.int cc), .val (.int f)] [(.int f), (.int cc), (.int pos), (.int (6 : Int32)), (.ref t), (.int (6 : Int32)), (.ref a)])) (fun t k => XS.iload N50.here hx rfl (hb hby d1_122) rfl k) ?_
  refine gStatic (W := 2) (argsL := [(.ref t), (.int (6 : Int32)), (.int pos), (.int cc), (.int f)]) (rest := [(.int (6 : Int32)), (.ref a)]) N50 hx hZ hown (hw _ (List.mem_of_getElem? (i := 14) rfl)) (hw _ (List.mem_of_getElem? (i := 15) rfl)) (hw _ (List.mem_of_getElem? (i := 12) rfl)) (hw _ (List.mem_of_getElem? (i := 16) rfl)) (by decide) ((rmAt l Z a0 hw t 6 pos cc f ct h49 N50.ext G (S.ext X54) (nle rfl) hc hf).back (W := 2) hZ (hw _ (List.mem_of_getElem? (i := 16) rfl)) (hw _ (List.mem_of_getElem? (i := 12) rfl)) (nle rfl) (nle rfl)) (hb hby d1_124) rfl (by rw [hml]; rfl) (lenOf (by decide +kernel : parseMethodDescriptor "(Ljava/lang/String;IICC)C" = some ⟨[(.object "java/lang/String"), .int, .int, .char, .char], (some .char)⟩) rfl) (nle rfl) (nle rfl) (nle rfl) (fun _ _ _ q => q.2) ?_
  rintro _ T55 _ _ N56 ⟨⟨rfl, e_h⟩, -⟩; rw [e_h] at N56; clear e_h
  show Ends p e below _ T55 (mkF m 127 #[.val (.ref a), .val (.ref t), .val (.int pos), .val (.int cc), .val (.int f)] [(.int (fAt ct 6 pos cc f)), (.int (6 : Int32)), (.ref a)])
  refine gStC 6 N56 hx hZ V53 gz (by decide) rfl (nle rfl) (hb hby d1_127) ?_
  intro T57 h58 N59 W60 V61
  rw [nar_ok (at_ok (i := 6) (pos := pos) hc hf S.2.2.2.1)] at V61
  have V62 : Arv Z h58 a kA .char (9 : Int32) [(.int (fAt ct 0 pos cc f)), (.int (fAt ct 1 pos cc f)), (.int (fAt ct 2 pos cc f)), (.int (fAt ct 3 pos cc f)), (.int (fAt ct 4 pos cc f)), (.int (fAt ct 5 pos cc f)), (.int (fAt ct 6 pos cc f)), (.int (0 : Int32)), (.int (0 : Int32))] (.int (0 : Int32)) := V61
  have X63 : Ext ht h58 := ext_wr X54 W60 ga
  show Ends p e below _ T57 (mkF m 128 #[.val (.ref a), .val (.ref t), .val (.int pos), .val (.int cc), .val (.int f)] [])
  refine Ends.go (f' := (mkF m 129 #[.val (.ref a), .val (.ref t), .val (.int pos), .val (.int cc), .val (.int f)] [(.ref a)])) (fun t k => XS.aloadN N59.here hx rfl (hb hby d1_128) rfl rfl k) ?_
  refine gLen N59 hx hZ V62 (hb hby d1_129) ?_
  show Ends p e below _ T57 (mkF m 130 #[.val (.ref a), .val (.ref t), .val (.int pos), .val (.int cc), .val (.int f)] [(.int (9 : Int32))])
  refine Ends.go (f' := (mkF m 132 #[.val (.ref a), .val (.ref t), .val (.int pos), .val (.int cc), .val (.int f)] [(.int (7 : Int32)), (.int (9 : Int32))])) (fun t k => XS.bipush N59.here hx rfl (hb hby d1_130) k) ?_
  refine Ends.go (f' := (mkF m 135 #[.val (.ref a), .val (.ref t), .val (.int pos), .val (.int cc), .val (.int f)] [])) (fun t k => XS.icmpNo N59.here hx rfl (hb hby d1_132) rfl (XT.ii_le_f (by decide)) k) ?_
  refine Ends.go (f' := (mkF m 136 #[.val (.ref a), .val (.ref t), .val (.int pos), .val (.int cc), .val (.int f)] [(.ref a)])) (fun t k => XS.aloadN N59.here hx rfl (hb hby d1_135) rfl rfl k) ?_
  refine Ends.go (f' := (mkF m 138 #[.val (.ref a), .val (.ref t), .val (.int pos), .val (.int cc), .val (.int f)] [(.int (7 : Int32)), (.ref a)])) (fun t k => XS.bipush N59.here hx rfl (hb hby d1_136) k) ?_
  refine Ends.go (f' := (mkF m 139 #[.val (.ref a), .val (.ref t), .val (.int pos), .val (.int cc), .val (.int f)] [(.ref t), (.int (7 : Int32)), (.ref a)])) (fun t k => XS.aloadN N59.here hx rfl (hb hby d1_138) rfl rfl k) ?_
  refine Ends.go (f' := (mkF m 141 #[.val (.ref a), .val (.ref t), .val (.int pos), .val (.int cc), .val (.int f)] [(.int (7 : Int32)), (.ref t), (.int (7 : Int32)), (.ref a)])) (fun t k => XS.bipush N59.here hx rfl (hb hby d1_139) k) ?_
  refine Ends.go (f' := (mkF m 142 #[.val (.ref a), .val (.ref t), .val (.int pos), .val (.int cc), .val (.int f)] [(.int pos), (.int (7 : Int32)), (.ref t), (.int (7 : Int32)), (.ref a)])) (fun t k => XS.iloadN N59.here hx rfl (hb hby d1_141) rfl k) ?_
  refine Ends.go (f' := (mkF m 143 #[.val (.ref a), .val (.ref t), .val (.int pos), .val (.int cc), .val (.int f)] [(.int cc), (.int pos), (.int (7 : Int32)), (.ref t), (.int (7 : Int32)), (.ref a)])) (fun t k => XS.iloadN N59.here hx rfl (hb hby d1_142) rfl k) ?_
  refine Ends.go (f' := (mkF m 145 #[.val (.ref a), .val (.ref t), .val (.int pos), .val (.int cc), .val (.int f)] [(.int f), (.int cc), (.int pos), (.int (7 : Int32)), (.ref t), (.int (7 : Int32)), (.ref a)])) (fun t k => XS.iload N59.here hx rfl (hb hby d1_143) rfl k) ?_
  refine gStatic (W := 2) (argsL := [(.ref t), (.int (7 : Int32)), (.int pos), (.int cc), (.int f)]) (rest := [(.int (7 : Int32)), (.ref a)]) N59 hx hZ hown (hw _ (List.mem_of_getElem? (i := 14) rfl)) (hw _ (List.mem_of_getElem? (i := 15) rfl)) (hw _ (List.mem_of_getElem? (i := 12) rfl)) (hw _ (List.mem_of_getElem? (i := 16) rfl)) (by decide) ((rmAt l Z a0 hw t 7 pos cc f ct h58 N59.ext G (S.ext X63) (nle rfl) hc hf).back (W := 2) hZ (hw _ (List.mem_of_getElem? (i := 16) rfl)) (hw _ (List.mem_of_getElem? (i := 12) rfl)) (nle rfl) (nle rfl)) (hb hby d1_145) rfl (by rw [hml]; rfl) (lenOf (by decide +kernel : parseMethodDescriptor "(Ljava/lang/String;IICC)C" = some ⟨[(.object "java/lang/String"), .int, .int, .char, .char], (some .char)⟩) rfl) (nle rfl) (nle rfl) (nle rfl) (fun _ _ _ q => q.2) ?_
  rintro _ T64 _ _ N65 ⟨⟨rfl, e_h⟩, -⟩; rw [e_h] at N65; clear e_h
  show Ends p e below _ T64 (mkF m 148 #[.val (.ref a), .val (.ref t), .val (.int pos), .val (.int cc), .val (.int f)] [(.int (fAt ct 7 pos cc f)), (.int (7 : Int32)), (.ref a)])
  refine gStC 7 N65 hx hZ V62 gz (by decide) rfl (nle rfl) (hb hby d1_148) ?_
  intro T66 h67 N68 W69 V70
  rw [nar_ok (at_ok (i := 7) (pos := pos) hc hf S.2.2.2.1)] at V70
  have V71 : Arv Z h67 a kA .char (9 : Int32) [(.int (fAt ct 0 pos cc f)), (.int (fAt ct 1 pos cc f)), (.int (fAt ct 2 pos cc f)), (.int (fAt ct 3 pos cc f)), (.int (fAt ct 4 pos cc f)), (.int (fAt ct 5 pos cc f)), (.int (fAt ct 6 pos cc f)), (.int (fAt ct 7 pos cc f)), (.int (0 : Int32))] (.int (0 : Int32)) := V70
  have X72 : Ext ht h67 := ext_wr X63 W69 ga
  show Ends p e below _ T66 (mkF m 149 #[.val (.ref a), .val (.ref t), .val (.int pos), .val (.int cc), .val (.int f)] [])
  refine Ends.go (f' := (mkF m 150 #[.val (.ref a), .val (.ref t), .val (.int pos), .val (.int cc), .val (.int f)] [(.ref a)])) (fun t k => XS.aloadN N68.here hx rfl (hb hby d1_149) rfl rfl k) ?_
  refine gLen N68 hx hZ V71 (hb hby d1_150) ?_
  show Ends p e below _ T66 (mkF m 151 #[.val (.ref a), .val (.ref t), .val (.int pos), .val (.int cc), .val (.int f)] [(.int (9 : Int32))])
  refine Ends.go (f' := (mkF m 153 #[.val (.ref a), .val (.ref t), .val (.int pos), .val (.int cc), .val (.int f)] [(.int (8 : Int32)), (.int (9 : Int32))])) (fun t k => XS.bipush N68.here hx rfl (hb hby d1_151) k) ?_
  refine Ends.go (f' := (mkF m 156 #[.val (.ref a), .val (.ref t), .val (.int pos), .val (.int cc), .val (.int f)] [])) (fun t k => XS.icmpNo N68.here hx rfl (hb hby d1_153) rfl (XT.ii_le_f (by decide)) k) ?_
  refine Ends.go (f' := (mkF m 157 #[.val (.ref a), .val (.ref t), .val (.int pos), .val (.int cc), .val (.int f)] [(.ref a)])) (fun t k => XS.aloadN N68.here hx rfl (hb hby d1_156) rfl rfl k) ?_
  refine Ends.go (f' := (mkF m 159 #[.val (.ref a), .val (.ref t), .val (.int pos), .val (.int cc), .val (.int f)] [(.int (8 : Int32)), (.ref a)])) (fun t k => XS.bipush N68.here hx rfl (hb hby d1_157) k) ?_
  refine Ends.go (f' := (mkF m 160 #[.val (.ref a), .val (.ref t), .val (.int pos), .val (.int cc), .val (.int f)] [(.ref t), (.int (8 : Int32)), (.ref a)])) (fun t k => XS.aloadN N68.here hx rfl (hb hby d1_159) rfl rfl k) ?_
  refine Ends.go (f' := (mkF m 162 #[.val (.ref a), .val (.ref t), .val (.int pos), .val (.int cc), .val (.int f)] [(.int (8 : Int32)), (.ref t), (.int (8 : Int32)), (.ref a)])) (fun t k => XS.bipush N68.here hx rfl (hb hby d1_160) k) ?_
  refine Ends.go (f' := (mkF m 163 #[.val (.ref a), .val (.ref t), .val (.int pos), .val (.int cc), .val (.int f)] [(.int pos), (.int (8 : Int32)), (.ref t), (.int (8 : Int32)), (.ref a)])) (fun t k => XS.iloadN N68.here hx rfl (hb hby d1_162) rfl k) ?_
  refine Ends.go (f' := (mkF m 164 #[.val (.ref a), .val (.ref t), .val (.int pos), .val (.int cc), .val (.int f)] [(.int cc), (.int pos), (.int (8 : Int32)), (.ref t), (.int (8 : Int32)), (.ref a)])) (fun t k => XS.iloadN N68.here hx rfl (hb hby d1_163) rfl k) ?_
  refine Ends.go (f' := (mkF m 166 #[.val (.ref a), .val (.ref t), .val (.int pos), .val (.int cc), .val (.int f)] [(.int f), (.int cc), (.int pos), (.int (8 : Int32)), (.ref t), (.int (8 : Int32)), (.ref a)])) (fun t k => XS.iload N68.here hx rfl (hb hby d1_164) rfl k) ?_
  refine gStatic (W := 2) (argsL := [(.ref t), (.int (8 : Int32)), (.int pos), (.int cc), (.int f)]) (rest := [(.int (8 : Int32)), (.ref a)]) N68 hx hZ hown (hw _ (List.mem_of_getElem? (i := 14) rfl)) (hw _ (List.mem_of_getElem? (i := 15) rfl)) (hw _ (List.mem_of_getElem? (i := 12) rfl)) (hw _ (List.mem_of_getElem? (i := 16) rfl)) (by decide) ((rmAt l Z a0 hw t 8 pos cc f ct h67 N68.ext G (S.ext X72) (nle rfl) hc hf).back (W := 2) hZ (hw _ (List.mem_of_getElem? (i := 16) rfl)) (hw _ (List.mem_of_getElem? (i := 12) rfl)) (nle rfl) (nle rfl)) (hb hby d1_166) rfl (by rw [hml]; rfl) (lenOf (by decide +kernel : parseMethodDescriptor "(Ljava/lang/String;IICC)C" = some ⟨[(.object "java/lang/String"), .int, .int, .char, .char], (some .char)⟩) rfl) (nle rfl) (nle rfl) (nle rfl) (fun _ _ _ q => q.2) ?_
  rintro _ T73 _ _ N74 ⟨⟨rfl, e_h⟩, -⟩; rw [e_h] at N74; clear e_h
  show Ends p e below _ T73 (mkF m 169 #[.val (.ref a), .val (.ref t), .val (.int pos), .val (.int cc), .val (.int f)] [(.int (fAt ct 8 pos cc f)), (.int (8 : Int32)), (.ref a)])
  refine gStC 8 N74 hx hZ V71 gz (by decide) rfl (nle rfl) (hb hby d1_169) ?_
  intro T75 h76 N77 W78 V79
  rw [nar_ok (at_ok (i := 8) (pos := pos) hc hf S.2.2.2.1)] at V79
  have V80 : Arv Z h76 a kA .char (9 : Int32) [(.int (fAt ct 0 pos cc f)), (.int (fAt ct 1 pos cc f)), (.int (fAt ct 2 pos cc f)), (.int (fAt ct 3 pos cc f)), (.int (fAt ct 4 pos cc f)), (.int (fAt ct 5 pos cc f)), (.int (fAt ct 6 pos cc f)), (.int (fAt ct 7 pos cc f)), (.int (fAt ct 8 pos cc f))] (.int (0 : Int32)) := V79
  have X81 : Ext ht h76 := ext_wr X72 W78 ga
  show Ends p e below _ T75 (mkF m 170 #[.val (.ref a), .val (.ref t), .val (.int pos), .val (.int cc), .val (.int f)] [])
  refine Ends.go (f' := (mkF m 171 #[.val (.ref a), .val (.ref t), .val (.int pos), .val (.int cc), .val (.int f)] [(.ref a)])) (fun t k => XS.aloadN N77.here hx rfl (hb hby d1_170) rfl rfl k) ?_
  refine gLen N77 hx hZ V80 (hb hby d1_171) ?_
  show Ends p e below _ T75 (mkF m 172 #[.val (.ref a), .val (.ref t), .val (.int pos), .val (.int cc), .val (.int f)] [(.int (9 : Int32))])
  refine Ends.go (f' := (mkF m 174 #[.val (.ref a), .val (.ref t), .val (.int pos), .val (.int cc), .val (.int f)] [(.int (9 : Int32)), (.int (9 : Int32))])) (fun t k => XS.bipush N77.here hx rfl (hb hby d1_172) k) ?_
  refine Ends.go (f' := (mkF m 191 #[.val (.ref a), .val (.ref t), .val (.int pos), .val (.int cc), .val (.int f)] [])) (fun t k => XS.icmpYes N77.here hx rfl (pc0 := 174) (pc' := 191) rfl (hb hby d1_174) rfl (XT.ii_le_t (by decide)) (by decide) (by decide) k) ?_
  exact retV N77 hx hlk hret (hb hby d1_191) ⟨rfl, ((((((((((Keep.refl h0 [a]).wr W6 (Or.inl (List.mem_singleton.mpr rfl))).wr W15 (Or.inl (List.mem_singleton.mpr rfl))).wr W24 (Or.inl (List.mem_singleton.mpr rfl))).wr W33 (Or.inl (List.mem_singleton.mpr rfl))).wr W42 (Or.inl (List.mem_singleton.mpr rfl))).wr W51 (Or.inl (List.mem_singleton.mpr rfl))).wr W60 (Or.inl (List.mem_singleton.mpr rfl))).wr W69 (Or.inl (List.mem_singleton.mpr rfl))).wr W78 (Or.inl (List.mem_singleton.mpr rfl))), V80⟩ (nle rfl) (nle rfl)
set_option maxRecDepth 65536 in
set_option maxHeartbeats 40000000 in
theorem rmFill10 (l : Launch) (Z : State) (a0 : Array Value) (hw : ∀ d ∈ tables_1, d.before a0 Z = true) (a t : Addr) (kA : ClassId) (pos cc f : Int32) (ct : List Int32) (ht : Heap) (h0 : Heap) (Z0 : Ext Z.heap h0) (G : Jdk Z) (Et : Ext ht h0) (S : Str Z ht t ct) (ga : ht.size ≤ a) (gz : Z.heap.size ≤ a) (V : Arv Z h0 a kA .char (10 : Int32) [(.int (0 : Int32)), (.int (0 : Int32)), (.int (0 : Int32)), (.int (0 : Int32)), (.int (0 : Int32)), (.int (0 : Int32)), (.int (0 : Int32)), (.int (0 : Int32)), (.int (0 : Int32)), (.int (0 : Int32))] (.int (0 : Int32))) (hc : ¬ cc < 0 ∧ ¬ (255 : Int32) < cc) (hf : ¬ f < 0 ∧ ¬ (255 : Int32) < f) :
    MetN l Z (⟨"com/example/waypost/waypost/cli/ContentOptionsIsContentOptionPinLaw", "fill", "([CLjava/lang/String;ICC)V"⟩ : MethodName) method_4_code 5 none [] ({ frames := 5, cells := 0, slots := 0, locals := 71 } : Room) #[(.ref a), (.ref t), (.int pos), (.int cc), (.int f)] h0 (fun v h => v = none ∧ Keep h0 h [a] ∧ Arv Z h a kA .char (10 : Int32) [(.int (fAt ct 0 pos cc f)), (.int (fAt ct 1 pos cc f)), (.int (fAt ct 2 pos cc f)), (.int (fAt ct 3 pos cc f)), (.int (fAt ct 4 pos cc f)), (.int (fAt ct 5 pos cc f)), (.int (fAt ct 6 pos cc f)), (.int (fAt ct 7 pos cc f)), (.int (fAt ct 8 pos cc f)), (.int (fAt ct 9 pos cc f))] (.int (0 : Int32))) := by
  refine metN (by first | exact plainFor_of_name (by first | (simp [plainName, overriddenIn]; done) | decide +kernel) | decide +kernel) Z0 (Ls := #[.val (.ref a), .val (.ref t), .val (.int pos), .val (.int cc), .val (.int f)]) (fun m => by first | (simp [entryFrame, mkF, argsToLocals, Value.category]; done) | rfl) ?_
  intro p e s m below meth c T0 hx hby hml hret hlk hown hnm hZ N0
  refine Ends.go (f' := (mkF m 1 #[.val (.ref a), .val (.ref t), .val (.int pos), .val (.int cc), .val (.int f)] [(.ref a)])) (fun t k => XS.aloadN N0.here hx rfl (hb hby d1_0) rfl rfl k) ?_
  refine gLen N0 hx hZ V (hb hby d1_1) ?_
  show Ends p e below _ T0 (mkF m 2 #[.val (.ref a), .val (.ref t), .val (.int pos), .val (.int cc), .val (.int f)] [(.int (10 : Int32))])
  refine Ends.go (f' := (mkF m 5 #[.val (.ref a), .val (.ref t), .val (.int pos), .val (.int cc), .val (.int f)] [])) (fun t k => XS.ifNo N0.here hx rfl (hb hby d1_2) rfl (XT.i0_le_f (by decide)) k) ?_
  refine Ends.go (f' := (mkF m 6 #[.val (.ref a), .val (.ref t), .val (.int pos), .val (.int cc), .val (.int f)] [(.ref a)])) (fun t k => XS.aloadN N0.here hx rfl (hb hby d1_5) rfl rfl k) ?_
  refine Ends.go (f' := (mkF m 7 #[.val (.ref a), .val (.ref t), .val (.int pos), .val (.int cc), .val (.int f)] [(.int (0 : Int32)), (.ref a)])) (fun t k => XS.iconst N0.here hx rfl (hb hby d1_6) k) ?_
  refine Ends.go (f' := (mkF m 8 #[.val (.ref a), .val (.ref t), .val (.int pos), .val (.int cc), .val (.int f)] [(.ref t), (.int (0 : Int32)), (.ref a)])) (fun t k => XS.aloadN N0.here hx rfl (hb hby d1_7) rfl rfl k) ?_
  refine Ends.go (f' := (mkF m 9 #[.val (.ref a), .val (.ref t), .val (.int pos), .val (.int cc), .val (.int f)] [(.int (0 : Int32)), (.ref t), (.int (0 : Int32)), (.ref a)])) (fun t k => XS.iconst N0.here hx rfl (hb hby d1_8) k) ?_
  refine Ends.go (f' := (mkF m 10 #[.val (.ref a), .val (.ref t), .val (.int pos), .val (.int cc), .val (.int f)] [(.int pos), (.int (0 : Int32)), (.ref t), (.int (0 : Int32)), (.ref a)])) (fun t k => XS.iloadN N0.here hx rfl (hb hby d1_9) rfl k) ?_
  refine Ends.go (f' := (mkF m 11 #[.val (.ref a), .val (.ref t), .val (.int pos), .val (.int cc), .val (.int f)] [(.int cc), (.int pos), (.int (0 : Int32)), (.ref t), (.int (0 : Int32)), (.ref a)])) (fun t k => XS.iloadN N0.here hx rfl (hb hby d1_10) rfl k) ?_
  refine Ends.go (f' := (mkF m 13 #[.val (.ref a), .val (.ref t), .val (.int pos), .val (.int cc), .val (.int f)] [(.int f), (.int cc), (.int pos), (.int (0 : Int32)), (.ref t), (.int (0 : Int32)), (.ref a)])) (fun t k => XS.iload N0.here hx rfl (hb hby d1_11) rfl k) ?_
  refine gStatic (W := 2) (argsL := [(.ref t), (.int (0 : Int32)), (.int pos), (.int cc), (.int f)]) (rest := [(.int (0 : Int32)), (.ref a)]) N0 hx hZ hown (hw _ (List.mem_of_getElem? (i := 14) rfl)) (hw _ (List.mem_of_getElem? (i := 15) rfl)) (hw _ (List.mem_of_getElem? (i := 12) rfl)) (hw _ (List.mem_of_getElem? (i := 16) rfl)) (by decide) ((rmAt l Z a0 hw t 0 pos cc f ct h0 N0.ext G (S.ext Et) (nle rfl) hc hf).back (W := 2) hZ (hw _ (List.mem_of_getElem? (i := 16) rfl)) (hw _ (List.mem_of_getElem? (i := 12) rfl)) (nle rfl) (nle rfl)) (hb hby d1_13) rfl (by rw [hml]; rfl) (lenOf (by decide +kernel : parseMethodDescriptor "(Ljava/lang/String;IICC)C" = some ⟨[(.object "java/lang/String"), .int, .int, .char, .char], (some .char)⟩) rfl) (nle rfl) (nle rfl) (nle rfl) (fun _ _ _ q => q.2) ?_
  rintro _ T1 _ _ N2 ⟨⟨rfl, e_h⟩, -⟩; rw [e_h] at N2; clear e_h
  show Ends p e below _ T1 (mkF m 16 #[.val (.ref a), .val (.ref t), .val (.int pos), .val (.int cc), .val (.int f)] [(.int (fAt ct 0 pos cc f)), (.int (0 : Int32)), (.ref a)])
  refine gStC 0 N2 hx hZ V gz (by decide) rfl (nle rfl) (hb hby d1_16) ?_
  intro T3 h4 N5 W6 V7
  rw [nar_ok (at_ok (i := 0) (pos := pos) hc hf S.2.2.2.1)] at V7
  have V8 : Arv Z h4 a kA .char (10 : Int32) [(.int (fAt ct 0 pos cc f)), (.int (0 : Int32)), (.int (0 : Int32)), (.int (0 : Int32)), (.int (0 : Int32)), (.int (0 : Int32)), (.int (0 : Int32)), (.int (0 : Int32)), (.int (0 : Int32)), (.int (0 : Int32))] (.int (0 : Int32)) := V7
  have X9 : Ext ht h4 := ext_wr Et W6 ga
  show Ends p e below _ T3 (mkF m 17 #[.val (.ref a), .val (.ref t), .val (.int pos), .val (.int cc), .val (.int f)] [])
  refine Ends.go (f' := (mkF m 18 #[.val (.ref a), .val (.ref t), .val (.int pos), .val (.int cc), .val (.int f)] [(.ref a)])) (fun t k => XS.aloadN N5.here hx rfl (hb hby d1_17) rfl rfl k) ?_
  refine gLen N5 hx hZ V8 (hb hby d1_18) ?_
  show Ends p e below _ T3 (mkF m 19 #[.val (.ref a), .val (.ref t), .val (.int pos), .val (.int cc), .val (.int f)] [(.int (10 : Int32))])
  refine Ends.go (f' := (mkF m 20 #[.val (.ref a), .val (.ref t), .val (.int pos), .val (.int cc), .val (.int f)] [(.int (1 : Int32)), (.int (10 : Int32))])) (fun t k => XS.iconst N5.here hx rfl (hb hby d1_19) k) ?_
  refine Ends.go (f' := (mkF m 23 #[.val (.ref a), .val (.ref t), .val (.int pos), .val (.int cc), .val (.int f)] [])) (fun t k => XS.icmpNo N5.here hx rfl (hb hby d1_20) rfl (XT.ii_le_f (by decide)) k) ?_
  refine Ends.go (f' := (mkF m 24 #[.val (.ref a), .val (.ref t), .val (.int pos), .val (.int cc), .val (.int f)] [(.ref a)])) (fun t k => XS.aloadN N5.here hx rfl (hb hby d1_23) rfl rfl k) ?_
  refine Ends.go (f' := (mkF m 25 #[.val (.ref a), .val (.ref t), .val (.int pos), .val (.int cc), .val (.int f)] [(.int (1 : Int32)), (.ref a)])) (fun t k => XS.iconst N5.here hx rfl (hb hby d1_24) k) ?_
  refine Ends.go (f' := (mkF m 26 #[.val (.ref a), .val (.ref t), .val (.int pos), .val (.int cc), .val (.int f)] [(.ref t), (.int (1 : Int32)), (.ref a)])) (fun t k => XS.aloadN N5.here hx rfl (hb hby d1_25) rfl rfl k) ?_
  refine Ends.go (f' := (mkF m 27 #[.val (.ref a), .val (.ref t), .val (.int pos), .val (.int cc), .val (.int f)] [(.int (1 : Int32)), (.ref t), (.int (1 : Int32)), (.ref a)])) (fun t k => XS.iconst N5.here hx rfl (hb hby d1_26) k) ?_
  refine Ends.go (f' := (mkF m 28 #[.val (.ref a), .val (.ref t), .val (.int pos), .val (.int cc), .val (.int f)] [(.int pos), (.int (1 : Int32)), (.ref t), (.int (1 : Int32)), (.ref a)])) (fun t k => XS.iloadN N5.here hx rfl (hb hby d1_27) rfl k) ?_
  refine Ends.go (f' := (mkF m 29 #[.val (.ref a), .val (.ref t), .val (.int pos), .val (.int cc), .val (.int f)] [(.int cc), (.int pos), (.int (1 : Int32)), (.ref t), (.int (1 : Int32)), (.ref a)])) (fun t k => XS.iloadN N5.here hx rfl (hb hby d1_28) rfl k) ?_
  refine Ends.go (f' := (mkF m 31 #[.val (.ref a), .val (.ref t), .val (.int pos), .val (.int cc), .val (.int f)] [(.int f), (.int cc), (.int pos), (.int (1 : Int32)), (.ref t), (.int (1 : Int32)), (.ref a)])) (fun t k => XS.iload N5.here hx rfl (hb hby d1_29) rfl k) ?_
  refine gStatic (W := 2) (argsL := [(.ref t), (.int (1 : Int32)), (.int pos), (.int cc), (.int f)]) (rest := [(.int (1 : Int32)), (.ref a)]) N5 hx hZ hown (hw _ (List.mem_of_getElem? (i := 14) rfl)) (hw _ (List.mem_of_getElem? (i := 15) rfl)) (hw _ (List.mem_of_getElem? (i := 12) rfl)) (hw _ (List.mem_of_getElem? (i := 16) rfl)) (by decide) ((rmAt l Z a0 hw t 1 pos cc f ct h4 N5.ext G (S.ext X9) (nle rfl) hc hf).back (W := 2) hZ (hw _ (List.mem_of_getElem? (i := 16) rfl)) (hw _ (List.mem_of_getElem? (i := 12) rfl)) (nle rfl) (nle rfl)) (hb hby d1_31) rfl (by rw [hml]; rfl) (lenOf (by decide +kernel : parseMethodDescriptor "(Ljava/lang/String;IICC)C" = some ⟨[(.object "java/lang/String"), .int, .int, .char, .char], (some .char)⟩) rfl) (nle rfl) (nle rfl) (nle rfl) (fun _ _ _ q => q.2) ?_
  rintro _ T10 _ _ N11 ⟨⟨rfl, e_h⟩, -⟩; rw [e_h] at N11; clear e_h
  show Ends p e below _ T10 (mkF m 34 #[.val (.ref a), .val (.ref t), .val (.int pos), .val (.int cc), .val (.int f)] [(.int (fAt ct 1 pos cc f)), (.int (1 : Int32)), (.ref a)])
  refine gStC 1 N11 hx hZ V8 gz (by decide) rfl (nle rfl) (hb hby d1_34) ?_
  intro T12 h13 N14 W15 V16
  rw [nar_ok (at_ok (i := 1) (pos := pos) hc hf S.2.2.2.1)] at V16
  have V17 : Arv Z h13 a kA .char (10 : Int32) [(.int (fAt ct 0 pos cc f)), (.int (fAt ct 1 pos cc f)), (.int (0 : Int32)), (.int (0 : Int32)), (.int (0 : Int32)), (.int (0 : Int32)), (.int (0 : Int32)), (.int (0 : Int32)), (.int (0 : Int32)), (.int (0 : Int32))] (.int (0 : Int32)) := V16
  have X18 : Ext ht h13 := ext_wr X9 W15 ga
  show Ends p e below _ T12 (mkF m 35 #[.val (.ref a), .val (.ref t), .val (.int pos), .val (.int cc), .val (.int f)] [])
  refine Ends.go (f' := (mkF m 36 #[.val (.ref a), .val (.ref t), .val (.int pos), .val (.int cc), .val (.int f)] [(.ref a)])) (fun t k => XS.aloadN N14.here hx rfl (hb hby d1_35) rfl rfl k) ?_
  refine gLen N14 hx hZ V17 (hb hby d1_36) ?_
  show Ends p e below _ T12 (mkF m 37 #[.val (.ref a), .val (.ref t), .val (.int pos), .val (.int cc), .val (.int f)] [(.int (10 : Int32))])
  refine Ends.go (f' := (mkF m 38 #[.val (.ref a), .val (.ref t), .val (.int pos), .val (.int cc), .val (.int f)] [(.int (2 : Int32)), (.int (10 : Int32))])) (fun t k => XS.iconst N14.here hx rfl (hb hby d1_37) k) ?_
  refine Ends.go (f' := (mkF m 41 #[.val (.ref a), .val (.ref t), .val (.int pos), .val (.int cc), .val (.int f)] [])) (fun t k => XS.icmpNo N14.here hx rfl (hb hby d1_38) rfl (XT.ii_le_f (by decide)) k) ?_
  refine Ends.go (f' := (mkF m 42 #[.val (.ref a), .val (.ref t), .val (.int pos), .val (.int cc), .val (.int f)] [(.ref a)])) (fun t k => XS.aloadN N14.here hx rfl (hb hby d1_41) rfl rfl k) ?_
  refine Ends.go (f' := (mkF m 43 #[.val (.ref a), .val (.ref t), .val (.int pos), .val (.int cc), .val (.int f)] [(.int (2 : Int32)), (.ref a)])) (fun t k => XS.iconst N14.here hx rfl (hb hby d1_42) k) ?_
  refine Ends.go (f' := (mkF m 44 #[.val (.ref a), .val (.ref t), .val (.int pos), .val (.int cc), .val (.int f)] [(.ref t), (.int (2 : Int32)), (.ref a)])) (fun t k => XS.aloadN N14.here hx rfl (hb hby d1_43) rfl rfl k) ?_
  refine Ends.go (f' := (mkF m 45 #[.val (.ref a), .val (.ref t), .val (.int pos), .val (.int cc), .val (.int f)] [(.int (2 : Int32)), (.ref t), (.int (2 : Int32)), (.ref a)])) (fun t k => XS.iconst N14.here hx rfl (hb hby d1_44) k) ?_
  refine Ends.go (f' := (mkF m 46 #[.val (.ref a), .val (.ref t), .val (.int pos), .val (.int cc), .val (.int f)] [(.int pos), (.int (2 : Int32)), (.ref t), (.int (2 : Int32)), (.ref a)])) (fun t k => XS.iloadN N14.here hx rfl (hb hby d1_45) rfl k) ?_
  refine Ends.go (f' := (mkF m 47 #[.val (.ref a), .val (.ref t), .val (.int pos), .val (.int cc), .val (.int f)] [(.int cc), (.int pos), (.int (2 : Int32)), (.ref t), (.int (2 : Int32)), (.ref a)])) (fun t k => XS.iloadN N14.here hx rfl (hb hby d1_46) rfl k) ?_
  refine Ends.go (f' := (mkF m 49 #[.val (.ref a), .val (.ref t), .val (.int pos), .val (.int cc), .val (.int f)] [(.int f), (.int cc), (.int pos), (.int (2 : Int32)), (.ref t), (.int (2 : Int32)), (.ref a)])) (fun t k => XS.iload N14.here hx rfl (hb hby d1_47) rfl k) ?_
  refine gStatic (W := 2) (argsL := [(.ref t), (.int (2 : Int32)), (.int pos), (.int cc), (.int f)]) (rest := [(.int (2 : Int32)), (.ref a)]) N14 hx hZ hown (hw _ (List.mem_of_getElem? (i := 14) rfl)) (hw _ (List.mem_of_getElem? (i := 15) rfl)) (hw _ (List.mem_of_getElem? (i := 12) rfl)) (hw _ (List.mem_of_getElem? (i := 16) rfl)) (by decide) ((rmAt l Z a0 hw t 2 pos cc f ct h13 N14.ext G (S.ext X18) (nle rfl) hc hf).back (W := 2) hZ (hw _ (List.mem_of_getElem? (i := 16) rfl)) (hw _ (List.mem_of_getElem? (i := 12) rfl)) (nle rfl) (nle rfl)) (hb hby d1_49) rfl (by rw [hml]; rfl) (lenOf (by decide +kernel : parseMethodDescriptor "(Ljava/lang/String;IICC)C" = some ⟨[(.object "java/lang/String"), .int, .int, .char, .char], (some .char)⟩) rfl) (nle rfl) (nle rfl) (nle rfl) (fun _ _ _ q => q.2) ?_
  rintro _ T19 _ _ N20 ⟨⟨rfl, e_h⟩, -⟩; rw [e_h] at N20; clear e_h
  show Ends p e below _ T19 (mkF m 52 #[.val (.ref a), .val (.ref t), .val (.int pos), .val (.int cc), .val (.int f)] [(.int (fAt ct 2 pos cc f)), (.int (2 : Int32)), (.ref a)])
  refine gStC 2 N20 hx hZ V17 gz (by decide) rfl (nle rfl) (hb hby d1_52) ?_
  intro T21 h22 N23 W24 V25
  rw [nar_ok (at_ok (i := 2) (pos := pos) hc hf S.2.2.2.1)] at V25
  have V26 : Arv Z h22 a kA .char (10 : Int32) [(.int (fAt ct 0 pos cc f)), (.int (fAt ct 1 pos cc f)), (.int (fAt ct 2 pos cc f)), (.int (0 : Int32)), (.int (0 : Int32)), (.int (0 : Int32)), (.int (0 : Int32)), (.int (0 : Int32)), (.int (0 : Int32)), (.int (0 : Int32))] (.int (0 : Int32)) := V25
  have X27 : Ext ht h22 := ext_wr X18 W24 ga
  show Ends p e below _ T21 (mkF m 53 #[.val (.ref a), .val (.ref t), .val (.int pos), .val (.int cc), .val (.int f)] [])
  refine Ends.go (f' := (mkF m 54 #[.val (.ref a), .val (.ref t), .val (.int pos), .val (.int cc), .val (.int f)] [(.ref a)])) (fun t k => XS.aloadN N23.here hx rfl (hb hby d1_53) rfl rfl k) ?_
  refine gLen N23 hx hZ V26 (hb hby d1_54) ?_
  show Ends p e below _ T21 (mkF m 55 #[.val (.ref a), .val (.ref t), .val (.int pos), .val (.int cc), .val (.int f)] [(.int (10 : Int32))])
  refine Ends.go (f' := (mkF m 56 #[.val (.ref a), .val (.ref t), .val (.int pos), .val (.int cc), .val (.int f)] [(.int (3 : Int32)), (.int (10 : Int32))])) (fun t k => XS.iconst N23.here hx rfl (hb hby d1_55) k) ?_
  refine Ends.go (f' := (mkF m 59 #[.val (.ref a), .val (.ref t), .val (.int pos), .val (.int cc), .val (.int f)] [])) (fun t k => XS.icmpNo N23.here hx rfl (hb hby d1_56) rfl (XT.ii_le_f (by decide)) k) ?_
  refine Ends.go (f' := (mkF m 60 #[.val (.ref a), .val (.ref t), .val (.int pos), .val (.int cc), .val (.int f)] [(.ref a)])) (fun t k => XS.aloadN N23.here hx rfl (hb hby d1_59) rfl rfl k) ?_
  refine Ends.go (f' := (mkF m 61 #[.val (.ref a), .val (.ref t), .val (.int pos), .val (.int cc), .val (.int f)] [(.int (3 : Int32)), (.ref a)])) (fun t k => XS.iconst N23.here hx rfl (hb hby d1_60) k) ?_
  refine Ends.go (f' := (mkF m 62 #[.val (.ref a), .val (.ref t), .val (.int pos), .val (.int cc), .val (.int f)] [(.ref t), (.int (3 : Int32)), (.ref a)])) (fun t k => XS.aloadN N23.here hx rfl (hb hby d1_61) rfl rfl k) ?_
  refine Ends.go (f' := (mkF m 63 #[.val (.ref a), .val (.ref t), .val (.int pos), .val (.int cc), .val (.int f)] [(.int (3 : Int32)), (.ref t), (.int (3 : Int32)), (.ref a)])) (fun t k => XS.iconst N23.here hx rfl (hb hby d1_62) k) ?_
  refine Ends.go (f' := (mkF m 64 #[.val (.ref a), .val (.ref t), .val (.int pos), .val (.int cc), .val (.int f)] [(.int pos), (.int (3 : Int32)), (.ref t), (.int (3 : Int32)), (.ref a)])) (fun t k => XS.iloadN N23.here hx rfl (hb hby d1_63) rfl k) ?_
  refine Ends.go (f' := (mkF m 65 #[.val (.ref a), .val (.ref t), .val (.int pos), .val (.int cc), .val (.int f)] [(.int cc), (.int pos), (.int (3 : Int32)), (.ref t), (.int (3 : Int32)), (.ref a)])) (fun t k => XS.iloadN N23.here hx rfl (hb hby d1_64) rfl k) ?_
  refine Ends.go (f' := (mkF m 67 #[.val (.ref a), .val (.ref t), .val (.int pos), .val (.int cc), .val (.int f)] [(.int f), (.int cc), (.int pos), (.int (3 : Int32)), (.ref t), (.int (3 : Int32)), (.ref a)])) (fun t k => XS.iload N23.here hx rfl (hb hby d1_65) rfl k) ?_
  refine gStatic (W := 2) (argsL := [(.ref t), (.int (3 : Int32)), (.int pos), (.int cc), (.int f)]) (rest := [(.int (3 : Int32)), (.ref a)]) N23 hx hZ hown (hw _ (List.mem_of_getElem? (i := 14) rfl)) (hw _ (List.mem_of_getElem? (i := 15) rfl)) (hw _ (List.mem_of_getElem? (i := 12) rfl)) (hw _ (List.mem_of_getElem? (i := 16) rfl)) (by decide) ((rmAt l Z a0 hw t 3 pos cc f ct h22 N23.ext G (S.ext X27) (nle rfl) hc hf).back (W := 2) hZ (hw _ (List.mem_of_getElem? (i := 16) rfl)) (hw _ (List.mem_of_getElem? (i := 12) rfl)) (nle rfl) (nle rfl)) (hb hby d1_67) rfl (by rw [hml]; rfl) (lenOf (by decide +kernel : parseMethodDescriptor "(Ljava/lang/String;IICC)C" = some ⟨[(.object "java/lang/String"), .int, .int, .char, .char], (some .char)⟩) rfl) (nle rfl) (nle rfl) (nle rfl) (fun _ _ _ q => q.2) ?_
  rintro _ T28 _ _ N29 ⟨⟨rfl, e_h⟩, -⟩; rw [e_h] at N29; clear e_h
  show Ends p e below _ T28 (mkF m 70 #[.val (.ref a), .val (.ref t), .val (.int pos), .val (.int cc), .val (.int f)] [(.int (fAt ct 3 pos cc f)), (.int (3 : Int32)), (.ref a)])
  refine gStC 3 N29 hx hZ V26 gz (by decide) rfl (nle rfl) (hb hby d1_70) ?_
  intro T30 h31 N32 W33 V34
  rw [nar_ok (at_ok (i := 3) (pos := pos) hc hf S.2.2.2.1)] at V34
  have V35 : Arv Z h31 a kA .char (10 : Int32) [(.int (fAt ct 0 pos cc f)), (.int (fAt ct 1 pos cc f)), (.int (fAt ct 2 pos cc f)), (.int (fAt ct 3 pos cc f)), (.int (0 : Int32)), (.int (0 : Int32)), (.int (0 : Int32)), (.int (0 : Int32)), (.int (0 : Int32)), (.int (0 : Int32))] (.int (0 : Int32)) := V34
  have X36 : Ext ht h31 := ext_wr X27 W33 ga
  show Ends p e below _ T30 (mkF m 71 #[.val (.ref a), .val (.ref t), .val (.int pos), .val (.int cc), .val (.int f)] [])
  refine Ends.go (f' := (mkF m 72 #[.val (.ref a), .val (.ref t), .val (.int pos), .val (.int cc), .val (.int f)] [(.ref a)])) (fun t k => XS.aloadN N32.here hx rfl (hb hby d1_71) rfl rfl k) ?_
  refine gLen N32 hx hZ V35 (hb hby d1_72) ?_
  show Ends p e below _ T30 (mkF m 73 #[.val (.ref a), .val (.ref t), .val (.int pos), .val (.int cc), .val (.int f)] [(.int (10 : Int32))])
  refine Ends.go (f' := (mkF m 74 #[.val (.ref a), .val (.ref t), .val (.int pos), .val (.int cc), .val (.int f)] [(.int (4 : Int32)), (.int (10 : Int32))])) (fun t k => XS.iconst N32.here hx rfl (hb hby d1_73) k) ?_
  refine Ends.go (f' := (mkF m 77 #[.val (.ref a), .val (.ref t), .val (.int pos), .val (.int cc), .val (.int f)] [])) (fun t k => XS.icmpNo N32.here hx rfl (hb hby d1_74) rfl (XT.ii_le_f (by decide)) k) ?_
  refine Ends.go (f' := (mkF m 78 #[.val (.ref a), .val (.ref t), .val (.int pos), .val (.int cc), .val (.int f)] [(.ref a)])) (fun t k => XS.aloadN N32.here hx rfl (hb hby d1_77) rfl rfl k) ?_
  refine Ends.go (f' := (mkF m 79 #[.val (.ref a), .val (.ref t), .val (.int pos), .val (.int cc), .val (.int f)] [(.int (4 : Int32)), (.ref a)])) (fun t k => XS.iconst N32.here hx rfl (hb hby d1_78) k) ?_
  refine Ends.go (f' := (mkF m 80 #[.val (.ref a), .val (.ref t), .val (.int pos), .val (.int cc), .val (.int f)] [(.ref t), (.int (4 : Int32)), (.ref a)])) (fun t k => XS.aloadN N32.here hx rfl (hb hby d1_79) rfl rfl k) ?_
  refine Ends.go (f' := (mkF m 81 #[.val (.ref a), .val (.ref t), .val (.int pos), .val (.int cc), .val (.int f)] [(.int (4 : Int32)), (.ref t), (.int (4 : Int32)), (.ref a)])) (fun t k => XS.iconst N32.here hx rfl (hb hby d1_80) k) ?_
  refine Ends.go (f' := (mkF m 82 #[.val (.ref a), .val (.ref t), .val (.int pos), .val (.int cc), .val (.int f)] [(.int pos), (.int (4 : Int32)), (.ref t), (.int (4 : Int32)), (.ref a)])) (fun t k => XS.iloadN N32.here hx rfl (hb hby d1_81) rfl k) ?_
  refine Ends.go (f' := (mkF m 83 #[.val (.ref a), .val (.ref t), .val (.int pos), .val (.int cc), .val (.int f)] [(.int cc), (.int pos), (.int (4 : Int32)), (.ref t), (.int (4 : Int32)), (.ref a)])) (fun t k => XS.iloadN N32.here hx rfl (hb hby d1_82) rfl k) ?_
  refine Ends.go (f' := (mkF m 85 #[.val (.ref a), .val (.ref t), .val (.int pos), .val (.int cc), .val (.int f)] [(.int f), (.int cc), (.int pos), (.int (4 : Int32)), (.ref t), (.int (4 : Int32)), (.ref a)])) (fun t k => XS.iload N32.here hx rfl (hb hby d1_83) rfl k) ?_
  refine gStatic (W := 2) (argsL := [(.ref t), (.int (4 : Int32)), (.int pos), (.int cc), (.int f)]) (rest := [(.int (4 : Int32)), (.ref a)]) N32 hx hZ hown (hw _ (List.mem_of_getElem? (i := 14) rfl)) (hw _ (List.mem_of_getElem? (i := 15) rfl)) (hw _ (List.mem_of_getElem? (i := 12) rfl)) (hw _ (List.mem_of_getElem? (i := 16) rfl)) (by decide) ((rmAt l Z a0 hw t 4 pos cc f ct h31 N32.ext G (S.ext X36) (nle rfl) hc hf).back (W := 2) hZ (hw _ (List.mem_of_getElem? (i := 16) rfl)) (hw _ (List.mem_of_getElem? (i := 12) rfl)) (nle rfl) (nle rfl)) (hb hby d1_85) rfl (by rw [hml]; rfl) (lenOf (by decide +kernel : parseMethodDescriptor "(Ljava/lang/String;IICC)C" = some ⟨[(.object "java/lang/String"), .int, .int, .char, .char], (some .char)⟩) rfl) (nle rfl) (nle rfl) (nle rfl) (fun _ _ _ q => q.2) ?_
  rintro _ T37 _ _ N38 ⟨⟨rfl, e_h⟩, -⟩; rw [e_h] at N38; clear e_h
  show Ends p e below _ T37 (mkF m 88 #[.val (.ref a), .val (.ref t), .val (.int pos), .val (.int cc), .val (.int f)] [(.int (fAt ct 4 pos cc f)), (.int (4 : Int32)), (.ref a)])
  refine gStC 4 N38 hx hZ V35 gz (by decide) rfl (nle rfl) (hb hby d1_88) ?_
  intro T39 h40 N41 W42 V43
  rw [nar_ok (at_ok (i := 4) (pos := pos) hc hf S.2.2.2.1)] at V43
  have V44 : Arv Z h40 a kA .char (10 : Int32) [(.int (fAt ct 0 pos cc f)), (.int (fAt ct 1 pos cc f)), (.int (fAt ct 2 pos cc f)), (.int (fAt ct 3 pos cc f)), (.int (fAt ct 4 pos cc f)), (.int (0 : Int32)), (.int (0 : Int32)), (.int (0 : Int32)), (.int (0 : Int32)), (.int (0 : Int32))] (.int (0 : Int32)) := V43
  have X45 : Ext ht h40 := ext_wr X36 W42 ga
  show Ends p e below _ T39 (mkF m 89 #[.val (.ref a), .val (.ref t), .val (.int pos), .val (.int cc), .val (.int f)] [])
  refine Ends.go (f' := (mkF m 90 #[.val (.ref a), .val (.ref t), .val (.int pos), .val (.int cc), .val (.int f)] [(.ref a)])) (fun t k => XS.aloadN N41.here hx rfl (hb hby d1_89) rfl rfl k) ?_
  refine gLen N41 hx hZ V44 (hb hby d1_90) ?_
  show Ends p e below _ T39 (mkF m 91 #[.val (.ref a), .val (.ref t), .val (.int pos), .val (.int cc), .val (.int f)] [(.int (10 : Int32))])
  refine Ends.go (f' := (mkF m 92 #[.val (.ref a), .val (.ref t), .val (.int pos), .val (.int cc), .val (.int f)] [(.int (5 : Int32)), (.int (10 : Int32))])) (fun t k => XS.iconst N41.here hx rfl (hb hby d1_91) k) ?_
  refine Ends.go (f' := (mkF m 95 #[.val (.ref a), .val (.ref t), .val (.int pos), .val (.int cc), .val (.int f)] [])) (fun t k => XS.icmpNo N41.here hx rfl (hb hby d1_92) rfl (XT.ii_le_f (by decide)) k) ?_
  refine Ends.go (f' := (mkF m 96 #[.val (.ref a), .val (.ref t), .val (.int pos), .val (.int cc), .val (.int f)] [(.ref a)])) (fun t k => XS.aloadN N41.here hx rfl (hb hby d1_95) rfl rfl k) ?_
  refine Ends.go (f' := (mkF m 97 #[.val (.ref a), .val (.ref t), .val (.int pos), .val (.int cc), .val (.int f)] [(.int (5 : Int32)), (.ref a)])) (fun t k => XS.iconst N41.here hx rfl (hb hby d1_96) k) ?_
  refine Ends.go (f' := (mkF m 98 #[.val (.ref a), .val (.ref t), .val (.int pos), .val (.int cc), .val (.int f)] [(.ref t), (.int (5 : Int32)), (.ref a)])) (fun t k => XS.aloadN N41.here hx rfl (hb hby d1_97) rfl rfl k) ?_
  refine Ends.go (f' := (mkF m 99 #[.val (.ref a), .val (.ref t), .val (.int pos), .val (.int cc), .val (.int f)] [(.int (5 : Int32)), (.ref t), (.int (5 : Int32)), (.ref a)])) (fun t k => XS.iconst N41.here hx rfl (hb hby d1_98) k) ?_
  refine Ends.go (f' := (mkF m 100 #[.val (.ref a), .val (.ref t), .val (.int pos), .val (.int cc), .val (.int f)] [(.int pos), (.int (5 : Int32)), (.ref t), (.int (5 : Int32)), (.ref a)])) (fun t k => XS.iloadN N41.here hx rfl (hb hby d1_99) rfl k) ?_
  refine Ends.go (f' := (mkF m 101 #[.val (.ref a), .val (.ref t), .val (.int pos), .val (.int cc), .val (.int f)] [(.int cc), (.int pos), (.int (5 : Int32)), (.ref t), (.int (5 : Int32)), (.ref a)])) (fun t k => XS.iloadN N41.here hx rfl (hb hby d1_100) rfl k) ?_
  refine Ends.go (f' := (mkF m 103 #[.val (.ref a), .val (.ref t), .val (.int pos), .val (.int cc), .val (.int f)] [(.int f), (.int cc), (.int pos), (.int (5 : Int32)), (.ref t), (.int (5 : Int32)), (.ref a)])) (fun t k => XS.iload N41.here hx rfl (hb hby d1_101) rfl k) ?_
  refine gStatic (W := 2) (argsL := [(.ref t), (.int (5 : Int32)), (.int pos), (.int cc), (.int f)]) (rest := [(.int (5 : Int32)), (.ref a)]) N41 hx hZ hown (hw _ (List.mem_of_getElem? (i := 14) rfl)) (hw _ (List.mem_of_getElem? (i := 15) rfl)) (hw _ (List.mem_of_getElem? (i := 12) rfl)) (hw _ (List.mem_of_getElem? (i := 16) rfl)) (by decide) ((rmAt l Z a0 hw t 5 pos cc f ct h40 N41.ext G (S.ext X45) (nle rfl) hc hf).back (W := 2) hZ (hw _ (List.mem_of_getElem? (i := 16) rfl)) (hw _ (List.mem_of_getElem? (i := 12) rfl)) (nle rfl) (nle rfl)) (hb hby d1_103) rfl (by rw [hml]; rfl) (lenOf (by decide +kernel : parseMethodDescriptor "(Ljava/lang/String;IICC)C" = some ⟨[(.object "java/lang/String"), .int, .int, .char, .char], (some .char)⟩) rfl) (nle rfl) (nle rfl) (nle rfl) (fun _ _ _ q => q.2) ?_
  rintro _ T46 _ _ N47 ⟨⟨rfl, e_h⟩, -⟩; rw [e_h] at N47; clear e_h
  show Ends p e below _ T46 (mkF m 106 #[.val (.ref a), .val (.ref t), .val (.int pos), .val (.int cc), .val (.int f)] [(.int (fAt ct 5 pos cc f)), (.int (5 : Int32)), (.ref a)])
  refine gStC 5 N47 hx hZ V44 gz (by decide) rfl (nle rfl) (hb hby d1_106) ?_
  intro T48 h49 N50 W51 V52
  rw [nar_ok (at_ok (i := 5) (pos := pos) hc hf S.2.2.2.1)] at V52
  have V53 : Arv Z h49 a kA .char (10 : Int32) [(.int (fAt ct 0 pos cc f)), (.int (fAt ct 1 pos cc f)), (.int (fAt ct 2 pos cc f)), (.int (fAt ct 3 pos cc f)), (.int (fAt ct 4 pos cc f)), (.int (fAt ct 5 pos cc f)), (.int (0 : Int32)), (.int (0 : Int32)), (.int (0 : Int32)), (.int (0 : Int32))] (.int (0 : Int32)) := V52
  have X54 : Ext ht h49 := ext_wr X45 W51 ga
  show Ends p e below _ T48 (mkF m 107 #[.val (.ref a), .val (.ref t), .val (.int pos), .val (.int cc), .val (.int f)] [])
  refine Ends.go (f' := (mkF m 108 #[.val (.ref a), .val (.ref t), .val (.int pos), .val (.int cc), .val (.int f)] [(.ref a)])) (fun t k => XS.aloadN N50.here hx rfl (hb hby d1_107) rfl rfl k) ?_
  refine gLen N50 hx hZ V53 (hb hby d1_108) ?_
  show Ends p e below _ T48 (mkF m 109 #[.val (.ref a), .val (.ref t), .val (.int pos), .val (.int cc), .val (.int f)] [(.int (10 : Int32))])
  refine Ends.go (f' := (mkF m 111 #[.val (.ref a), .val (.ref t), .val (.int pos), .val (.int cc), .val (.int f)] [(.int (6 : Int32)), (.int (10 : Int32))])) (fun t k => XS.bipush N50.here hx rfl (hb hby d1_109) k) ?_
  refine Ends.go (f' := (mkF m 114 #[.val (.ref a), .val (.ref t), .val (.int pos), .val (.int cc), .val (.int f)] [])) (fun t k => XS.icmpNo N50.here hx rfl (hb hby d1_111) rfl (XT.ii_le_f (by decide)) k) ?_
  refine Ends.go (f' := (mkF m 115 #[.val (.ref a), .val (.ref t), .val (.int pos), .val (.int cc), .val (.int f)] [(.ref a)])) (fun t k => XS.aloadN N50.here hx rfl (hb hby d1_114) rfl rfl k) ?_
  refine Ends.go (f' := (mkF m 117 #[.val (.ref a), .val (.ref t), .val (.int pos), .val (.int cc), .val (.int f)] [(.int (6 : Int32)), (.ref a)])) (fun t k => XS.bipush N50.here hx rfl (hb hby d1_115) k) ?_
  refine Ends.go (f' := (mkF m 118 #[.val (.ref a), .val (.ref t), .val (.int pos), .val (.int cc), .val (.int f)] [(.ref t), (.int (6 : Int32)), (.ref a)])) (fun t k => XS.aloadN N50.here hx rfl (hb hby d1_117) rfl rfl k) ?_
  refine Ends.go (f' := (mkF m 120 #[.val (.ref a), .val (.ref t), .val (.int pos), .val (.int cc), .val (.int f)] [(.int (6 : Int32)), (.ref t), (.int (6 : Int32)), (.ref a)])) (fun t k => XS.bipush N50.here hx rfl (hb hby d1_118) k) ?_
  refine Ends.go (f' := (mkF m 121 #[.val (.ref a), .val (.ref t), .val (.int pos), .val (.int cc), .val (.int f)] [(.int pos), (.int (6 : Int32)), (.ref t), (.int (6 : Int32)), (.ref a)])) (fun t k => XS.iloadN N50.here hx rfl (hb hby d1_120) rfl k) ?_
  refine Ends.go (f' := (mkF m 122 #[.val (.ref a), .val (.ref t), .val (.int pos), .val (.int cc), .val (.int f)] [(.int cc), (.int pos), (.int (6 : Int32)), (.ref t), (.int (6 : Int32)), (.ref a)])) (fun t k => XS.iloadN N50.here hx rfl (hb hby d1_121) rfl k) ?_
  refine Ends.go (f' := (mkF m 124 #[.val (.ref a), .val (.ref t), .val (.int pos), .val (.int cc), .val (.int f)] [(.int f), (.int cc), (.int pos), (.int (6 : Int32)), (.ref t), (.int (6 : Int32)), (.ref a)])) (fun t k => XS.iload N50.here hx rfl (hb hby d1_122) rfl k) ?_
  refine gStatic (W := 2) (argsL := [(.ref t), (.int (6 : Int32)), (.int pos), (.int cc), (.int f)]) (rest := [(.int (6 : Int32)), (.ref a)]) N50 hx hZ hown (hw _ (List.mem_of_getElem? (i := 14) rfl)) (hw _ (List.mem_of_getElem? (i := 15) rfl)) (hw _ (List.mem_of_getElem? (i := 12) rfl)) (hw _ (List.mem_of_getElem? (i := 16) rfl)) (by decide) ((rmAt l Z a0 hw t 6 pos cc f ct h49 N50.ext G (S.ext X54) (nle rfl) hc hf).back (W := 2) hZ (hw _ (List.mem_of_getElem? (i := 16) rfl)) (hw _ (List.mem_of_getElem? (i := 12) rfl)) (nle rfl) (nle rfl)) (hb hby d1_124) rfl (by rw [hml]; rfl) (lenOf (by decide +kernel : parseMethodDescriptor "(Ljava/lang/String;IICC)C" = some ⟨[(.object "java/lang/String"), .int, .int, .char, .char], (some .char)⟩) rfl) (nle rfl) (nle rfl) (nle rfl) (fun _ _ _ q => q.2) ?_
  rintro _ T55 _ _ N56 ⟨⟨rfl, e_h⟩, -⟩; rw [e_h] at N56; clear e_h
  show Ends p e below _ T55 (mkF m 127 #[.val (.ref a), .val (.ref t), .val (.int pos), .val (.int cc), .val (.int f)] [(.int (fAt ct 6 pos cc f)), (.int (6 : Int32)), (.ref a)])
  refine gStC 6 N56 hx hZ V53 gz (by decide) rfl (nle rfl) (hb hby d1_127) ?_
  intro T57 h58 N59 W60 V61
  rw [nar_ok (at_ok (i := 6) (pos := pos) hc hf S.2.2.2.1)] at V61
  have V62 : Arv Z h58 a kA .char (10 : Int32) [(.int (fAt ct 0 pos cc f)), (.int (fAt ct 1 pos cc f)), (.int (fAt ct 2 pos cc f)), (.int (fAt ct 3 pos cc f)), (.int (fAt ct 4 pos cc f)), (.int (fAt ct 5 pos cc f)), (.int (fAt ct 6 pos cc f)), (.int (0 : Int32)), (.int (0 : Int32)), (.int (0 : Int32))] (.int (0 : Int32)) := V61
  have X63 : Ext ht h58 := ext_wr X54 W60 ga
  show Ends p e below _ T57 (mkF m 128 #[.val (.ref a), .val (.ref t), .val (.int pos), .val (.int cc), .val (.int f)] [])
  refine Ends.go (f' := (mkF m 129 #[.val (.ref a), .val (.ref t), .val (.int pos), .val (.int cc), .val (.int f)] [(.ref a)])) (fun t k => XS.aloadN N59.here hx rfl (hb hby d1_128) rfl rfl k) ?_
  refine gLen N59 hx hZ V62 (hb hby d1_129) ?_
  show Ends p e below _ T57 (mkF m 130 #[.val (.ref a), .val (.ref t), .val (.int pos), .val (.int cc), .val (.int f)] [(.int (10 : Int32))])
  refine Ends.go (f' := (mkF m 132 #[.val (.ref a), .val (.ref t), .val (.int pos), .val (.int cc), .val (.int f)] [(.int (7 : Int32)), (.int (10 : Int32))])) (fun t k => XS.bipush N59.here hx rfl (hb hby d1_130) k) ?_
  refine Ends.go (f' := (mkF m 135 #[.val (.ref a), .val (.ref t), .val (.int pos), .val (.int cc), .val (.int f)] [])) (fun t k => XS.icmpNo N59.here hx rfl (hb hby d1_132) rfl (XT.ii_le_f (by decide)) k) ?_
  refine Ends.go (f' := (mkF m 136 #[.val (.ref a), .val (.ref t), .val (.int pos), .val (.int cc), .val (.int f)] [(.ref a)])) (fun t k => XS.aloadN N59.here hx rfl (hb hby d1_135) rfl rfl k) ?_
  refine Ends.go (f' := (mkF m 138 #[.val (.ref a), .val (.ref t), .val (.int pos), .val (.int cc), .val (.int f)] [(.int (7 : Int32)), (.ref a)])) (fun t k => XS.bipush N59.here hx rfl (hb hby d1_136) k) ?_
  refine Ends.go (f' := (mkF m 139 #[.val (.ref a), .val (.ref t), .val (.int pos), .val (.int cc), .val (.int f)] [(.ref t), (.int (7 : Int32)), (.ref a)])) (fun t k => XS.aloadN N59.here hx rfl (hb hby d1_138) rfl rfl k) ?_
  refine Ends.go (f' := (mkF m 141 #[.val (.ref a), .val (.ref t), .val (.int pos), .val (.int cc), .val (.int f)] [(.int (7 : Int32)), (.ref t), (.int (7 : Int32)), (.ref a)])) (fun t k => XS.bipush N59.here hx rfl (hb hby d1_139) k) ?_
  refine Ends.go (f' := (mkF m 142 #[.val (.ref a), .val (.ref t), .val (.int pos), .val (.int cc), .val (.int f)] [(.int pos), (.int (7 : Int32)), (.ref t), (.int (7 : Int32)), (.ref a)])) (fun t k => XS.iloadN N59.here hx rfl (hb hby d1_141) rfl k) ?_
  refine Ends.go (f' := (mkF m 143 #[.val (.ref a), .val (.ref t), .val (.int pos), .val (.int cc), .val (.int f)] [(.int cc), (.int pos), (.int (7 : Int32)), (.ref t), (.int (7 : Int32)), (.ref a)])) (fun t k => XS.iloadN N59.here hx rfl (hb hby d1_142) rfl k) ?_
  refine Ends.go (f' := (mkF m 145 #[.val (.ref a), .val (.ref t), .val (.int pos), .val (.int cc), .val (.int f)] [(.int f), (.int cc), (.int pos), (.int (7 : Int32)), (.ref t), (.int (7 : Int32)), (.ref a)])) (fun t k => XS.iload N59.here hx rfl (hb hby d1_143) rfl k) ?_
  refine gStatic (W := 2) (argsL := [(.ref t), (.int (7 : Int32)), (.int pos), (.int cc), (.int f)]) (rest := [(.int (7 : Int32)), (.ref a)]) N59 hx hZ hown (hw _ (List.mem_of_getElem? (i := 14) rfl)) (hw _ (List.mem_of_getElem? (i := 15) rfl)) (hw _ (List.mem_of_getElem? (i := 12) rfl)) (hw _ (List.mem_of_getElem? (i := 16) rfl)) (by decide) ((rmAt l Z a0 hw t 7 pos cc f ct h58 N59.ext G (S.ext X63) (nle rfl) hc hf).back (W := 2) hZ (hw _ (List.mem_of_getElem? (i := 16) rfl)) (hw _ (List.mem_of_getElem? (i := 12) rfl)) (nle rfl) (nle rfl)) (hb hby d1_145) rfl (by rw [hml]; rfl) (lenOf (by decide +kernel : parseMethodDescriptor "(Ljava/lang/String;IICC)C" = some ⟨[(.object "java/lang/String"), .int, .int, .char, .char], (some .char)⟩) rfl) (nle rfl) (nle rfl) (nle rfl) (fun _ _ _ q => q.2) ?_
  rintro _ T64 _ _ N65 ⟨⟨rfl, e_h⟩, -⟩; rw [e_h] at N65; clear e_h
  show Ends p e below _ T64 (mkF m 148 #[.val (.ref a), .val (.ref t), .val (.int pos), .val (.int cc), .val (.int f)] [(.int (fAt ct 7 pos cc f)), (.int (7 : Int32)), (.ref a)])
  refine gStC 7 N65 hx hZ V62 gz (by decide) rfl (nle rfl) (hb hby d1_148) ?_
  intro T66 h67 N68 W69 V70
  rw [nar_ok (at_ok (i := 7) (pos := pos) hc hf S.2.2.2.1)] at V70
  have V71 : Arv Z h67 a kA .char (10 : Int32) [(.int (fAt ct 0 pos cc f)), (.int (fAt ct 1 pos cc f)), (.int (fAt ct 2 pos cc f)), (.int (fAt ct 3 pos cc f)), (.int (fAt ct 4 pos cc f)), (.int (fAt ct 5 pos cc f)), (.int (fAt ct 6 pos cc f)), (.int (fAt ct 7 pos cc f)), (.int (0 : Int32)), (.int (0 : Int32))] (.int (0 : Int32)) := V70
  have X72 : Ext ht h67 := ext_wr X63 W69 ga
  show Ends p e below _ T66 (mkF m 149 #[.val (.ref a), .val (.ref t), .val (.int pos), .val (.int cc), .val (.int f)] [])
  refine Ends.go (f' := (mkF m 150 #[.val (.ref a), .val (.ref t), .val (.int pos), .val (.int cc), .val (.int f)] [(.ref a)])) (fun t k => XS.aloadN N68.here hx rfl (hb hby d1_149) rfl rfl k) ?_
  refine gLen N68 hx hZ V71 (hb hby d1_150) ?_
  show Ends p e below _ T66 (mkF m 151 #[.val (.ref a), .val (.ref t), .val (.int pos), .val (.int cc), .val (.int f)] [(.int (10 : Int32))])
  refine Ends.go (f' := (mkF m 153 #[.val (.ref a), .val (.ref t), .val (.int pos), .val (.int cc), .val (.int f)] [(.int (8 : Int32)), (.int (10 : Int32))])) (fun t k => XS.bipush N68.here hx rfl (hb hby d1_151) k) ?_
  refine Ends.go (f' := (mkF m 156 #[.val (.ref a), .val (.ref t), .val (.int pos), .val (.int cc), .val (.int f)] [])) (fun t k => XS.icmpNo N68.here hx rfl (hb hby d1_153) rfl (XT.ii_le_f (by decide)) k) ?_
  refine Ends.go (f' := (mkF m 157 #[.val (.ref a), .val (.ref t), .val (.int pos), .val (.int cc), .val (.int f)] [(.ref a)])) (fun t k => XS.aloadN N68.here hx rfl (hb hby d1_156) rfl rfl k) ?_
  refine Ends.go (f' := (mkF m 159 #[.val (.ref a), .val (.ref t), .val (.int pos), .val (.int cc), .val (.int f)] [(.int (8 : Int32)), (.ref a)])) (fun t k => XS.bipush N68.here hx rfl (hb hby d1_157) k) ?_
  refine Ends.go (f' := (mkF m 160 #[.val (.ref a), .val (.ref t), .val (.int pos), .val (.int cc), .val (.int f)] [(.ref t), (.int (8 : Int32)), (.ref a)])) (fun t k => XS.aloadN N68.here hx rfl (hb hby d1_159) rfl rfl k) ?_
  refine Ends.go (f' := (mkF m 162 #[.val (.ref a), .val (.ref t), .val (.int pos), .val (.int cc), .val (.int f)] [(.int (8 : Int32)), (.ref t), (.int (8 : Int32)), (.ref a)])) (fun t k => XS.bipush N68.here hx rfl (hb hby d1_160) k) ?_
  refine Ends.go (f' := (mkF m 163 #[.val (.ref a), .val (.ref t), .val (.int pos), .val (.int cc), .val (.int f)] [(.int pos), (.int (8 : Int32)), (.ref t), (.int (8 : Int32)), (.ref a)])) (fun t k => XS.iloadN N68.here hx rfl (hb hby d1_162) rfl k) ?_
  refine Ends.go (f' := (mkF m 164 #[.val (.ref a), .val (.ref t), .val (.int pos), .val (.int cc), .val (.int f)] [(.int cc), (.int pos), (.int (8 : Int32)), (.ref t), (.int (8 : Int32)), (.ref a)])) (fun t k => XS.iloadN N68.here hx rfl (hb hby d1_163) rfl k) ?_
  refine Ends.go (f' := (mkF m 166 #[.val (.ref a), .val (.ref t), .val (.int pos), .val (.int cc), .val (.int f)] [(.int f), (.int cc), (.int pos), (.int (8 : Int32)), (.ref t), (.int (8 : Int32)), (.ref a)])) (fun t k => XS.iload N68.here hx rfl (hb hby d1_164) rfl k) ?_
  refine gStatic (W := 2) (argsL := [(.ref t), (.int (8 : Int32)), (.int pos), (.int cc), (.int f)]) (rest := [(.int (8 : Int32)), (.ref a)]) N68 hx hZ hown (hw _ (List.mem_of_getElem? (i := 14) rfl)) (hw _ (List.mem_of_getElem? (i := 15) rfl)) (hw _ (List.mem_of_getElem? (i := 12) rfl)) (hw _ (List.mem_of_getElem? (i := 16) rfl)) (by decide) ((rmAt l Z a0 hw t 8 pos cc f ct h67 N68.ext G (S.ext X72) (nle rfl) hc hf).back (W := 2) hZ (hw _ (List.mem_of_getElem? (i := 16) rfl)) (hw _ (List.mem_of_getElem? (i := 12) rfl)) (nle rfl) (nle rfl)) (hb hby d1_166) rfl (by rw [hml]; rfl) (lenOf (by decide +kernel : parseMethodDescriptor "(Ljava/lang/String;IICC)C" = some ⟨[(.object "java/lang/String"), .int, .int, .char, .char], (some .char)⟩) rfl) (nle rfl) (nle rfl) (nle rfl) (fun _ _ _ q => q.2) ?_
  rintro _ T73 _ _ N74 ⟨⟨rfl, e_h⟩, -⟩; rw [e_h] at N74; clear e_h
  show Ends p e below _ T73 (mkF m 169 #[.val (.ref a), .val (.ref t), .val (.int pos), .val (.int cc), .val (.int f)] [(.int (fAt ct 8 pos cc f)), (.int (8 : Int32)), (.ref a)])
  refine gStC 8 N74 hx hZ V71 gz (by decide) rfl (nle rfl) (hb hby d1_169) ?_
  intro T75 h76 N77 W78 V79
  rw [nar_ok (at_ok (i := 8) (pos := pos) hc hf S.2.2.2.1)] at V79
  have V80 : Arv Z h76 a kA .char (10 : Int32) [(.int (fAt ct 0 pos cc f)), (.int (fAt ct 1 pos cc f)), (.int (fAt ct 2 pos cc f)), (.int (fAt ct 3 pos cc f)), (.int (fAt ct 4 pos cc f)), (.int (fAt ct 5 pos cc f)), (.int (fAt ct 6 pos cc f)), (.int (fAt ct 7 pos cc f)), (.int (fAt ct 8 pos cc f)), (.int (0 : Int32))] (.int (0 : Int32)) := V79
  have X81 : Ext ht h76 := ext_wr X72 W78 ga
  show Ends p e below _ T75 (mkF m 170 #[.val (.ref a), .val (.ref t), .val (.int pos), .val (.int cc), .val (.int f)] [])
  refine Ends.go (f' := (mkF m 171 #[.val (.ref a), .val (.ref t), .val (.int pos), .val (.int cc), .val (.int f)] [(.ref a)])) (fun t k => XS.aloadN N77.here hx rfl (hb hby d1_170) rfl rfl k) ?_
  refine gLen N77 hx hZ V80 (hb hby d1_171) ?_
  show Ends p e below _ T75 (mkF m 172 #[.val (.ref a), .val (.ref t), .val (.int pos), .val (.int cc), .val (.int f)] [(.int (10 : Int32))])
  refine Ends.go (f' := (mkF m 174 #[.val (.ref a), .val (.ref t), .val (.int pos), .val (.int cc), .val (.int f)] [(.int (9 : Int32)), (.int (10 : Int32))])) (fun t k => XS.bipush N77.here hx rfl (hb hby d1_172) k) ?_
  refine Ends.go (f' := (mkF m 177 #[.val (.ref a), .val (.ref t), .val (.int pos), .val (.int cc), .val (.int f)] [])) (fun t k => XS.icmpNo N77.here hx rfl (hb hby d1_174) rfl (XT.ii_le_f (by decide)) k) ?_
  refine Ends.go (f' := (mkF m 178 #[.val (.ref a), .val (.ref t), .val (.int pos), .val (.int cc), .val (.int f)] [(.ref a)])) (fun t k => XS.aloadN N77.here hx rfl (hb hby d1_177) rfl rfl k) ?_
  refine Ends.go (f' := (mkF m 180 #[.val (.ref a), .val (.ref t), .val (.int pos), .val (.int cc), .val (.int f)] [(.int (9 : Int32)), (.ref a)])) (fun t k => XS.bipush N77.here hx rfl (hb hby d1_178) k) ?_
  refine Ends.go (f' := (mkF m 181 #[.val (.ref a), .val (.ref t), .val (.int pos), .val (.int cc), .val (.int f)] [(.ref t), (.int (9 : Int32)), (.ref a)])) (fun t k => XS.aloadN N77.here hx rfl (hb hby d1_180) rfl rfl k) ?_
  refine Ends.go (f' := (mkF m 183 #[.val (.ref a), .val (.ref t), .val (.int pos), .val (.int cc), .val (.int f)] [(.int (9 : Int32)), (.ref t), (.int (9 : Int32)), (.ref a)])) (fun t k => XS.bipush N77.here hx rfl (hb hby d1_181) k) ?_
  refine Ends.go (f' := (mkF m 184 #[.val (.ref a), .val (.ref t), .val (.int pos), .val (.int cc), .val (.int f)] [(.int pos), (.int (9 : Int32)), (.ref t), (.int (9 : Int32)), (.ref a)])) (fun t k => XS.iloadN N77.here hx rfl (hb hby d1_183) rfl k) ?_
  refine Ends.go (f' := (mkF m 185 #[.val (.ref a), .val (.ref t), .val (.int pos), .val (.int cc), .val (.int f)] [(.int cc), (.int pos), (.int (9 : Int32)), (.ref t), (.int (9 : Int32)), (.ref a)])) (fun t k => XS.iloadN N77.here hx rfl (hb hby d1_184) rfl k) ?_
  refine Ends.go (f' := (mkF m 187 #[.val (.ref a), .val (.ref t), .val (.int pos), .val (.int cc), .val (.int f)] [(.int f), (.int cc), (.int pos), (.int (9 : Int32)), (.ref t), (.int (9 : Int32)), (.ref a)])) (fun t k => XS.iload N77.here hx rfl (hb hby d1_185) rfl k) ?_
  refine gStatic (W := 2) (argsL := [(.ref t), (.int (9 : Int32)), (.int pos), (.int cc), (.int f)]) (rest := [(.int (9 : Int32)), (.ref a)]) N77 hx hZ hown (hw _ (List.mem_of_getElem? (i := 14) rfl)) (hw _ (List.mem_of_getElem? (i := 15) rfl)) (hw _ (List.mem_of_getElem? (i := 12) rfl)) (hw _ (List.mem_of_getElem? (i := 16) rfl)) (by decide) ((rmAt l Z a0 hw t 9 pos cc f ct h76 N77.ext G (S.ext X81) (nle rfl) hc hf).back (W := 2) hZ (hw _ (List.mem_of_getElem? (i := 16) rfl)) (hw _ (List.mem_of_getElem? (i := 12) rfl)) (nle rfl) (nle rfl)) (hb hby d1_187) rfl (by rw [hml]; rfl) (lenOf (by decide +kernel : parseMethodDescriptor "(Ljava/lang/String;IICC)C" = some ⟨[(.object "java/lang/String"), .int, .int, .char, .char], (some .char)⟩) rfl) (nle rfl) (nle rfl) (nle rfl) (fun _ _ _ q => q.2) ?_
  rintro _ T82 _ _ N83 ⟨⟨rfl, e_h⟩, -⟩; rw [e_h] at N83; clear e_h
  show Ends p e below _ T82 (mkF m 190 #[.val (.ref a), .val (.ref t), .val (.int pos), .val (.int cc), .val (.int f)] [(.int (fAt ct 9 pos cc f)), (.int (9 : Int32)), (.ref a)])
  refine gStC 9 N83 hx hZ V80 gz (by decide) rfl (nle rfl) (hb hby d1_190) ?_
  intro T84 h85 N86 W87 V88
  rw [nar_ok (at_ok (i := 9) (pos := pos) hc hf S.2.2.2.1)] at V88
  have V89 : Arv Z h85 a kA .char (10 : Int32) [(.int (fAt ct 0 pos cc f)), (.int (fAt ct 1 pos cc f)), (.int (fAt ct 2 pos cc f)), (.int (fAt ct 3 pos cc f)), (.int (fAt ct 4 pos cc f)), (.int (fAt ct 5 pos cc f)), (.int (fAt ct 6 pos cc f)), (.int (fAt ct 7 pos cc f)), (.int (fAt ct 8 pos cc f)), (.int (fAt ct 9 pos cc f))] (.int (0 : Int32)) := V88
  have X90 : Ext ht h85 := ext_wr X81 W87 ga
  show Ends p e below _ T84 (mkF m 191 #[.val (.ref a), .val (.ref t), .val (.int pos), .val (.int cc), .val (.int f)] [])
  exact retV N86 hx hlk hret (hb hby d1_191) ⟨rfl, (((((((((((Keep.refl h0 [a]).wr W6 (Or.inl (List.mem_singleton.mpr rfl))).wr W15 (Or.inl (List.mem_singleton.mpr rfl))).wr W24 (Or.inl (List.mem_singleton.mpr rfl))).wr W33 (Or.inl (List.mem_singleton.mpr rfl))).wr W42 (Or.inl (List.mem_singleton.mpr rfl))).wr W51 (Or.inl (List.mem_singleton.mpr rfl))).wr W60 (Or.inl (List.mem_singleton.mpr rfl))).wr W69 (Or.inl (List.mem_singleton.mpr rfl))).wr W78 (Or.inl (List.mem_singleton.mpr rfl))).wr W87 (Or.inl (List.mem_singleton.mpr rfl))), V89⟩ (nle rfl) (nle rfl)
def con : List Int32 := [(45 : Int32), (45 : Int32), (99 : Int32), (111 : Int32), (110 : Int32), (116 : Int32), (101 : Int32), (110 : Int32), (116 : Int32)]
def sit : List Int32 := [(45 : Int32), (45 : Int32), (115 : Int32), (105 : Int32), (116 : Int32), (101 : Int32), (115 : Int32)]
def isC (cs : List Int32) : Int32 := if cs = con ∨ cs = sit then 1 else 0
theorem d16_0 : decode prog_7_method_2_code 0 = .ok (.aload_n 0, 1) := by decide +kernel
theorem d16_1 : decode prog_7_method_2_code 1 = .ok (.ldc 19, 2) := by decide +kernel
theorem d16_3 : decode prog_7_method_2_code 3 = .ok (.invokevirtual 21, 3) := by decide +kernel
theorem d16_6 : decode prog_7_method_2_code 6 = .ok (.ifCond .ne 12, 3) := by decide +kernel
theorem d16_9 : decode prog_7_method_2_code 9 = .ok (.aload_n 0, 1) := by decide +kernel
theorem d16_10 : decode prog_7_method_2_code 10 = .ok (.ldc 27, 2) := by decide +kernel
theorem d16_12 : decode prog_7_method_2_code 12 = .ok (.invokevirtual 21, 3) := by decide +kernel
theorem d16_15 : decode prog_7_method_2_code 15 = .ok (.ifCond .eq 7, 3) := by decide +kernel
theorem d16_18 : decode prog_7_method_2_code 18 = .ok (.iconst 1, 1) := by decide +kernel
theorem d16_19 : decode prog_7_method_2_code 19 = .ok (.goto 4, 3) := by decide +kernel
theorem d16_22 : decode prog_7_method_2_code 22 = .ok (.iconst 0, 1) := by decide +kernel
theorem d16_23 : decode prog_7_method_2_code 23 = .ok (.ireturn, 1) := by decide +kernel
set_option maxRecDepth 65536 in
set_option maxHeartbeats 40000000 in
theorem rmIsC (l : Launch) (Z : State) (a0 : Array Value) (hw : ∀ d ∈ tables_1, d.before a0 Z = true) (a : Addr) (cs : List Int32) (h0 : Heap) (Z0 : Ext Z.heap h0) (G : Jdk Z) (Sa : Str Z h0 a cs) :
    MetW l Z consts_1 (⟨"com/example/waypost/waypost/cli/ContentOptions", "isContentOption", "(Ljava/lang/String;)Z"⟩ : MethodName) prog_7_method_2_code 1 (some .boolean) [] ({ frames := 2, cells := 4, slots := 72, locals := 28 } : Room) #[(.ref a)] h0 (fun v h => v = some (.int (isC cs)) ∧ Ext h0 h) := by
  refine metW (by first | exact plainFor_of_name (by first | (simp [plainName, overriddenIn]; done) | decide +kernel) | decide +kernel) Z0 (Ls := #[.val (.ref a)]) (fun m => by first | (simp [entryFrame, mkF, argsToLocals, Value.category]; done) | rfl) ?_
  intro p e s m below meth c T0 vm0 hx hby hml hret hlk hown hnm hZ N0 wd0
  refine Ends.go (f' := (mkF m 1 #[.val (.ref a)] [(.ref a)])) (fun t k => XS.aloadN N0.here hx rfl (hb hby d16_0) rfl rfl k) ?_
  refine gLdcS (cs := [(45 : Int32), (45 : Int32), (99 : Int32), (111 : Int32), (110 : Int32), (116 : Int32), (101 : Int32), (110 : Int32), (116 : Int32)]) 36 N0 hx hZ hown (hw _ (List.mem_of_getElem? (i := 77) rfl)) (satoms hw) (elw hw) (by simp [consts_1]) wd0 ⟨by decide +kernel, by decide +kernel⟩ (by decide +kernel) (nle rfl) (hb hby d16_1) (nle rfl) (nle rfl) (nle rfl) (nle rfl) ?_
  intro vm1 T2 h3 a4 N5 E6 S7 hZ hown wd8 R9
  have X10 : Ext h0 h3 := ext_trans (ext_refl h0) E6
  show Ends p e below _ T2 (mkF m 3 #[.val (.ref a)] [(.ref a4), (.ref a)])
  refine gVirtual (W := 0) (y := (⟨"java/lang/String", "equals", "(Ljava/lang/Object;)Z"⟩ : MethodName)) (z := (⟨"java/lang/String", "equals", "(Ljava/lang/Object;)Z"⟩ : MethodName)) (C := "java/lang/String") (b := a) (argsL := [(.ref a4)]) (rest := []) N5 hx hZ hown (hw _ (List.mem_of_getElem? (i := 78) rfl)) (hw _ (List.mem_of_getElem? (i := 79) rfl)) (hw _ (List.mem_of_getElem? (i := 81) rfl)) (hw _ (List.mem_of_getElem? (i := 80) rfl)) (by decide) (notFace_of_selects (args := #[]) (mvT hZ (hw _ (List.mem_of_getElem? (i := 81) rfl)))) (Sa.ext X10).1 (strEq (W := 0) hZ hw G N5.ext (Sa.ext X10) S7 (nle rfl) (nle rfl)) (hb hby d16_3) rfl (by rw [hml]; rfl) (lenOf (by decide +kernel : parseMethodDescriptor "(Ljava/lang/Object;)Z" = some ⟨[(.object "java/lang/Object")], (some .boolean)⟩) rfl) (nle rfl) (nle rfl) (nle rfl) (fun _ _ _ q => fr_nil q.2.1) ?_
  rintro _ T11 _ _ N12 ⟨rfl, -, e_h⟩; rw [e_h] at N12; clear e_h
  show Ends p e below _ T11 (mkF m 6 #[.val (.ref a)] [(.int (if cs = [(45 : Int32), (45 : Int32), (99 : Int32), (111 : Int32), (110 : Int32), (116 : Int32), (101 : Int32), (110 : Int32), (116 : Int32)] then (1 : Int32) else (0 : Int32)))])
  by_cases c0 : cs = con
  · rw [if_pos (show cs = [(45 : Int32), (45 : Int32), (99 : Int32), (111 : Int32), (110 : Int32), (116 : Int32), (101 : Int32), (110 : Int32), (116 : Int32)] from c0)]
    refine Ends.go (f' := (mkF m 18 #[.val (.ref a)] [])) (fun t k => XS.ifYes N12.here hx rfl (pc0 := 6) (pc' := 18) rfl (hb hby d16_6) rfl (XT.i0_ne_t (by decide)) (by decide) (by decide) k) ?_
    refine Ends.go (f' := (mkF m 19 #[.val (.ref a)] [(.int (1 : Int32))])) (fun t k => XS.iconst N12.here hx rfl (hb hby d16_18) k) ?_
    refine Ends.go (f' := (mkF m 23 #[.val (.ref a)] [(.int (1 : Int32))])) (fun t k => XS.goto N12.here hx rfl (pc0 := 19) (pc' := 23) rfl (hb hby d16_19) (by decide) (by decide) k) ?_
    exact retZW N12 hZ (elw hw) wd8 hx hlk hret (by simp) (hb hby d16_23) ⟨by rw [isC, if_pos (Or.inl c0)]; rfl, X10⟩ (nle rfl) (nle rfl)
  · rw [if_neg (show ¬ cs = [(45 : Int32), (45 : Int32), (99 : Int32), (111 : Int32), (110 : Int32), (116 : Int32), (101 : Int32), (110 : Int32), (116 : Int32)] from c0)]
    refine Ends.go (f' := (mkF m 9 #[.val (.ref a)] [])) (fun t k => XS.ifNo N12.here hx rfl (hb hby d16_6) rfl (XT.i0_ne_f (by decide)) k) ?_
    refine Ends.go (f' := (mkF m 10 #[.val (.ref a)] [(.ref a)])) (fun t k => XS.aloadN N12.here hx rfl (hb hby d16_9) rfl rfl k) ?_
    refine gLdcS (cs := [(45 : Int32), (45 : Int32), (115 : Int32), (105 : Int32), (116 : Int32), (101 : Int32), (115 : Int32)]) 28 N12 hx hZ hown (hw _ (List.mem_of_getElem? (i := 87) rfl)) (satoms hw) (elw hw) (by simp [consts_1]) wd8 ⟨by decide +kernel, by decide +kernel⟩ (by decide +kernel) (nle rfl) (hb hby d16_10) (nle rfl) (nle rfl) (nle rfl) (nle rfl) ?_
    intro vm13 T14 h15 a16 N17 E18 S19 hZ hown wd20 R21
    have X22 : Ext h0 h15 := ext_trans X10 E18
    have X23 : Ext h3 h15 := ext_trans (ext_refl h3) E18
    show Ends p e below _ T14 (mkF m 12 #[.val (.ref a)] [(.ref a16), (.ref a)])
    refine gVirtual (W := 0) (y := (⟨"java/lang/String", "equals", "(Ljava/lang/Object;)Z"⟩ : MethodName)) (z := (⟨"java/lang/String", "equals", "(Ljava/lang/Object;)Z"⟩ : MethodName)) (C := "java/lang/String") (b := a) (argsL := [(.ref a16)]) (rest := []) N17 hx hZ hown (hw _ (List.mem_of_getElem? (i := 78) rfl)) (hw _ (List.mem_of_getElem? (i := 79) rfl)) (hw _ (List.mem_of_getElem? (i := 81) rfl)) (hw _ (List.mem_of_getElem? (i := 80) rfl)) (by decide) (notFace_of_selects (args := #[]) (mvT hZ (hw _ (List.mem_of_getElem? (i := 81) rfl)))) (Sa.ext X22).1 (strEq (W := 0) hZ hw G N17.ext (Sa.ext X22) S19 (nle rfl) (nle rfl)) (hb hby d16_12) rfl (by rw [hml]; rfl) (lenOf (by decide +kernel : parseMethodDescriptor "(Ljava/lang/Object;)Z" = some ⟨[(.object "java/lang/Object")], (some .boolean)⟩) rfl) (nle rfl) (nle rfl) (nle rfl) (fun _ _ _ q => fr_nil q.2.1) ?_
    rintro _ T24 _ _ N25 ⟨rfl, -, e_h⟩; rw [e_h] at N25; clear e_h
    show Ends p e below _ T24 (mkF m 15 #[.val (.ref a)] [(.int (if cs = [(45 : Int32), (45 : Int32), (115 : Int32), (105 : Int32), (116 : Int32), (101 : Int32), (115 : Int32)] then (1 : Int32) else (0 : Int32)))])
    by_cases c1 : cs = sit
    · rw [if_pos (show cs = [(45 : Int32), (45 : Int32), (115 : Int32), (105 : Int32), (116 : Int32), (101 : Int32), (115 : Int32)] from c1)]
      refine Ends.go (f' := (mkF m 18 #[.val (.ref a)] [])) (fun t k => XS.ifNo N25.here hx rfl (hb hby d16_15) rfl (XT.i0_eq_f (by decide)) k) ?_
      refine Ends.go (f' := (mkF m 19 #[.val (.ref a)] [(.int (1 : Int32))])) (fun t k => XS.iconst N25.here hx rfl (hb hby d16_18) k) ?_
      refine Ends.go (f' := (mkF m 23 #[.val (.ref a)] [(.int (1 : Int32))])) (fun t k => XS.goto N25.here hx rfl (pc0 := 19) (pc' := 23) rfl (hb hby d16_19) (by decide) (by decide) k) ?_
      exact retZW N25 hZ (elw hw) wd20 hx hlk hret (by simp) (hb hby d16_23) ⟨by rw [isC, if_pos (Or.inr c1)]; rfl, X22⟩ (nle rfl) (nle rfl)
    · rw [if_neg (show ¬ cs = [(45 : Int32), (45 : Int32), (115 : Int32), (105 : Int32), (116 : Int32), (101 : Int32), (115 : Int32)] from c1)]
      refine Ends.go (f' := (mkF m 22 #[.val (.ref a)] [])) (fun t k => XS.ifYes N25.here hx rfl (pc0 := 15) (pc' := 22) rfl (hb hby d16_15) rfl (XT.i0_eq_t (by decide)) (by decide) (by decide) k) ?_
      refine Ends.go (f' := (mkF m 23 #[.val (.ref a)] [(.int (0 : Int32))])) (fun t k => XS.iconst N25.here hx rfl (hb hby d16_22) k) ?_
      exact retZW N25 hZ (elw hw) wd20 hx hlk hret (by simp) (hb hby d16_23) ⟨by rw [isC, if_neg (fun q => q.elim c0 c1)]; rfl, X22⟩ (nle rfl) (nle rfl)
def fillCs (K : Int32) (ct : List Int32) (pos cc f : Int32) : List Int32 := if K = 0 then [] else if K = 1 then [fAt ct 0 pos cc f, fAt ct 1 pos cc f, fAt ct 2 pos cc f, fAt ct 3 pos cc f, fAt ct 4 pos cc f, fAt ct 5 pos cc f] else if K = 2 then [fAt ct 0 pos cc f, fAt ct 1 pos cc f, fAt ct 2 pos cc f, fAt ct 3 pos cc f, fAt ct 4 pos cc f, fAt ct 5 pos cc f, fAt ct 6 pos cc f] else if K = 3 then [fAt ct 0 pos cc f, fAt ct 1 pos cc f, fAt ct 2 pos cc f, fAt ct 3 pos cc f, fAt ct 4 pos cc f, fAt ct 5 pos cc f, fAt ct 6 pos cc f, fAt ct 7 pos cc f] else if K = 4 then [fAt ct 0 pos cc f, fAt ct 1 pos cc f, fAt ct 2 pos cc f, fAt ct 3 pos cc f, fAt ct 4 pos cc f, fAt ct 5 pos cc f, fAt ct 6 pos cc f, fAt ct 7 pos cc f, fAt ct 8 pos cc f] else [fAt ct 0 pos cc f, fAt ct 1 pos cc f, fAt ct 2 pos cc f, fAt ct 3 pos cc f, fAt ct 4 pos cc f, fAt ct 5 pos cc f, fAt ct 6 pos cc f, fAt ct 7 pos cc f, fAt ct 8 pos cc f, fAt ct 9 pos cc f]
theorem small {x k : Int32} {d : Int} (hk : k.toInt = d) (hd : 0 < d) : 0 ≤ ((x &&& (2147483647 : Int32)) % k).toInt ∧ ((x &&& (2147483647 : Int32)) % k).toInt < d := by
  have q := (c_irem (x &&& (2147483647 : Int32)) k d hk).1 (c_and x (2147483647 : Int32) (by decide)).1
  have r2 := Int.emod_nonneg (x &&& (2147483647 : Int32)).toInt (b := d) (by omega)
  have r3 := Int.emod_lt_of_pos (x &&& (2147483647 : Int32)).toInt hd
  omega
theorem i32_eq {x k : Int32} {d : Int} (hx : x.toInt = d) (hk : k.toInt = d) : x = k := Int32.toInt_inj.mp (hx.trans hk.symm)
theorem cases6 {K : Int32} (h : 0 ≤ K.toInt ∧ K.toInt < 6) : K = 0 ∨ K = 1 ∨ K = 2 ∨ K = 3 ∨ K = 4 ∨ K = 5 := by
  have h0 : K.toInt = 0 ∨ K.toInt = 1 ∨ K.toInt = 2 ∨ K.toInt = 3 ∨ K.toInt = 4 ∨ K.toInt = 5 := by omega
  rcases h0 with h | h | h | h | h | h
  · exact Or.inl (i32_eq h rfl)
  · exact Or.inr (Or.inl (i32_eq h rfl))
  · exact Or.inr (Or.inr (Or.inl (i32_eq h rfl)))
  · exact Or.inr (Or.inr (Or.inr (Or.inl (i32_eq h rfl))))
  · exact Or.inr (Or.inr (Or.inr (Or.inr (Or.inl (i32_eq h rfl)))))
  · exact Or.inr (Or.inr (Or.inr (Or.inr (Or.inr (i32_eq h rfl)))))
theorem cases12 {K : Int32} (h : 0 ≤ K.toInt ∧ K.toInt < 12) : K = 0 ∨ K = 1 ∨ K = 2 ∨ K = 3 ∨ K = 4 ∨ K = 5 ∨ K = 6 ∨ K = 7 ∨ K = 8 ∨ K = 9 ∨ K = 10 ∨ K = 11 := by
  have h0 : K.toInt = 0 ∨ K.toInt = 1 ∨ K.toInt = 2 ∨ K.toInt = 3 ∨ K.toInt = 4 ∨ K.toInt = 5 ∨ K.toInt = 6 ∨ K.toInt = 7 ∨ K.toInt = 8 ∨ K.toInt = 9 ∨ K.toInt = 10 ∨ K.toInt = 11 := by omega
  rcases h0 with h | h | h | h | h | h | h | h | h | h | h | h
  · exact Or.inl (i32_eq h rfl)
  · exact Or.inr (Or.inl (i32_eq h rfl))
  · exact Or.inr (Or.inr (Or.inl (i32_eq h rfl)))
  · exact Or.inr (Or.inr (Or.inr (Or.inl (i32_eq h rfl))))
  · exact Or.inr (Or.inr (Or.inr (Or.inr (Or.inl (i32_eq h rfl)))))
  · exact Or.inr (Or.inr (Or.inr (Or.inr (Or.inr (Or.inl (i32_eq h rfl))))))
  · exact Or.inr (Or.inr (Or.inr (Or.inr (Or.inr (Or.inr (Or.inl (i32_eq h rfl)))))))
  · exact Or.inr (Or.inr (Or.inr (Or.inr (Or.inr (Or.inr (Or.inr (Or.inl (i32_eq h rfl))))))))
  · exact Or.inr (Or.inr (Or.inr (Or.inr (Or.inr (Or.inr (Or.inr (Or.inr (Or.inl (i32_eq h rfl)))))))))
  · exact Or.inr (Or.inr (Or.inr (Or.inr (Or.inr (Or.inr (Or.inr (Or.inr (Or.inr (Or.inl (i32_eq h rfl))))))))))
  · exact Or.inr (Or.inr (Or.inr (Or.inr (Or.inr (Or.inr (Or.inr (Or.inr (Or.inr (Or.inr (Or.inl (i32_eq h rfl)))))))))))
  · exact Or.inr (Or.inr (Or.inr (Or.inr (Or.inr (Or.inr (Or.inr (Or.inr (Or.inr (Or.inr (Or.inr (i32_eq h rfl)))))))))))
def exC (K nv pos cc : Int32) (ct : List Int32) : Int32 := if nv = Int32.ofNat ct.length ∧ (¬ pos < nv ∨ cc = ct.getD pos.toNatClampNeg 0) then 1 else 0
theorem plainK (K nv : Int32) (hK : K = 0 ∨ K = 1 ∨ K = 2 ∨ K = 3 ∨ K = 4 ∨ K = 5) (hn : nv = (if K = 0 then (0 : Int32) else (5 : Int32) + K)) (ct : List Int32) (hct : ct = con ∨ ct = sit) (pos : Int32) (hp : pos = 0 ∨ pos = 1 ∨ pos = 2 ∨ pos = 3 ∨ pos = 4 ∨ pos = 5 ∨ pos = 6 ∨ pos = 7 ∨ pos = 8 ∨ pos = 9 ∨ pos = 10 ∨ pos = 11) (cc f : Int32) :
    isC (fillCs K ct pos cc f) = exC K nv pos cc ct := by
  have fix : ∀ {P Q : Prop} [Decidable P] [Decidable Q], (P ↔ Q) → (if P then (1 : Int32) else 0) = (if Q then 1 else 0) := fun h => by simp only [h]
  unfold isC exC
  apply fix
  subst hn
  rcases hct with rfl | rfl <;> rcases hK with rfl | rfl | rfl | rfl | rfl | rfl <;> rcases hp with rfl | rfl | rfl | rfl | rfl | rfl | rfl | rfl | rfl | rfl | rfl | rfl <;> simp [fillCs, con, sit, fAt]
theorem idx_of {pos : Int32} {n : Nat} (h0 : 0 ≤ pos.toInt) (h1 : pos < Int32.ofNat n) (h2 : n ≤ 4000) : pos.toNatClampNeg < n ∧ pos = Int32.ofNat pos.toNatClampNeg := by
  rw [Int32.lt_iff_toInt_lt, ofNat_toInt h2] at h1
  have r : pos.toNatClampNeg < n := by simp only [Int32.toNatClampNeg]; omega
  refine ⟨r, Int32.toInt_inj.mp ?_⟩
  rw [ofNat_toInt (by omega)]; simp only [Int32.toNatClampNeg]; omega
set_option maxRecDepth 65536 in
set_option maxHeartbeats 40000000 in
theorem rmLaw (l : Launch) (Z : State) (a0 : Array Value) (hw : ∀ d ∈ tables_1, d.before a0 Z = true) (ws : List Jvm.Cond) (i0 i1 i2 i3 i4 : Int32) (h0 : Heap) (Z0 : Ext Z.heap h0) (G : Jdk Z) :
    MetW l Z consts_1 x code maxLocals ret ws room_1 #[(.int i0), (.int i1), (.int i2), (.int i3), (.int i4)] h0 (fun v _ => v = some (.int 1)) := by
  refine metW (by first | exact plainFor_of_name (by first | (simp [plainName, overriddenIn]; done) | decide +kernel) | decide +kernel) Z0 (Ls := #[.val (.int i0), .val (.int i1), .val (.int i2), .val (.int i3), .val (.int i4), .unset, .unset, .unset, .unset, .unset, .unset, .unset, .unset, .unset, .unset, .unset, .unset, .unset, .unset, .unset]) (fun m => by first | (simp [entryFrame, mkF, argsToLocals, Value.category, maxLocals]; done) | rfl) ?_
  intro p e s m below meth c T0 vm0 hx hby hml hret hlk hown hnm hZ N0 wd0
  have hown : (s.setVm vm0).vm.findClass "com/example/waypost/waypost/cli/ContentOptionsIsContentOptionPinLaw" = some m.cls := hown
  have hret : meth.sig.returnType = some .boolean := hret
  have hml : c.maxLocals = 20 := hml
  have join : ∀ (vm1 : Vm) (T1 : State) (h1 : Heap) (ta : Addr) (ct : List Int32), Now p l e room_1 (s.setVm vm1) m #[(.int i0), (.int i1), (.int i2), (.int i3), (.int i4)] below meth c Z T1 h1 2 40 → Z.Warmed39 (s.setVm vm1).vm → (s.setVm vm1).vm.findClass "com/example/waypost/waypost/cli/ContentOptionsIsContentOptionPinLaw" = some m.cls → Wd Z s consts_1 vm1 h1 → Str Z h1 ta ct → (ct = con ∨ ct = sit) → Ends p e below (PhiW Z s consts_1 (fun v _ => v = some (.int 1)) room_1.cells room_1.slots) T1 (mkF m 13 #[.val (.int i0), .val (.int i1), .val (.int i2), .val (.int i3), .val (.int i4), .unset, .unset, .unset, .unset, .unset, .unset, .unset, .unset, .unset, .unset, .unset, .unset, .unset, .unset, .unset] [(.ref ta)]) := by
    intro vm1 T1 h1 ta ct N1 hZ hown wd1 St1 hct
    refine Ends.go (f' := (mkF m 15 #[.val (.int i0), .val (.int i1), .val (.int i2), .val (.int i3), .val (.int i4), .val (.ref ta), .unset, .unset, .unset, .unset, .unset, .unset, .unset, .unset, .unset, .unset, .unset, .unset, .unset, .unset] [])) (fun t k => XS.astore N1.here hx rfl (hb hby at_13) rfl rfl (l' := #[.val (.int i0), .val (.int i1), .val (.int i2), .val (.int i3), .val (.int i4), .val (.ref ta), .unset, .unset, .unset, .unset, .unset, .unset, .unset, .unset, .unset, .unset, .unset, .unset, .unset, .unset]) rfl k) ?_
    refine Ends.go (f' := (mkF m 16 #[.val (.int i0), .val (.int i1), .val (.int i2), .val (.int i3), .val (.int i4), .val (.ref ta), .unset, .unset, .unset, .unset, .unset, .unset, .unset, .unset, .unset, .unset, .unset, .unset, .unset, .unset] [(.int i1)])) (fun t k => XS.iloadN N1.here hx rfl (hb hby at_15) rfl k) ?_
    refine gLdcI N1 hx hZ hown (hw _ (List.mem_of_getElem? (i := 8) rfl)) (hb hby at_16) ?_
    show Ends p e below _ T1 (mkF m 18 #[.val (.int i0), .val (.int i1), .val (.int i2), .val (.int i3), .val (.int i4), .val (.ref ta), .unset, .unset, .unset, .unset, .unset, .unset, .unset, .unset, .unset, .unset, .unset, .unset, .unset, .unset] [(.int (2147483647 : Int32)), (.int i1)])
    refine Ends.go (f' := (mkF m 19 #[.val (.int i0), .val (.int i1), .val (.int i2), .val (.int i3), .val (.int i4), .val (.ref ta), .unset, .unset, .unset, .unset, .unset, .unset, .unset, .unset, .unset, .unset, .unset, .unset, .unset, .unset] [(.int (i1 &&& (2147483647 : Int32)))])) (fun t k => XS.iand N1.here hx rfl (hb hby at_18) rfl k) ?_
    refine Ends.go (f' := (mkF m 21 #[.val (.int i0), .val (.int i1), .val (.int i2), .val (.int i3), .val (.int i4), .val (.ref ta), .unset, .unset, .unset, .unset, .unset, .unset, .unset, .unset, .unset, .unset, .unset, .unset, .unset, .unset] [(.int (6 : Int32)), (.int (i1 &&& (2147483647 : Int32)))])) (fun t k => XS.bipush N1.here hx rfl (hb hby at_19) k) ?_
    refine Ends.go (f' := (mkF m 22 #[.val (.int i0), .val (.int i1), .val (.int i2), .val (.int i3), .val (.int i4), .val (.ref ta), .unset, .unset, .unset, .unset, .unset, .unset, .unset, .unset, .unset, .unset, .unset, .unset, .unset, .unset] [(.int ((i1 &&& (2147483647 : Int32)) % (6 : Int32)))])) (fun t k => gIrem N1 hx (hb hby at_21) (by decide) k) ?_
    refine Ends.go (f' := (mkF m 24 #[.val (.int i0), .val (.int i1), .val (.int i2), .val (.int i3), .val (.int i4), .val (.ref ta), .val (.int ((i1 &&& (2147483647 : Int32)) % (6 : Int32))), .unset, .unset, .unset, .unset, .unset, .unset, .unset, .unset, .unset, .unset, .unset, .unset, .unset] [])) (fun t k => XS.istore N1.here hx rfl (hb hby at_22) rfl (l' := #[.val (.int i0), .val (.int i1), .val (.int i2), .val (.int i3), .val (.int i4), .val (.ref ta), .val (.int ((i1 &&& (2147483647 : Int32)) % (6 : Int32))), .unset, .unset, .unset, .unset, .unset, .unset, .unset, .unset, .unset, .unset, .unset, .unset, .unset]) rfl k) ?_
    suffices J1 : ∀ bo2 : Int32, bo2 = (if ((i1 &&& (2147483647 : Int32)) % (6 : Int32)) = 0 then (0 : Int32) else (5 : Int32) + ((i1 &&& (2147483647 : Int32)) % (6 : Int32))) → Ends p e below (PhiW Z s consts_1 (fun v _ => v = some (.int 1)) room_1.cells room_1.slots) T1 (mkF m 37 #[.val (.int i0), .val (.int i1), .val (.int i2), .val (.int i3), .val (.int i4), .val (.ref ta), .val (.int ((i1 &&& (2147483647 : Int32)) % (6 : Int32))), .unset, .unset, .unset, .unset, .unset, .unset, .unset, .unset, .unset, .unset, .unset, .unset, .unset] [(.int bo2)]) by
      refine Ends.go (f' := (mkF m 26 #[.val (.int i0), .val (.int i1), .val (.int i2), .val (.int i3), .val (.int i4), .val (.ref ta), .val (.int ((i1 &&& (2147483647 : Int32)) % (6 : Int32))), .unset, .unset, .unset, .unset, .unset, .unset, .unset, .unset, .unset, .unset, .unset, .unset, .unset] [(.int ((i1 &&& (2147483647 : Int32)) % (6 : Int32)))])) (fun t k => XS.iload N1.here hx rfl (hb hby at_24) rfl k) ?_
      by_cases c4 : ((i1 &&& (2147483647 : Int32)) % (6 : Int32)) = 0
      · refine Ends.go (f' := (mkF m 29 #[.val (.int i0), .val (.int i1), .val (.int i2), .val (.int i3), .val (.int i4), .val (.ref ta), .val (.int ((i1 &&& (2147483647 : Int32)) % (6 : Int32))), .unset, .unset, .unset, .unset, .unset, .unset, .unset, .unset, .unset, .unset, .unset, .unset, .unset] [])) (fun t k => XS.ifNo N1.here hx rfl (hb hby at_26) rfl (XT.i0_ne_f c4) k) ?_
        refine Ends.go (f' := (mkF m 30 #[.val (.int i0), .val (.int i1), .val (.int i2), .val (.int i3), .val (.int i4), .val (.ref ta), .val (.int ((i1 &&& (2147483647 : Int32)) % (6 : Int32))), .unset, .unset, .unset, .unset, .unset, .unset, .unset, .unset, .unset, .unset, .unset, .unset, .unset] [(.int (0 : Int32))])) (fun t k => XS.iconst N1.here hx rfl (hb hby at_29) k) ?_
        refine Ends.go (f' := (mkF m 37 #[.val (.int i0), .val (.int i1), .val (.int i2), .val (.int i3), .val (.int i4), .val (.ref ta), .val (.int ((i1 &&& (2147483647 : Int32)) % (6 : Int32))), .unset, .unset, .unset, .unset, .unset, .unset, .unset, .unset, .unset, .unset, .unset, .unset, .unset] [(.int (0 : Int32))])) (fun t k => XS.goto N1.here hx rfl (pc0 := 30) (pc' := 37) rfl (hb hby at_30) (by decide) (by decide) k) ?_
        exact J1 (0 : Int32) (by simp [c4])
      · refine Ends.go (f' := (mkF m 33 #[.val (.int i0), .val (.int i1), .val (.int i2), .val (.int i3), .val (.int i4), .val (.ref ta), .val (.int ((i1 &&& (2147483647 : Int32)) % (6 : Int32))), .unset, .unset, .unset, .unset, .unset, .unset, .unset, .unset, .unset, .unset, .unset, .unset, .unset] [])) (fun t k => XS.ifYes N1.here hx rfl (pc0 := 26) (pc' := 33) rfl (hb hby at_26) rfl (XT.i0_ne_t c4) (by decide) (by decide) k) ?_
        refine Ends.go (f' := (mkF m 34 #[.val (.int i0), .val (.int i1), .val (.int i2), .val (.int i3), .val (.int i4), .val (.ref ta), .val (.int ((i1 &&& (2147483647 : Int32)) % (6 : Int32))), .unset, .unset, .unset, .unset, .unset, .unset, .unset, .unset, .unset, .unset, .unset, .unset, .unset] [(.int (5 : Int32))])) (fun t k => XS.iconst N1.here hx rfl (hb hby at_33) k) ?_
        refine Ends.go (f' := (mkF m 36 #[.val (.int i0), .val (.int i1), .val (.int i2), .val (.int i3), .val (.int i4), .val (.ref ta), .val (.int ((i1 &&& (2147483647 : Int32)) % (6 : Int32))), .unset, .unset, .unset, .unset, .unset, .unset, .unset, .unset, .unset, .unset, .unset, .unset, .unset] [(.int ((i1 &&& (2147483647 : Int32)) % (6 : Int32))), (.int (5 : Int32))])) (fun t k => XS.iload N1.here hx rfl (hb hby at_34) rfl k) ?_
        refine Ends.go (f' := (mkF m 37 #[.val (.int i0), .val (.int i1), .val (.int i2), .val (.int i3), .val (.int i4), .val (.ref ta), .val (.int ((i1 &&& (2147483647 : Int32)) % (6 : Int32))), .unset, .unset, .unset, .unset, .unset, .unset, .unset, .unset, .unset, .unset, .unset, .unset, .unset] [(.int ((5 : Int32) + ((i1 &&& (2147483647 : Int32)) % (6 : Int32))))])) (fun t k => XS.iadd N1.here hx rfl (hb hby at_36) rfl k) ?_
        exact J1 ((5 : Int32) + ((i1 &&& (2147483647 : Int32)) % (6 : Int32))) (by simp [c4])
    intro bo2 hbo3
    refine Ends.go (f' := (mkF m 39 #[.val (.int i0), .val (.int i1), .val (.int i2), .val (.int i3), .val (.int i4), .val (.ref ta), .val (.int ((i1 &&& (2147483647 : Int32)) % (6 : Int32))), .val (.int bo2), .unset, .unset, .unset, .unset, .unset, .unset, .unset, .unset, .unset, .unset, .unset, .unset] [])) (fun t k => XS.istore N1.here hx rfl (hb hby at_37) rfl (l' := #[.val (.int i0), .val (.int i1), .val (.int i2), .val (.int i3), .val (.int i4), .val (.ref ta), .val (.int ((i1 &&& (2147483647 : Int32)) % (6 : Int32))), .val (.int bo2), .unset, .unset, .unset, .unset, .unset, .unset, .unset, .unset, .unset, .unset, .unset, .unset]) rfl k) ?_
    refine Ends.go (f' := (mkF m 40 #[.val (.int i0), .val (.int i1), .val (.int i2), .val (.int i3), .val (.int i4), .val (.ref ta), .val (.int ((i1 &&& (2147483647 : Int32)) % (6 : Int32))), .val (.int bo2), .unset, .unset, .unset, .unset, .unset, .unset, .unset, .unset, .unset, .unset, .unset, .unset] [(.int i2)])) (fun t k => XS.iloadN N1.here hx rfl (hb hby at_39) rfl k) ?_
    refine gLdcI N1 hx hZ hown (hw _ (List.mem_of_getElem? (i := 8) rfl)) (hb hby at_40) ?_
    show Ends p e below _ T1 (mkF m 42 #[.val (.int i0), .val (.int i1), .val (.int i2), .val (.int i3), .val (.int i4), .val (.ref ta), .val (.int ((i1 &&& (2147483647 : Int32)) % (6 : Int32))), .val (.int bo2), .unset, .unset, .unset, .unset, .unset, .unset, .unset, .unset, .unset, .unset, .unset, .unset] [(.int (2147483647 : Int32)), (.int i2)])
    refine Ends.go (f' := (mkF m 43 #[.val (.int i0), .val (.int i1), .val (.int i2), .val (.int i3), .val (.int i4), .val (.ref ta), .val (.int ((i1 &&& (2147483647 : Int32)) % (6 : Int32))), .val (.int bo2), .unset, .unset, .unset, .unset, .unset, .unset, .unset, .unset, .unset, .unset, .unset, .unset] [(.int (i2 &&& (2147483647 : Int32)))])) (fun t k => XS.iand N1.here hx rfl (hb hby at_42) rfl k) ?_
    refine Ends.go (f' := (mkF m 45 #[.val (.int i0), .val (.int i1), .val (.int i2), .val (.int i3), .val (.int i4), .val (.ref ta), .val (.int ((i1 &&& (2147483647 : Int32)) % (6 : Int32))), .val (.int bo2), .unset, .unset, .unset, .unset, .unset, .unset, .unset, .unset, .unset, .unset, .unset, .unset] [(.int (12 : Int32)), (.int (i2 &&& (2147483647 : Int32)))])) (fun t k => XS.bipush N1.here hx rfl (hb hby at_43) k) ?_
    refine Ends.go (f' := (mkF m 46 #[.val (.int i0), .val (.int i1), .val (.int i2), .val (.int i3), .val (.int i4), .val (.ref ta), .val (.int ((i1 &&& (2147483647 : Int32)) % (6 : Int32))), .val (.int bo2), .unset, .unset, .unset, .unset, .unset, .unset, .unset, .unset, .unset, .unset, .unset, .unset] [(.int ((i2 &&& (2147483647 : Int32)) % (12 : Int32)))])) (fun t k => gIrem N1 hx (hb hby at_45) (by decide) k) ?_
    refine Ends.go (f' := (mkF m 48 #[.val (.int i0), .val (.int i1), .val (.int i2), .val (.int i3), .val (.int i4), .val (.ref ta), .val (.int ((i1 &&& (2147483647 : Int32)) % (6 : Int32))), .val (.int bo2), .val (.int ((i2 &&& (2147483647 : Int32)) % (12 : Int32))), .unset, .unset, .unset, .unset, .unset, .unset, .unset, .unset, .unset, .unset, .unset] [])) (fun t k => XS.istore N1.here hx rfl (hb hby at_46) rfl (l' := #[.val (.int i0), .val (.int i1), .val (.int i2), .val (.int i3), .val (.int i4), .val (.ref ta), .val (.int ((i1 &&& (2147483647 : Int32)) % (6 : Int32))), .val (.int bo2), .val (.int ((i2 &&& (2147483647 : Int32)) % (12 : Int32))), .unset, .unset, .unset, .unset, .unset, .unset, .unset, .unset, .unset, .unset, .unset]) rfl k) ?_
    refine Ends.go (f' := (mkF m 49 #[.val (.int i0), .val (.int i1), .val (.int i2), .val (.int i3), .val (.int i4), .val (.ref ta), .val (.int ((i1 &&& (2147483647 : Int32)) % (6 : Int32))), .val (.int bo2), .val (.int ((i2 &&& (2147483647 : Int32)) % (12 : Int32))), .unset, .unset, .unset, .unset, .unset, .unset, .unset, .unset, .unset, .unset, .unset] [(.int i3)])) (fun t k => XS.iloadN N1.here hx rfl (hb hby at_48) rfl k) ?_
    refine Ends.go (f' := (mkF m 52 #[.val (.int i0), .val (.int i1), .val (.int i2), .val (.int i3), .val (.int i4), .val (.ref ta), .val (.int ((i1 &&& (2147483647 : Int32)) % (6 : Int32))), .val (.int bo2), .val (.int ((i2 &&& (2147483647 : Int32)) % (12 : Int32))), .unset, .unset, .unset, .unset, .unset, .unset, .unset, .unset, .unset, .unset, .unset] [(.int (255 : Int32)), (.int i3)])) (fun t k => XS.sipush N1.here hx rfl (hb hby at_49) k) ?_
    refine Ends.go (f' := (mkF m 53 #[.val (.int i0), .val (.int i1), .val (.int i2), .val (.int i3), .val (.int i4), .val (.ref ta), .val (.int ((i1 &&& (2147483647 : Int32)) % (6 : Int32))), .val (.int bo2), .val (.int ((i2 &&& (2147483647 : Int32)) % (12 : Int32))), .unset, .unset, .unset, .unset, .unset, .unset, .unset, .unset, .unset, .unset, .unset] [(.int (i3 &&& (255 : Int32)))])) (fun t k => XS.iand N1.here hx rfl (hb hby at_52) rfl k) ?_
    refine Ends.go (f' := (mkF m 54 #[.val (.int i0), .val (.int i1), .val (.int i2), .val (.int i3), .val (.int i4), .val (.ref ta), .val (.int ((i1 &&& (2147483647 : Int32)) % (6 : Int32))), .val (.int bo2), .val (.int ((i2 &&& (2147483647 : Int32)) % (12 : Int32))), .unset, .unset, .unset, .unset, .unset, .unset, .unset, .unset, .unset, .unset, .unset] [(.int (nar .char (i3 &&& (255 : Int32))))])) (fun t k => XT.i2c N1.here hx rfl (hb hby at_53) rfl k) ?_
    refine Ends.go (f' := (mkF m 56 #[.val (.int i0), .val (.int i1), .val (.int i2), .val (.int i3), .val (.int i4), .val (.ref ta), .val (.int ((i1 &&& (2147483647 : Int32)) % (6 : Int32))), .val (.int bo2), .val (.int ((i2 &&& (2147483647 : Int32)) % (12 : Int32))), .val (.int (nar .char (i3 &&& (255 : Int32)))), .unset, .unset, .unset, .unset, .unset, .unset, .unset, .unset, .unset, .unset] [])) (fun t k => XS.istore N1.here hx rfl (hb hby at_54) rfl (l' := #[.val (.int i0), .val (.int i1), .val (.int i2), .val (.int i3), .val (.int i4), .val (.ref ta), .val (.int ((i1 &&& (2147483647 : Int32)) % (6 : Int32))), .val (.int bo2), .val (.int ((i2 &&& (2147483647 : Int32)) % (12 : Int32))), .val (.int (nar .char (i3 &&& (255 : Int32)))), .unset, .unset, .unset, .unset, .unset, .unset, .unset, .unset, .unset, .unset]) rfl k) ?_
    refine Ends.go (f' := (mkF m 58 #[.val (.int i0), .val (.int i1), .val (.int i2), .val (.int i3), .val (.int i4), .val (.ref ta), .val (.int ((i1 &&& (2147483647 : Int32)) % (6 : Int32))), .val (.int bo2), .val (.int ((i2 &&& (2147483647 : Int32)) % (12 : Int32))), .val (.int (nar .char (i3 &&& (255 : Int32)))), .unset, .unset, .unset, .unset, .unset, .unset, .unset, .unset, .unset, .unset] [(.int i4)])) (fun t k => XS.iload N1.here hx rfl (hb hby at_56) rfl k) ?_
    refine Ends.go (f' := (mkF m 61 #[.val (.int i0), .val (.int i1), .val (.int i2), .val (.int i3), .val (.int i4), .val (.ref ta), .val (.int ((i1 &&& (2147483647 : Int32)) % (6 : Int32))), .val (.int bo2), .val (.int ((i2 &&& (2147483647 : Int32)) % (12 : Int32))), .val (.int (nar .char (i3 &&& (255 : Int32)))), .unset, .unset, .unset, .unset, .unset, .unset, .unset, .unset, .unset, .unset] [(.int (255 : Int32)), (.int i4)])) (fun t k => XS.sipush N1.here hx rfl (hb hby at_58) k) ?_
    refine Ends.go (f' := (mkF m 62 #[.val (.int i0), .val (.int i1), .val (.int i2), .val (.int i3), .val (.int i4), .val (.ref ta), .val (.int ((i1 &&& (2147483647 : Int32)) % (6 : Int32))), .val (.int bo2), .val (.int ((i2 &&& (2147483647 : Int32)) % (12 : Int32))), .val (.int (nar .char (i3 &&& (255 : Int32)))), .unset, .unset, .unset, .unset, .unset, .unset, .unset, .unset, .unset, .unset] [(.int (i4 &&& (255 : Int32)))])) (fun t k => XS.iand N1.here hx rfl (hb hby at_61) rfl k) ?_
    refine Ends.go (f' := (mkF m 63 #[.val (.int i0), .val (.int i1), .val (.int i2), .val (.int i3), .val (.int i4), .val (.ref ta), .val (.int ((i1 &&& (2147483647 : Int32)) % (6 : Int32))), .val (.int bo2), .val (.int ((i2 &&& (2147483647 : Int32)) % (12 : Int32))), .val (.int (nar .char (i3 &&& (255 : Int32)))), .unset, .unset, .unset, .unset, .unset, .unset, .unset, .unset, .unset, .unset] [(.int (nar .char (i4 &&& (255 : Int32))))])) (fun t k => XT.i2c N1.here hx rfl (hb hby at_62) rfl k) ?_
    refine Ends.go (f' := (mkF m 65 #[.val (.int i0), .val (.int i1), .val (.int i2), .val (.int i3), .val (.int i4), .val (.ref ta), .val (.int ((i1 &&& (2147483647 : Int32)) % (6 : Int32))), .val (.int bo2), .val (.int ((i2 &&& (2147483647 : Int32)) % (12 : Int32))), .val (.int (nar .char (i3 &&& (255 : Int32)))), .val (.int (nar .char (i4 &&& (255 : Int32)))), .unset, .unset, .unset, .unset, .unset, .unset, .unset, .unset, .unset] [])) (fun t k => XS.istore N1.here hx rfl (hb hby at_63) rfl (l' := #[.val (.int i0), .val (.int i1), .val (.int i2), .val (.int i3), .val (.int i4), .val (.ref ta), .val (.int ((i1 &&& (2147483647 : Int32)) % (6 : Int32))), .val (.int bo2), .val (.int ((i2 &&& (2147483647 : Int32)) % (12 : Int32))), .val (.int (nar .char (i3 &&& (255 : Int32)))), .val (.int (nar .char (i4 &&& (255 : Int32)))), .unset, .unset, .unset, .unset, .unset, .unset, .unset, .unset, .unset]) rfl k) ?_
    refine Ends.go (f' := (mkF m 66 #[.val (.int i0), .val (.int i1), .val (.int i2), .val (.int i3), .val (.int i4), .val (.ref ta), .val (.int ((i1 &&& (2147483647 : Int32)) % (6 : Int32))), .val (.int bo2), .val (.int ((i2 &&& (2147483647 : Int32)) % (12 : Int32))), .val (.int (nar .char (i3 &&& (255 : Int32)))), .val (.int (nar .char (i4 &&& (255 : Int32)))), .unset, .unset, .unset, .unset, .unset, .unset, .unset, .unset, .unset] [(.int (0 : Int32))])) (fun t k => XS.iconst N1.here hx rfl (hb hby at_65) k) ?_
    refine gArr 0 N1 hx hZ (hw _ (List.mem_of_getElem? (i := 9) rfl)) (hb hby at_66) (by decide) (nle rfl) (nle rfl) (nle rfl) (nle rfl) ?_
    intro T5 h6 b7 kA8 eb9 N10 E11 V12
    have g13 : h1.size ≤ b7 := by rw [eb9]; exact (ext_refl h1).1
    have g14 : Z.heap.size ≤ b7 := by rw [eb9]; exact N1.le
    have X15 : Ext h1 h6 := ext_trans (ext_refl h1) E11
    have V16 : Arv Z h6 b7 kA8 .char (0 : Int32) [] (.int (0 : Int32)) := V12.pad (pad_rep [] (.int (0 : Int32)) 0)
    show Ends p e below _ T5 (mkF m 68 #[.val (.int i0), .val (.int i1), .val (.int i2), .val (.int i3), .val (.int i4), .val (.ref ta), .val (.int ((i1 &&& (2147483647 : Int32)) % (6 : Int32))), .val (.int bo2), .val (.int ((i2 &&& (2147483647 : Int32)) % (12 : Int32))), .val (.int (nar .char (i3 &&& (255 : Int32)))), .val (.int (nar .char (i4 &&& (255 : Int32)))), .unset, .unset, .unset, .unset, .unset, .unset, .unset, .unset, .unset] [(.ref b7)])
    refine Ends.go (f' := (mkF m 70 #[.val (.int i0), .val (.int i1), .val (.int i2), .val (.int i3), .val (.int i4), .val (.ref ta), .val (.int ((i1 &&& (2147483647 : Int32)) % (6 : Int32))), .val (.int bo2), .val (.int ((i2 &&& (2147483647 : Int32)) % (12 : Int32))), .val (.int (nar .char (i3 &&& (255 : Int32)))), .val (.int (nar .char (i4 &&& (255 : Int32)))), .val (.ref b7), .unset, .unset, .unset, .unset, .unset, .unset, .unset, .unset] [])) (fun t k => XS.astore N10.here hx rfl (hb hby at_68) rfl rfl (l' := #[.val (.int i0), .val (.int i1), .val (.int i2), .val (.int i3), .val (.int i4), .val (.ref ta), .val (.int ((i1 &&& (2147483647 : Int32)) % (6 : Int32))), .val (.int bo2), .val (.int ((i2 &&& (2147483647 : Int32)) % (12 : Int32))), .val (.int (nar .char (i3 &&& (255 : Int32)))), .val (.int (nar .char (i4 &&& (255 : Int32)))), .val (.ref b7), .unset, .unset, .unset, .unset, .unset, .unset, .unset, .unset]) rfl k) ?_
    refine Ends.go (f' := (mkF m 72 #[.val (.int i0), .val (.int i1), .val (.int i2), .val (.int i3), .val (.int i4), .val (.ref ta), .val (.int ((i1 &&& (2147483647 : Int32)) % (6 : Int32))), .val (.int bo2), .val (.int ((i2 &&& (2147483647 : Int32)) % (12 : Int32))), .val (.int (nar .char (i3 &&& (255 : Int32)))), .val (.int (nar .char (i4 &&& (255 : Int32)))), .val (.ref b7), .unset, .unset, .unset, .unset, .unset, .unset, .unset, .unset] [(.int (6 : Int32))])) (fun t k => XS.bipush N10.here hx rfl (hb hby at_70) k) ?_
    refine gArr 6 N10 hx hZ (hw _ (List.mem_of_getElem? (i := 9) rfl)) (hb hby at_72) (by decide) (nle rfl) (nle rfl) (nle rfl) (nle rfl) ?_
    intro T17 h18 b19 kA20 eb21 N22 E23 V24
    have g25 : h1.size ≤ b19 := by rw [eb21]; exact X15.1
    have g26 : h6.size ≤ b19 := by rw [eb21]; exact (ext_refl h6).1
    have g27 : Z.heap.size ≤ b19 := by rw [eb21]; exact N10.le
    have X28 : Ext h1 h18 := ext_trans X15 E23
    have X29 : Ext h6 h18 := ext_trans (ext_refl h6) E23
    have V30 : Arv Z h18 b19 kA20 .char (6 : Int32) [(.int (0 : Int32)), (.int (0 : Int32)), (.int (0 : Int32)), (.int (0 : Int32)), (.int (0 : Int32)), (.int (0 : Int32))] (.int (0 : Int32)) := V24.pad (pad_rep [] (.int (0 : Int32)) 6)
    show Ends p e below _ T17 (mkF m 74 #[.val (.int i0), .val (.int i1), .val (.int i2), .val (.int i3), .val (.int i4), .val (.ref ta), .val (.int ((i1 &&& (2147483647 : Int32)) % (6 : Int32))), .val (.int bo2), .val (.int ((i2 &&& (2147483647 : Int32)) % (12 : Int32))), .val (.int (nar .char (i3 &&& (255 : Int32)))), .val (.int (nar .char (i4 &&& (255 : Int32)))), .val (.ref b7), .unset, .unset, .unset, .unset, .unset, .unset, .unset, .unset] [(.ref b19)])
    refine Ends.go (f' := (mkF m 76 #[.val (.int i0), .val (.int i1), .val (.int i2), .val (.int i3), .val (.int i4), .val (.ref ta), .val (.int ((i1 &&& (2147483647 : Int32)) % (6 : Int32))), .val (.int bo2), .val (.int ((i2 &&& (2147483647 : Int32)) % (12 : Int32))), .val (.int (nar .char (i3 &&& (255 : Int32)))), .val (.int (nar .char (i4 &&& (255 : Int32)))), .val (.ref b7), .val (.ref b19), .unset, .unset, .unset, .unset, .unset, .unset, .unset] [])) (fun t k => XS.astore N22.here hx rfl (hb hby at_74) rfl rfl (l' := #[.val (.int i0), .val (.int i1), .val (.int i2), .val (.int i3), .val (.int i4), .val (.ref ta), .val (.int ((i1 &&& (2147483647 : Int32)) % (6 : Int32))), .val (.int bo2), .val (.int ((i2 &&& (2147483647 : Int32)) % (12 : Int32))), .val (.int (nar .char (i3 &&& (255 : Int32)))), .val (.int (nar .char (i4 &&& (255 : Int32)))), .val (.ref b7), .val (.ref b19), .unset, .unset, .unset, .unset, .unset, .unset, .unset]) rfl k) ?_
    refine Ends.go (f' := (mkF m 78 #[.val (.int i0), .val (.int i1), .val (.int i2), .val (.int i3), .val (.int i4), .val (.ref ta), .val (.int ((i1 &&& (2147483647 : Int32)) % (6 : Int32))), .val (.int bo2), .val (.int ((i2 &&& (2147483647 : Int32)) % (12 : Int32))), .val (.int (nar .char (i3 &&& (255 : Int32)))), .val (.int (nar .char (i4 &&& (255 : Int32)))), .val (.ref b7), .val (.ref b19), .unset, .unset, .unset, .unset, .unset, .unset, .unset] [(.int (7 : Int32))])) (fun t k => XS.bipush N22.here hx rfl (hb hby at_76) k) ?_
    refine gArr 7 N22 hx hZ (hw _ (List.mem_of_getElem? (i := 9) rfl)) (hb hby at_78) (by decide) (nle rfl) (nle rfl) (nle rfl) (nle rfl) ?_
    intro T31 h32 b33 kA34 eb35 N36 E37 V38
    have g39 : h1.size ≤ b33 := by rw [eb35]; exact X28.1
    have g40 : h6.size ≤ b33 := by rw [eb35]; exact X29.1
    have g41 : h18.size ≤ b33 := by rw [eb35]; exact (ext_refl h18).1
    have g42 : Z.heap.size ≤ b33 := by rw [eb35]; exact N22.le
    have X43 : Ext h1 h32 := ext_trans X28 E37
    have X44 : Ext h6 h32 := ext_trans X29 E37
    have X45 : Ext h18 h32 := ext_trans (ext_refl h18) E37
    have V46 : Arv Z h32 b33 kA34 .char (7 : Int32) [(.int (0 : Int32)), (.int (0 : Int32)), (.int (0 : Int32)), (.int (0 : Int32)), (.int (0 : Int32)), (.int (0 : Int32)), (.int (0 : Int32))] (.int (0 : Int32)) := V38.pad (pad_rep [] (.int (0 : Int32)) 7)
    show Ends p e below _ T31 (mkF m 80 #[.val (.int i0), .val (.int i1), .val (.int i2), .val (.int i3), .val (.int i4), .val (.ref ta), .val (.int ((i1 &&& (2147483647 : Int32)) % (6 : Int32))), .val (.int bo2), .val (.int ((i2 &&& (2147483647 : Int32)) % (12 : Int32))), .val (.int (nar .char (i3 &&& (255 : Int32)))), .val (.int (nar .char (i4 &&& (255 : Int32)))), .val (.ref b7), .val (.ref b19), .unset, .unset, .unset, .unset, .unset, .unset, .unset] [(.ref b33)])
    refine Ends.go (f' := (mkF m 82 #[.val (.int i0), .val (.int i1), .val (.int i2), .val (.int i3), .val (.int i4), .val (.ref ta), .val (.int ((i1 &&& (2147483647 : Int32)) % (6 : Int32))), .val (.int bo2), .val (.int ((i2 &&& (2147483647 : Int32)) % (12 : Int32))), .val (.int (nar .char (i3 &&& (255 : Int32)))), .val (.int (nar .char (i4 &&& (255 : Int32)))), .val (.ref b7), .val (.ref b19), .val (.ref b33), .unset, .unset, .unset, .unset, .unset, .unset] [])) (fun t k => XS.astore N36.here hx rfl (hb hby at_80) rfl rfl (l' := #[.val (.int i0), .val (.int i1), .val (.int i2), .val (.int i3), .val (.int i4), .val (.ref ta), .val (.int ((i1 &&& (2147483647 : Int32)) % (6 : Int32))), .val (.int bo2), .val (.int ((i2 &&& (2147483647 : Int32)) % (12 : Int32))), .val (.int (nar .char (i3 &&& (255 : Int32)))), .val (.int (nar .char (i4 &&& (255 : Int32)))), .val (.ref b7), .val (.ref b19), .val (.ref b33), .unset, .unset, .unset, .unset, .unset, .unset]) rfl k) ?_
    refine Ends.go (f' := (mkF m 84 #[.val (.int i0), .val (.int i1), .val (.int i2), .val (.int i3), .val (.int i4), .val (.ref ta), .val (.int ((i1 &&& (2147483647 : Int32)) % (6 : Int32))), .val (.int bo2), .val (.int ((i2 &&& (2147483647 : Int32)) % (12 : Int32))), .val (.int (nar .char (i3 &&& (255 : Int32)))), .val (.int (nar .char (i4 &&& (255 : Int32)))), .val (.ref b7), .val (.ref b19), .val (.ref b33), .unset, .unset, .unset, .unset, .unset, .unset] [(.int (8 : Int32))])) (fun t k => XS.bipush N36.here hx rfl (hb hby at_82) k) ?_
    refine gArr 8 N36 hx hZ (hw _ (List.mem_of_getElem? (i := 9) rfl)) (hb hby at_84) (by decide) (nle rfl) (nle rfl) (nle rfl) (nle rfl) ?_
    intro T47 h48 b49 kA50 eb51 N52 E53 V54
    have g55 : h1.size ≤ b49 := by rw [eb51]; exact X43.1
    have g56 : h6.size ≤ b49 := by rw [eb51]; exact X44.1
    have g57 : h18.size ≤ b49 := by rw [eb51]; exact X45.1
    have g58 : h32.size ≤ b49 := by rw [eb51]; exact (ext_refl h32).1
    have g59 : Z.heap.size ≤ b49 := by rw [eb51]; exact N36.le
    have X60 : Ext h1 h48 := ext_trans X43 E53
    have X61 : Ext h6 h48 := ext_trans X44 E53
    have X62 : Ext h18 h48 := ext_trans X45 E53
    have X63 : Ext h32 h48 := ext_trans (ext_refl h32) E53
    have V64 : Arv Z h48 b49 kA50 .char (8 : Int32) [(.int (0 : Int32)), (.int (0 : Int32)), (.int (0 : Int32)), (.int (0 : Int32)), (.int (0 : Int32)), (.int (0 : Int32)), (.int (0 : Int32)), (.int (0 : Int32))] (.int (0 : Int32)) := V54.pad (pad_rep [] (.int (0 : Int32)) 8)
    show Ends p e below _ T47 (mkF m 86 #[.val (.int i0), .val (.int i1), .val (.int i2), .val (.int i3), .val (.int i4), .val (.ref ta), .val (.int ((i1 &&& (2147483647 : Int32)) % (6 : Int32))), .val (.int bo2), .val (.int ((i2 &&& (2147483647 : Int32)) % (12 : Int32))), .val (.int (nar .char (i3 &&& (255 : Int32)))), .val (.int (nar .char (i4 &&& (255 : Int32)))), .val (.ref b7), .val (.ref b19), .val (.ref b33), .unset, .unset, .unset, .unset, .unset, .unset] [(.ref b49)])
    refine Ends.go (f' := (mkF m 88 #[.val (.int i0), .val (.int i1), .val (.int i2), .val (.int i3), .val (.int i4), .val (.ref ta), .val (.int ((i1 &&& (2147483647 : Int32)) % (6 : Int32))), .val (.int bo2), .val (.int ((i2 &&& (2147483647 : Int32)) % (12 : Int32))), .val (.int (nar .char (i3 &&& (255 : Int32)))), .val (.int (nar .char (i4 &&& (255 : Int32)))), .val (.ref b7), .val (.ref b19), .val (.ref b33), .val (.ref b49), .unset, .unset, .unset, .unset, .unset] [])) (fun t k => XS.astore N52.here hx rfl (hb hby at_86) rfl rfl (l' := #[.val (.int i0), .val (.int i1), .val (.int i2), .val (.int i3), .val (.int i4), .val (.ref ta), .val (.int ((i1 &&& (2147483647 : Int32)) % (6 : Int32))), .val (.int bo2), .val (.int ((i2 &&& (2147483647 : Int32)) % (12 : Int32))), .val (.int (nar .char (i3 &&& (255 : Int32)))), .val (.int (nar .char (i4 &&& (255 : Int32)))), .val (.ref b7), .val (.ref b19), .val (.ref b33), .val (.ref b49), .unset, .unset, .unset, .unset, .unset]) rfl k) ?_
    refine Ends.go (f' := (mkF m 90 #[.val (.int i0), .val (.int i1), .val (.int i2), .val (.int i3), .val (.int i4), .val (.ref ta), .val (.int ((i1 &&& (2147483647 : Int32)) % (6 : Int32))), .val (.int bo2), .val (.int ((i2 &&& (2147483647 : Int32)) % (12 : Int32))), .val (.int (nar .char (i3 &&& (255 : Int32)))), .val (.int (nar .char (i4 &&& (255 : Int32)))), .val (.ref b7), .val (.ref b19), .val (.ref b33), .val (.ref b49), .unset, .unset, .unset, .unset, .unset] [(.int (9 : Int32))])) (fun t k => XS.bipush N52.here hx rfl (hb hby at_88) k) ?_
    refine gArr 9 N52 hx hZ (hw _ (List.mem_of_getElem? (i := 9) rfl)) (hb hby at_90) (by decide) (nle rfl) (nle rfl) (nle rfl) (nle rfl) ?_
    intro T65 h66 b67 kA68 eb69 N70 E71 V72
    have g73 : h1.size ≤ b67 := by rw [eb69]; exact X60.1
    have g74 : h6.size ≤ b67 := by rw [eb69]; exact X61.1
    have g75 : h18.size ≤ b67 := by rw [eb69]; exact X62.1
    have g76 : h32.size ≤ b67 := by rw [eb69]; exact X63.1
    have g77 : h48.size ≤ b67 := by rw [eb69]; exact (ext_refl h48).1
    have g78 : Z.heap.size ≤ b67 := by rw [eb69]; exact N52.le
    have X79 : Ext h1 h66 := ext_trans X60 E71
    have X80 : Ext h6 h66 := ext_trans X61 E71
    have X81 : Ext h18 h66 := ext_trans X62 E71
    have X82 : Ext h32 h66 := ext_trans X63 E71
    have X83 : Ext h48 h66 := ext_trans (ext_refl h48) E71
    have V84 : Arv Z h66 b67 kA68 .char (9 : Int32) [(.int (0 : Int32)), (.int (0 : Int32)), (.int (0 : Int32)), (.int (0 : Int32)), (.int (0 : Int32)), (.int (0 : Int32)), (.int (0 : Int32)), (.int (0 : Int32)), (.int (0 : Int32))] (.int (0 : Int32)) := V72.pad (pad_rep [] (.int (0 : Int32)) 9)
    show Ends p e below _ T65 (mkF m 92 #[.val (.int i0), .val (.int i1), .val (.int i2), .val (.int i3), .val (.int i4), .val (.ref ta), .val (.int ((i1 &&& (2147483647 : Int32)) % (6 : Int32))), .val (.int bo2), .val (.int ((i2 &&& (2147483647 : Int32)) % (12 : Int32))), .val (.int (nar .char (i3 &&& (255 : Int32)))), .val (.int (nar .char (i4 &&& (255 : Int32)))), .val (.ref b7), .val (.ref b19), .val (.ref b33), .val (.ref b49), .unset, .unset, .unset, .unset, .unset] [(.ref b67)])
    refine Ends.go (f' := (mkF m 94 #[.val (.int i0), .val (.int i1), .val (.int i2), .val (.int i3), .val (.int i4), .val (.ref ta), .val (.int ((i1 &&& (2147483647 : Int32)) % (6 : Int32))), .val (.int bo2), .val (.int ((i2 &&& (2147483647 : Int32)) % (12 : Int32))), .val (.int (nar .char (i3 &&& (255 : Int32)))), .val (.int (nar .char (i4 &&& (255 : Int32)))), .val (.ref b7), .val (.ref b19), .val (.ref b33), .val (.ref b49), .val (.ref b67), .unset, .unset, .unset, .unset] [])) (fun t k => XS.astore N70.here hx rfl (hb hby at_92) rfl rfl (l' := #[.val (.int i0), .val (.int i1), .val (.int i2), .val (.int i3), .val (.int i4), .val (.ref ta), .val (.int ((i1 &&& (2147483647 : Int32)) % (6 : Int32))), .val (.int bo2), .val (.int ((i2 &&& (2147483647 : Int32)) % (12 : Int32))), .val (.int (nar .char (i3 &&& (255 : Int32)))), .val (.int (nar .char (i4 &&& (255 : Int32)))), .val (.ref b7), .val (.ref b19), .val (.ref b33), .val (.ref b49), .val (.ref b67), .unset, .unset, .unset, .unset]) rfl k) ?_
    refine Ends.go (f' := (mkF m 96 #[.val (.int i0), .val (.int i1), .val (.int i2), .val (.int i3), .val (.int i4), .val (.ref ta), .val (.int ((i1 &&& (2147483647 : Int32)) % (6 : Int32))), .val (.int bo2), .val (.int ((i2 &&& (2147483647 : Int32)) % (12 : Int32))), .val (.int (nar .char (i3 &&& (255 : Int32)))), .val (.int (nar .char (i4 &&& (255 : Int32)))), .val (.ref b7), .val (.ref b19), .val (.ref b33), .val (.ref b49), .val (.ref b67), .unset, .unset, .unset, .unset] [(.int (10 : Int32))])) (fun t k => XS.bipush N70.here hx rfl (hb hby at_94) k) ?_
    refine gArr 10 N70 hx hZ (hw _ (List.mem_of_getElem? (i := 9) rfl)) (hb hby at_96) (by decide) (nle rfl) (nle rfl) (nle rfl) (nle rfl) ?_
    intro T85 h86 b87 kA88 eb89 N90 E91 V92
    have g93 : h1.size ≤ b87 := by rw [eb89]; exact X79.1
    have g94 : h6.size ≤ b87 := by rw [eb89]; exact X80.1
    have g95 : h18.size ≤ b87 := by rw [eb89]; exact X81.1
    have g96 : h32.size ≤ b87 := by rw [eb89]; exact X82.1
    have g97 : h48.size ≤ b87 := by rw [eb89]; exact X83.1
    have g98 : h66.size ≤ b87 := by rw [eb89]; exact (ext_refl h66).1
    have g99 : Z.heap.size ≤ b87 := by rw [eb89]; exact N70.le
    have X100 : Ext h1 h86 := ext_trans X79 E91
    have X101 : Ext h6 h86 := ext_trans X80 E91
    have X102 : Ext h18 h86 := ext_trans X81 E91
    have X103 : Ext h32 h86 := ext_trans X82 E91
    have X104 : Ext h48 h86 := ext_trans X83 E91
    have X105 : Ext h66 h86 := ext_trans (ext_refl h66) E91
    have V106 : Arv Z h86 b87 kA88 .char (10 : Int32) [(.int (0 : Int32)), (.int (0 : Int32)), (.int (0 : Int32)), (.int (0 : Int32)), (.int (0 : Int32)), (.int (0 : Int32)), (.int (0 : Int32)), (.int (0 : Int32)), (.int (0 : Int32)), (.int (0 : Int32))] (.int (0 : Int32)) := V92.pad (pad_rep [] (.int (0 : Int32)) 10)
    show Ends p e below _ T85 (mkF m 98 #[.val (.int i0), .val (.int i1), .val (.int i2), .val (.int i3), .val (.int i4), .val (.ref ta), .val (.int ((i1 &&& (2147483647 : Int32)) % (6 : Int32))), .val (.int bo2), .val (.int ((i2 &&& (2147483647 : Int32)) % (12 : Int32))), .val (.int (nar .char (i3 &&& (255 : Int32)))), .val (.int (nar .char (i4 &&& (255 : Int32)))), .val (.ref b7), .val (.ref b19), .val (.ref b33), .val (.ref b49), .val (.ref b67), .unset, .unset, .unset, .unset] [(.ref b87)])
    refine Ends.go (f' := (mkF m 100 #[.val (.int i0), .val (.int i1), .val (.int i2), .val (.int i3), .val (.int i4), .val (.ref ta), .val (.int ((i1 &&& (2147483647 : Int32)) % (6 : Int32))), .val (.int bo2), .val (.int ((i2 &&& (2147483647 : Int32)) % (12 : Int32))), .val (.int (nar .char (i3 &&& (255 : Int32)))), .val (.int (nar .char (i4 &&& (255 : Int32)))), .val (.ref b7), .val (.ref b19), .val (.ref b33), .val (.ref b49), .val (.ref b67), .val (.ref b87), .unset, .unset, .unset] [])) (fun t k => XS.astore N90.here hx rfl (hb hby at_98) rfl rfl (l' := #[.val (.int i0), .val (.int i1), .val (.int i2), .val (.int i3), .val (.int i4), .val (.ref ta), .val (.int ((i1 &&& (2147483647 : Int32)) % (6 : Int32))), .val (.int bo2), .val (.int ((i2 &&& (2147483647 : Int32)) % (12 : Int32))), .val (.int (nar .char (i3 &&& (255 : Int32)))), .val (.int (nar .char (i4 &&& (255 : Int32)))), .val (.ref b7), .val (.ref b19), .val (.ref b33), .val (.ref b49), .val (.ref b67), .val (.ref b87), .unset, .unset, .unset]) rfl k) ?_
    refine Ends.go (f' := (mkF m 102 #[.val (.int i0), .val (.int i1), .val (.int i2), .val (.int i3), .val (.int i4), .val (.ref ta), .val (.int ((i1 &&& (2147483647 : Int32)) % (6 : Int32))), .val (.int bo2), .val (.int ((i2 &&& (2147483647 : Int32)) % (12 : Int32))), .val (.int (nar .char (i3 &&& (255 : Int32)))), .val (.int (nar .char (i4 &&& (255 : Int32)))), .val (.ref b7), .val (.ref b19), .val (.ref b33), .val (.ref b49), .val (.ref b67), .val (.ref b87), .unset, .unset, .unset] [(.int ((i1 &&& (2147483647 : Int32)) % (6 : Int32)))])) (fun t k => XS.iload N90.here hx rfl (hb hby at_100) rfl k) ?_
    have okc := ok255 i3
    have okf := ok255 i4
    have join2 : ∀ (vm2 : Vm) (T2 : State) (h2 : Heap) (sa av : Addr) (cs : List Int32), Now p l e room_1 (s.setVm vm2) m #[(.int i0), (.int i1), (.int i2), (.int i3), (.int i4)] below meth c Z T2 h2 14 120 → Z.Warmed39 (s.setVm vm2).vm → (s.setVm vm2).vm.findClass "com/example/waypost/waypost/cli/ContentOptionsIsContentOptionPinLaw" = some m.cls → Wd Z s consts_1 vm2 h2 → Str Z h2 sa cs → Str Z h2 ta ct → cs = fillCs (((i1 &&& (2147483647 : Int32)) % (6 : Int32))) ct ((i2 &&& (2147483647 : Int32)) % (12 : Int32)) (nar .char (i3 &&& (255 : Int32))) (nar .char (i4 &&& (255 : Int32))) → Ends p e below (PhiW Z s consts_1 (fun v _ => v = some (.int 1)) room_1.cells room_1.slots) T2 (mkF m 182 #[.val (.int i0), .val (.int i1), .val (.int i2), .val (.int i3), .val (.int i4), .val (.ref ta), .val (.int ((i1 &&& (2147483647 : Int32)) % (6 : Int32))), .val (.int bo2), .val (.int ((i2 &&& (2147483647 : Int32)) % (12 : Int32))), .val (.int (nar .char (i3 &&& (255 : Int32)))), .val (.int (nar .char (i4 &&& (255 : Int32)))), .val (.ref b7), .val (.ref b19), .val (.ref b33), .val (.ref b49), .val (.ref b67), .val (.ref b87), .val (.ref av), .val (.ref sa), .unset] []) := by
      intro vm2 T2 h2 sa av cs N2 hZ hown wd2 Ss St hcs
      refine Ends.go (f' := (mkF m 184 #[.val (.int i0), .val (.int i1), .val (.int i2), .val (.int i3), .val (.int i4), .val (.ref ta), .val (.int ((i1 &&& (2147483647 : Int32)) % (6 : Int32))), .val (.int bo2), .val (.int ((i2 &&& (2147483647 : Int32)) % (12 : Int32))), .val (.int (nar .char (i3 &&& (255 : Int32)))), .val (.int (nar .char (i4 &&& (255 : Int32)))), .val (.ref b7), .val (.ref b19), .val (.ref b33), .val (.ref b49), .val (.ref b67), .val (.ref b87), .val (.ref av), .val (.ref sa), .unset] [(.int bo2)])) (fun t k => XS.iload N2.here hx rfl (hb hby at_182) rfl k) ?_
      refine Ends.go (f' := (mkF m 186 #[.val (.int i0), .val (.int i1), .val (.int i2), .val (.int i3), .val (.int i4), .val (.ref ta), .val (.int ((i1 &&& (2147483647 : Int32)) % (6 : Int32))), .val (.int bo2), .val (.int ((i2 &&& (2147483647 : Int32)) % (12 : Int32))), .val (.int (nar .char (i3 &&& (255 : Int32)))), .val (.int (nar .char (i4 &&& (255 : Int32)))), .val (.ref b7), .val (.ref b19), .val (.ref b33), .val (.ref b49), .val (.ref b67), .val (.ref b87), .val (.ref av), .val (.ref sa), .unset] [(.ref ta), (.int bo2)])) (fun t k => XS.aload N2.here hx rfl (hb hby at_184) rfl rfl k) ?_
      refine gVirtual (W := 1) (y := (⟨"java/lang/String", "length", "()I"⟩ : MethodName)) (z := (⟨"java/lang/String", "length", "()I"⟩ : MethodName)) (C := "java/lang/String") (b := ta) (argsL := []) (rest := [(.int bo2)]) N2 hx hZ hown (hw _ (List.mem_of_getElem? (i := 17) rfl)) (hw _ (List.mem_of_getElem? (i := 18) rfl)) (hw _ (List.mem_of_getElem? (i := 20) rfl)) (hw _ (List.mem_of_getElem? (i := 19) rfl)) (by decide) (notFace_of_selects (args := #[]) (mvT hZ (hw _ (List.mem_of_getElem? (i := 20) rfl)))) St.1 (strLen (W := 1) hZ hw G N2.ext St (nle rfl) (nle rfl)) (hb hby at_186) rfl (by rw [hml]; rfl) (lenOf (by decide +kernel : parseMethodDescriptor "()I" = some ⟨[], (some .int)⟩) rfl) (nle rfl) (nle rfl) (nle rfl) (fun _ _ _ q => fr_nil q.2.1) ?_
      rintro _ T107 _ _ N108 ⟨rfl, -, e_h⟩; rw [e_h] at N108; clear e_h
      show Ends p e below _ T107 (mkF m 189 #[.val (.int i0), .val (.int i1), .val (.int i2), .val (.int i3), .val (.int i4), .val (.ref ta), .val (.int ((i1 &&& (2147483647 : Int32)) % (6 : Int32))), .val (.int bo2), .val (.int ((i2 &&& (2147483647 : Int32)) % (12 : Int32))), .val (.int (nar .char (i3 &&& (255 : Int32)))), .val (.int (nar .char (i4 &&& (255 : Int32)))), .val (.ref b7), .val (.ref b19), .val (.ref b33), .val (.ref b49), .val (.ref b67), .val (.ref b87), .val (.ref av), .val (.ref sa), .unset] [(.int (Int32.ofNat (ct).length)), (.int bo2)])
      suffices J3 : ∀ (ex : Int32) (T3 : State), Now p l e room_1 (s.setVm vm2) m #[(.int i0), (.int i1), (.int i2), (.int i3), (.int i4)] below meth c Z T3 h2 14 120 → ex = (if bo2 = Int32.ofNat ct.length ∧ (¬ ((i2 &&& (2147483647 : Int32)) % (12 : Int32)) < bo2 ∨ (nar .char (i3 &&& (255 : Int32))) = ct.getD ((i2 &&& (2147483647 : Int32)) % (12 : Int32)).toNatClampNeg 0) then (1 : Int32) else (0 : Int32)) → Ends p e below (PhiW Z s consts_1 (fun v _ => v = some (.int 1)) room_1.cells room_1.slots) T3 (mkF m 216 #[.val (.int i0), .val (.int i1), .val (.int i2), .val (.int i3), .val (.int i4), .val (.ref ta), .val (.int ((i1 &&& (2147483647 : Int32)) % (6 : Int32))), .val (.int bo2), .val (.int ((i2 &&& (2147483647 : Int32)) % (12 : Int32))), .val (.int (nar .char (i3 &&& (255 : Int32)))), .val (.int (nar .char (i4 &&& (255 : Int32)))), .val (.ref b7), .val (.ref b19), .val (.ref b33), .val (.ref b49), .val (.ref b67), .val (.ref b87), .val (.ref av), .val (.ref sa), .unset] [(.int ex)]) by
        by_cases c1 : bo2 = (Int32.ofNat (ct).length)
        · refine Ends.go (f' := (mkF m 192 #[.val (.int i0), .val (.int i1), .val (.int i2), .val (.int i3), .val (.int i4), .val (.ref ta), .val (.int ((i1 &&& (2147483647 : Int32)) % (6 : Int32))), .val (.int bo2), .val (.int ((i2 &&& (2147483647 : Int32)) % (12 : Int32))), .val (.int (nar .char (i3 &&& (255 : Int32)))), .val (.int (nar .char (i4 &&& (255 : Int32)))), .val (.ref b7), .val (.ref b19), .val (.ref b33), .val (.ref b49), .val (.ref b67), .val (.ref b87), .val (.ref av), .val (.ref sa), .unset] [])) (fun t k => XS.icmpNo N108.here hx rfl (hb hby at_189) rfl (XT.ii_ne_f c1) k) ?_
          refine Ends.go (f' := (mkF m 194 #[.val (.int i0), .val (.int i1), .val (.int i2), .val (.int i3), .val (.int i4), .val (.ref ta), .val (.int ((i1 &&& (2147483647 : Int32)) % (6 : Int32))), .val (.int bo2), .val (.int ((i2 &&& (2147483647 : Int32)) % (12 : Int32))), .val (.int (nar .char (i3 &&& (255 : Int32)))), .val (.int (nar .char (i4 &&& (255 : Int32)))), .val (.ref b7), .val (.ref b19), .val (.ref b33), .val (.ref b49), .val (.ref b67), .val (.ref b87), .val (.ref av), .val (.ref sa), .unset] [(.int ((i2 &&& (2147483647 : Int32)) % (12 : Int32)))])) (fun t k => XS.iload N108.here hx rfl (hb hby at_192) rfl k) ?_
          refine Ends.go (f' := (mkF m 196 #[.val (.int i0), .val (.int i1), .val (.int i2), .val (.int i3), .val (.int i4), .val (.ref ta), .val (.int ((i1 &&& (2147483647 : Int32)) % (6 : Int32))), .val (.int bo2), .val (.int ((i2 &&& (2147483647 : Int32)) % (12 : Int32))), .val (.int (nar .char (i3 &&& (255 : Int32)))), .val (.int (nar .char (i4 &&& (255 : Int32)))), .val (.ref b7), .val (.ref b19), .val (.ref b33), .val (.ref b49), .val (.ref b67), .val (.ref b87), .val (.ref av), .val (.ref sa), .unset] [(.int bo2), (.int ((i2 &&& (2147483647 : Int32)) % (12 : Int32)))])) (fun t k => XS.iload N108.here hx rfl (hb hby at_194) rfl k) ?_
          by_cases c2 : ((i2 &&& (2147483647 : Int32)) % (12 : Int32)) < bo2
          · refine Ends.go (f' := (mkF m 199 #[.val (.int i0), .val (.int i1), .val (.int i2), .val (.int i3), .val (.int i4), .val (.ref ta), .val (.int ((i1 &&& (2147483647 : Int32)) % (6 : Int32))), .val (.int bo2), .val (.int ((i2 &&& (2147483647 : Int32)) % (12 : Int32))), .val (.int (nar .char (i3 &&& (255 : Int32)))), .val (.int (nar .char (i4 &&& (255 : Int32)))), .val (.ref b7), .val (.ref b19), .val (.ref b33), .val (.ref b49), .val (.ref b67), .val (.ref b87), .val (.ref av), .val (.ref sa), .unset] [])) (fun t k => XS.icmpNo N108.here hx rfl (hb hby at_196) rfl (XT.ii_ge_f c2) k) ?_
            refine Ends.go (f' := (mkF m 201 #[.val (.int i0), .val (.int i1), .val (.int i2), .val (.int i3), .val (.int i4), .val (.ref ta), .val (.int ((i1 &&& (2147483647 : Int32)) % (6 : Int32))), .val (.int bo2), .val (.int ((i2 &&& (2147483647 : Int32)) % (12 : Int32))), .val (.int (nar .char (i3 &&& (255 : Int32)))), .val (.int (nar .char (i4 &&& (255 : Int32)))), .val (.ref b7), .val (.ref b19), .val (.ref b33), .val (.ref b49), .val (.ref b67), .val (.ref b87), .val (.ref av), .val (.ref sa), .unset] [(.int (nar .char (i3 &&& (255 : Int32))))])) (fun t k => XS.iload N108.here hx rfl (hb hby at_199) rfl k) ?_
            refine Ends.go (f' := (mkF m 203 #[.val (.int i0), .val (.int i1), .val (.int i2), .val (.int i3), .val (.int i4), .val (.ref ta), .val (.int ((i1 &&& (2147483647 : Int32)) % (6 : Int32))), .val (.int bo2), .val (.int ((i2 &&& (2147483647 : Int32)) % (12 : Int32))), .val (.int (nar .char (i3 &&& (255 : Int32)))), .val (.int (nar .char (i4 &&& (255 : Int32)))), .val (.ref b7), .val (.ref b19), .val (.ref b33), .val (.ref b49), .val (.ref b67), .val (.ref b87), .val (.ref av), .val (.ref sa), .unset] [(.ref ta), (.int (nar .char (i3 &&& (255 : Int32))))])) (fun t k => XS.aload N108.here hx rfl (hb hby at_201) rfl rfl k) ?_
            refine Ends.go (f' := (mkF m 205 #[.val (.int i0), .val (.int i1), .val (.int i2), .val (.int i3), .val (.int i4), .val (.ref ta), .val (.int ((i1 &&& (2147483647 : Int32)) % (6 : Int32))), .val (.int bo2), .val (.int ((i2 &&& (2147483647 : Int32)) % (12 : Int32))), .val (.int (nar .char (i3 &&& (255 : Int32)))), .val (.int (nar .char (i4 &&& (255 : Int32)))), .val (.ref b7), .val (.ref b19), .val (.ref b33), .val (.ref b49), .val (.ref b67), .val (.ref b87), .val (.ref av), .val (.ref sa), .unset] [(.int ((i2 &&& (2147483647 : Int32)) % (12 : Int32))), (.ref ta), (.int (nar .char (i3 &&& (255 : Int32))))])) (fun t k => XS.iload N108.here hx rfl (hb hby at_203) rfl k) ?_
            have hpi : (((i2 &&& (2147483647 : Int32)) % (12 : Int32))).toNatClampNeg < ct.length ∧ ((i2 &&& (2147483647 : Int32)) % (12 : Int32)) = Int32.ofNat (((i2 &&& (2147483647 : Int32)) % (12 : Int32))).toNatClampNeg := idx_of (small (x := i2) (k := 12) (d := 12) rfl (by decide)).1 (c1 ▸ c2) St.2.2.2.2
            refine gVirtual (W := 1) (y := (⟨"java/lang/String", "charAt", "(I)C"⟩ : MethodName)) (z := (⟨"java/lang/String", "charAt", "(I)C"⟩ : MethodName)) (C := "java/lang/String") (b := ta) (argsL := [(.int ((i2 &&& (2147483647 : Int32)) % (12 : Int32)))]) (rest := [(.int (nar .char (i3 &&& (255 : Int32))))]) N108 hx hZ hown (hw _ (List.mem_of_getElem? (i := 30) rfl)) (hw _ (List.mem_of_getElem? (i := 31) rfl)) (hw _ (List.mem_of_getElem? (i := 33) rfl)) (hw _ (List.mem_of_getElem? (i := 32) rfl)) (by decide) (notFace_of_selects (args := #[]) (mvT hZ (hw _ (List.mem_of_getElem? (i := 33) rfl)))) St.1 (strAt (W := 1) hZ hw G N108.ext St (i := (((i2 &&& (2147483647 : Int32)) % (12 : Int32))).toNatClampNeg) hpi.1 hpi.2 (nle rfl) (nle rfl)) (hb hby at_205) rfl (by rw [hml]; rfl) (lenOf (by decide +kernel : parseMethodDescriptor "(I)C" = some ⟨[.int], (some .char)⟩) rfl) (nle rfl) (nle rfl) (nle rfl) (fun _ _ _ q => fr_nil q.2.1) ?_
            rintro _ T109 _ _ N110 ⟨rfl, -, e_h⟩; rw [e_h] at N110; clear e_h
            show Ends p e below _ T109 (mkF m 208 #[.val (.int i0), .val (.int i1), .val (.int i2), .val (.int i3), .val (.int i4), .val (.ref ta), .val (.int ((i1 &&& (2147483647 : Int32)) % (6 : Int32))), .val (.int bo2), .val (.int ((i2 &&& (2147483647 : Int32)) % (12 : Int32))), .val (.int (nar .char (i3 &&& (255 : Int32)))), .val (.int (nar .char (i4 &&& (255 : Int32)))), .val (.ref b7), .val (.ref b19), .val (.ref b33), .val (.ref b49), .val (.ref b67), .val (.ref b87), .val (.ref av), .val (.ref sa), .unset] [(.int (ct.getD (((i2 &&& (2147483647 : Int32)) % (12 : Int32))).toNatClampNeg 0)), (.int (nar .char (i3 &&& (255 : Int32))))])
            by_cases c3 : (nar .char (i3 &&& (255 : Int32))) = (ct.getD (((i2 &&& (2147483647 : Int32)) % (12 : Int32))).toNatClampNeg 0)
            · refine Ends.go (f' := (mkF m 211 #[.val (.int i0), .val (.int i1), .val (.int i2), .val (.int i3), .val (.int i4), .val (.ref ta), .val (.int ((i1 &&& (2147483647 : Int32)) % (6 : Int32))), .val (.int bo2), .val (.int ((i2 &&& (2147483647 : Int32)) % (12 : Int32))), .val (.int (nar .char (i3 &&& (255 : Int32)))), .val (.int (nar .char (i4 &&& (255 : Int32)))), .val (.ref b7), .val (.ref b19), .val (.ref b33), .val (.ref b49), .val (.ref b67), .val (.ref b87), .val (.ref av), .val (.ref sa), .unset] [])) (fun t k => XS.icmpNo N110.here hx rfl (hb hby at_208) rfl (XT.ii_ne_f c3) k) ?_
              refine Ends.go (f' := (mkF m 212 #[.val (.int i0), .val (.int i1), .val (.int i2), .val (.int i3), .val (.int i4), .val (.ref ta), .val (.int ((i1 &&& (2147483647 : Int32)) % (6 : Int32))), .val (.int bo2), .val (.int ((i2 &&& (2147483647 : Int32)) % (12 : Int32))), .val (.int (nar .char (i3 &&& (255 : Int32)))), .val (.int (nar .char (i4 &&& (255 : Int32)))), .val (.ref b7), .val (.ref b19), .val (.ref b33), .val (.ref b49), .val (.ref b67), .val (.ref b87), .val (.ref av), .val (.ref sa), .unset] [(.int (1 : Int32))])) (fun t k => XS.iconst N110.here hx rfl (hb hby at_211) k) ?_
              refine Ends.go (f' := (mkF m 216 #[.val (.int i0), .val (.int i1), .val (.int i2), .val (.int i3), .val (.int i4), .val (.ref ta), .val (.int ((i1 &&& (2147483647 : Int32)) % (6 : Int32))), .val (.int bo2), .val (.int ((i2 &&& (2147483647 : Int32)) % (12 : Int32))), .val (.int (nar .char (i3 &&& (255 : Int32)))), .val (.int (nar .char (i4 &&& (255 : Int32)))), .val (.ref b7), .val (.ref b19), .val (.ref b33), .val (.ref b49), .val (.ref b67), .val (.ref b87), .val (.ref av), .val (.ref sa), .unset] [(.int (1 : Int32))])) (fun t k => XS.goto N110.here hx rfl (pc0 := 212) (pc' := 216) rfl (hb hby at_212) (by decide) (by decide) k) ?_
              exact J3 _ T109 (N110.mono (nle rfl) (nle rfl)) (by rw [if_pos ⟨c1, Or.inr c3⟩])
            · refine Ends.go (f' := (mkF m 215 #[.val (.int i0), .val (.int i1), .val (.int i2), .val (.int i3), .val (.int i4), .val (.ref ta), .val (.int ((i1 &&& (2147483647 : Int32)) % (6 : Int32))), .val (.int bo2), .val (.int ((i2 &&& (2147483647 : Int32)) % (12 : Int32))), .val (.int (nar .char (i3 &&& (255 : Int32)))), .val (.int (nar .char (i4 &&& (255 : Int32)))), .val (.ref b7), .val (.ref b19), .val (.ref b33), .val (.ref b49), .val (.ref b67), .val (.ref b87), .val (.ref av), .val (.ref sa), .unset] [])) (fun t k => XS.icmpYes N110.here hx rfl (pc0 := 208) (pc' := 215) rfl (hb hby at_208) rfl (XT.ii_ne_t c3) (by decide) (by decide) k) ?_
              refine Ends.go (f' := (mkF m 216 #[.val (.int i0), .val (.int i1), .val (.int i2), .val (.int i3), .val (.int i4), .val (.ref ta), .val (.int ((i1 &&& (2147483647 : Int32)) % (6 : Int32))), .val (.int bo2), .val (.int ((i2 &&& (2147483647 : Int32)) % (12 : Int32))), .val (.int (nar .char (i3 &&& (255 : Int32)))), .val (.int (nar .char (i4 &&& (255 : Int32)))), .val (.ref b7), .val (.ref b19), .val (.ref b33), .val (.ref b49), .val (.ref b67), .val (.ref b87), .val (.ref av), .val (.ref sa), .unset] [(.int (0 : Int32))])) (fun t k => XS.iconst N110.here hx rfl (hb hby at_215) k) ?_
              exact J3 _ T109 (N110.mono (nle rfl) (nle rfl)) (by rw [if_neg (fun q => q.2.elim (fun z => z c2) c3)])
          · refine Ends.go (f' := (mkF m 211 #[.val (.int i0), .val (.int i1), .val (.int i2), .val (.int i3), .val (.int i4), .val (.ref ta), .val (.int ((i1 &&& (2147483647 : Int32)) % (6 : Int32))), .val (.int bo2), .val (.int ((i2 &&& (2147483647 : Int32)) % (12 : Int32))), .val (.int (nar .char (i3 &&& (255 : Int32)))), .val (.int (nar .char (i4 &&& (255 : Int32)))), .val (.ref b7), .val (.ref b19), .val (.ref b33), .val (.ref b49), .val (.ref b67), .val (.ref b87), .val (.ref av), .val (.ref sa), .unset] [])) (fun t k => XS.icmpYes N108.here hx rfl (pc0 := 196) (pc' := 211) rfl (hb hby at_196) rfl (XT.ii_ge_t c2) (by decide) (by decide) k) ?_
            refine Ends.go (f' := (mkF m 212 #[.val (.int i0), .val (.int i1), .val (.int i2), .val (.int i3), .val (.int i4), .val (.ref ta), .val (.int ((i1 &&& (2147483647 : Int32)) % (6 : Int32))), .val (.int bo2), .val (.int ((i2 &&& (2147483647 : Int32)) % (12 : Int32))), .val (.int (nar .char (i3 &&& (255 : Int32)))), .val (.int (nar .char (i4 &&& (255 : Int32)))), .val (.ref b7), .val (.ref b19), .val (.ref b33), .val (.ref b49), .val (.ref b67), .val (.ref b87), .val (.ref av), .val (.ref sa), .unset] [(.int (1 : Int32))])) (fun t k => XS.iconst N108.here hx rfl (hb hby at_211) k) ?_
            refine Ends.go (f' := (mkF m 216 #[.val (.int i0), .val (.int i1), .val (.int i2), .val (.int i3), .val (.int i4), .val (.ref ta), .val (.int ((i1 &&& (2147483647 : Int32)) % (6 : Int32))), .val (.int bo2), .val (.int ((i2 &&& (2147483647 : Int32)) % (12 : Int32))), .val (.int (nar .char (i3 &&& (255 : Int32)))), .val (.int (nar .char (i4 &&& (255 : Int32)))), .val (.ref b7), .val (.ref b19), .val (.ref b33), .val (.ref b49), .val (.ref b67), .val (.ref b87), .val (.ref av), .val (.ref sa), .unset] [(.int (1 : Int32))])) (fun t k => XS.goto N108.here hx rfl (pc0 := 212) (pc' := 216) rfl (hb hby at_212) (by decide) (by decide) k) ?_
            exact J3 _ T107 (N108.mono (nle rfl) (nle rfl)) (by rw [if_pos ⟨c1, Or.inl c2⟩])
        · refine Ends.go (f' := (mkF m 215 #[.val (.int i0), .val (.int i1), .val (.int i2), .val (.int i3), .val (.int i4), .val (.ref ta), .val (.int ((i1 &&& (2147483647 : Int32)) % (6 : Int32))), .val (.int bo2), .val (.int ((i2 &&& (2147483647 : Int32)) % (12 : Int32))), .val (.int (nar .char (i3 &&& (255 : Int32)))), .val (.int (nar .char (i4 &&& (255 : Int32)))), .val (.ref b7), .val (.ref b19), .val (.ref b33), .val (.ref b49), .val (.ref b67), .val (.ref b87), .val (.ref av), .val (.ref sa), .unset] [])) (fun t k => XS.icmpYes N108.here hx rfl (pc0 := 189) (pc' := 215) rfl (hb hby at_189) rfl (XT.ii_ne_t c1) (by decide) (by decide) k) ?_
          refine Ends.go (f' := (mkF m 216 #[.val (.int i0), .val (.int i1), .val (.int i2), .val (.int i3), .val (.int i4), .val (.ref ta), .val (.int ((i1 &&& (2147483647 : Int32)) % (6 : Int32))), .val (.int bo2), .val (.int ((i2 &&& (2147483647 : Int32)) % (12 : Int32))), .val (.int (nar .char (i3 &&& (255 : Int32)))), .val (.int (nar .char (i4 &&& (255 : Int32)))), .val (.ref b7), .val (.ref b19), .val (.ref b33), .val (.ref b49), .val (.ref b67), .val (.ref b87), .val (.ref av), .val (.ref sa), .unset] [(.int (0 : Int32))])) (fun t k => XS.iconst N108.here hx rfl (hb hby at_215) k) ?_
          exact J3 _ T107 (N108.mono (nle rfl) (nle rfl)) (by rw [if_neg (fun q => c1 q.1)])
      intro ex T3 N3 hex
      refine Ends.go (f' := (mkF m 218 #[.val (.int i0), .val (.int i1), .val (.int i2), .val (.int i3), .val (.int i4), .val (.ref ta), .val (.int ((i1 &&& (2147483647 : Int32)) % (6 : Int32))), .val (.int bo2), .val (.int ((i2 &&& (2147483647 : Int32)) % (12 : Int32))), .val (.int (nar .char (i3 &&& (255 : Int32)))), .val (.int (nar .char (i4 &&& (255 : Int32)))), .val (.ref b7), .val (.ref b19), .val (.ref b33), .val (.ref b49), .val (.ref b67), .val (.ref b87), .val (.ref av), .val (.ref sa), .val (.int ex)] [])) (fun t k => XS.istore N3.here hx rfl (hb hby at_216) rfl (l' := #[.val (.int i0), .val (.int i1), .val (.int i2), .val (.int i3), .val (.int i4), .val (.ref ta), .val (.int ((i1 &&& (2147483647 : Int32)) % (6 : Int32))), .val (.int bo2), .val (.int ((i2 &&& (2147483647 : Int32)) % (12 : Int32))), .val (.int (nar .char (i3 &&& (255 : Int32)))), .val (.int (nar .char (i4 &&& (255 : Int32)))), .val (.ref b7), .val (.ref b19), .val (.ref b33), .val (.ref b49), .val (.ref b67), .val (.ref b87), .val (.ref av), .val (.ref sa), .val (.int ex)]) rfl k) ?_
      refine Ends.go (f' := (mkF m 220 #[.val (.int i0), .val (.int i1), .val (.int i2), .val (.int i3), .val (.int i4), .val (.ref ta), .val (.int ((i1 &&& (2147483647 : Int32)) % (6 : Int32))), .val (.int bo2), .val (.int ((i2 &&& (2147483647 : Int32)) % (12 : Int32))), .val (.int (nar .char (i3 &&& (255 : Int32)))), .val (.int (nar .char (i4 &&& (255 : Int32)))), .val (.ref b7), .val (.ref b19), .val (.ref b33), .val (.ref b49), .val (.ref b67), .val (.ref b87), .val (.ref av), .val (.ref sa), .val (.int ex)] [(.ref sa)])) (fun t k => XS.aload N3.here hx rfl (hb hby at_218) rfl rfl k) ?_
      refine gStaticW (W := 0) (argsL := [(.ref sa)]) (rest := []) N3 hx hZ hown wd2 (hw _ (List.mem_of_getElem? (i := 73) rfl)) (hw _ (List.mem_of_getElem? (i := 74) rfl)) (hw _ (List.mem_of_getElem? (i := 75) rfl)) (hw _ (List.mem_of_getElem? (i := 76) rfl)) (by decide) ((rmIsC l Z a0 hw sa cs h2 N3.ext G Ss).back (W := 0) hZ (hw _ (List.mem_of_getElem? (i := 76) rfl)) (hw _ (List.mem_of_getElem? (i := 75) rfl)) (nle rfl) (nle rfl) (elw hw) wd2) (hb hby at_220) rfl (by rw [hml]; rfl) (lenOf (by decide +kernel : parseMethodDescriptor "(Ljava/lang/String;)Z" = some ⟨[(.object "java/lang/String")], (some .boolean)⟩) rfl) (nle rfl) (nle rfl) (nle rfl) (fun _ _ _ q => q.2) ?_
      rintro _ vm111 T112 h113 L116 N114 ⟨⟨rfl, eE⟩, -⟩ hZ hown wd115
      show Ends p e below _ T112 (mkF m 223 #[.val (.int i0), .val (.int i1), .val (.int i2), .val (.int i3), .val (.int i4), .val (.ref ta), .val (.int ((i1 &&& (2147483647 : Int32)) % (6 : Int32))), .val (.int bo2), .val (.int ((i2 &&& (2147483647 : Int32)) % (12 : Int32))), .val (.int (nar .char (i3 &&& (255 : Int32)))), .val (.int (nar .char (i4 &&& (255 : Int32)))), .val (.ref b7), .val (.ref b19), .val (.ref b33), .val (.ref b49), .val (.ref b67), .val (.ref b87), .val (.ref av), .val (.ref sa), .val (.int ex)] [(.int (isC cs))])
      refine Ends.go (f' := (mkF m 225 #[.val (.int i0), .val (.int i1), .val (.int i2), .val (.int i3), .val (.int i4), .val (.ref ta), .val (.int ((i1 &&& (2147483647 : Int32)) % (6 : Int32))), .val (.int bo2), .val (.int ((i2 &&& (2147483647 : Int32)) % (12 : Int32))), .val (.int (nar .char (i3 &&& (255 : Int32)))), .val (.int (nar .char (i4 &&& (255 : Int32)))), .val (.ref b7), .val (.ref b19), .val (.ref b33), .val (.ref b49), .val (.ref b67), .val (.ref b87), .val (.ref av), .val (.ref sa), .val (.int ex)] [(.int ex), (.int (isC cs))])) (fun t k => XS.iload N114.here hx rfl (hb hby at_223) rfl k) ?_
      refine Ends.go (f' := (mkF m 228 #[.val (.int i0), .val (.int i1), .val (.int i2), .val (.int i3), .val (.int i4), .val (.ref ta), .val (.int ((i1 &&& (2147483647 : Int32)) % (6 : Int32))), .val (.int bo2), .val (.int ((i2 &&& (2147483647 : Int32)) % (12 : Int32))), .val (.int (nar .char (i3 &&& (255 : Int32)))), .val (.int (nar .char (i4 &&& (255 : Int32)))), .val (.ref b7), .val (.ref b19), .val (.ref b33), .val (.ref b49), .val (.ref b67), .val (.ref b87), .val (.ref av), .val (.ref sa), .val (.int ex)] [])) (fun t k => XS.icmpNo N114.here hx rfl (hb hby at_225) rfl (XT.ii_ne_f (by rw [hcs, hex]; exact plainK _ _ (cases6 (small (x := i1) (k := 6) (d := 6) rfl (by decide))) hbo3 ct hct _ (cases12 (small (x := i2) (k := 12) (d := 12) rfl (by decide))) _ _)) k) ?_
      refine Ends.go (f' := (mkF m 229 #[.val (.int i0), .val (.int i1), .val (.int i2), .val (.int i3), .val (.int i4), .val (.ref ta), .val (.int ((i1 &&& (2147483647 : Int32)) % (6 : Int32))), .val (.int bo2), .val (.int ((i2 &&& (2147483647 : Int32)) % (12 : Int32))), .val (.int (nar .char (i3 &&& (255 : Int32)))), .val (.int (nar .char (i4 &&& (255 : Int32)))), .val (.ref b7), .val (.ref b19), .val (.ref b33), .val (.ref b49), .val (.ref b67), .val (.ref b87), .val (.ref av), .val (.ref sa), .val (.int ex)] [(.int (1 : Int32))])) (fun t k => XS.iconst N114.here hx rfl (hb hby at_228) k) ?_
      refine Ends.go (f' := (mkF m 233 #[.val (.int i0), .val (.int i1), .val (.int i2), .val (.int i3), .val (.int i4), .val (.ref ta), .val (.int ((i1 &&& (2147483647 : Int32)) % (6 : Int32))), .val (.int bo2), .val (.int ((i2 &&& (2147483647 : Int32)) % (12 : Int32))), .val (.int (nar .char (i3 &&& (255 : Int32)))), .val (.int (nar .char (i4 &&& (255 : Int32)))), .val (.ref b7), .val (.ref b19), .val (.ref b33), .val (.ref b49), .val (.ref b67), .val (.ref b87), .val (.ref av), .val (.ref sa), .val (.int ex)] [(.int (1 : Int32))])) (fun t k => XS.goto N114.here hx rfl (pc0 := 229) (pc' := 233) rfl (hb hby at_229) (by decide) (by decide) k) ?_
      exact retZW N114 hZ (elw hw) wd115 hx hlk hret (by simp) (hb hby at_233) rfl (nle rfl) (nle rfl)
    by_cases k0 : ((i1 &&& (2147483647 : Int32)) % (6 : Int32)) = 0
    · refine Ends.go (f' := (mkF m 105 #[.val (.int i0), .val (.int i1), .val (.int i2), .val (.int i3), .val (.int i4), .val (.ref ta), .val (.int ((i1 &&& (2147483647 : Int32)) % (6 : Int32))), .val (.int bo2), .val (.int ((i2 &&& (2147483647 : Int32)) % (12 : Int32))), .val (.int (nar .char (i3 &&& (255 : Int32)))), .val (.int (nar .char (i4 &&& (255 : Int32)))), .val (.ref b7), .val (.ref b19), .val (.ref b33), .val (.ref b49), .val (.ref b67), .val (.ref b87), .unset, .unset, .unset] [])) (fun t k => XS.ifNo N90.here hx rfl (hb hby at_102) rfl (XT.i0_ne_f k0) k) ?_
      refine Ends.go (f' := (mkF m 107 #[.val (.int i0), .val (.int i1), .val (.int i2), .val (.int i3), .val (.int i4), .val (.ref ta), .val (.int ((i1 &&& (2147483647 : Int32)) % (6 : Int32))), .val (.int bo2), .val (.int ((i2 &&& (2147483647 : Int32)) % (12 : Int32))), .val (.int (nar .char (i3 &&& (255 : Int32)))), .val (.int (nar .char (i4 &&& (255 : Int32)))), .val (.ref b7), .val (.ref b19), .val (.ref b33), .val (.ref b49), .val (.ref b67), .val (.ref b87), .unset, .unset, .unset] [(.ref b7)])) (fun t k => XS.aload N90.here hx rfl (hb hby at_105) rfl rfl k) ?_
      refine Ends.go (f' := (mkF m 156 #[.val (.int i0), .val (.int i1), .val (.int i2), .val (.int i3), .val (.int i4), .val (.ref ta), .val (.int ((i1 &&& (2147483647 : Int32)) % (6 : Int32))), .val (.int bo2), .val (.int ((i2 &&& (2147483647 : Int32)) % (12 : Int32))), .val (.int (nar .char (i3 &&& (255 : Int32)))), .val (.int (nar .char (i4 &&& (255 : Int32)))), .val (.ref b7), .val (.ref b19), .val (.ref b33), .val (.ref b49), .val (.ref b67), .val (.ref b87), .unset, .unset, .unset] [(.ref b7)])) (fun t k => XS.goto N90.here hx rfl (pc0 := 107) (pc' := 156) rfl (hb hby at_107) (by decide) (by decide) k) ?_
      refine Ends.go (f' := (mkF m 158 #[.val (.int i0), .val (.int i1), .val (.int i2), .val (.int i3), .val (.int i4), .val (.ref ta), .val (.int ((i1 &&& (2147483647 : Int32)) % (6 : Int32))), .val (.int bo2), .val (.int ((i2 &&& (2147483647 : Int32)) % (12 : Int32))), .val (.int (nar .char (i3 &&& (255 : Int32)))), .val (.int (nar .char (i4 &&& (255 : Int32)))), .val (.ref b7), .val (.ref b19), .val (.ref b33), .val (.ref b49), .val (.ref b67), .val (.ref b87), .val (.ref b7), .unset, .unset] [])) (fun t k => XS.astore N90.here hx rfl (hb hby at_156) rfl rfl (l' := #[.val (.int i0), .val (.int i1), .val (.int i2), .val (.int i3), .val (.int i4), .val (.ref ta), .val (.int ((i1 &&& (2147483647 : Int32)) % (6 : Int32))), .val (.int bo2), .val (.int ((i2 &&& (2147483647 : Int32)) % (12 : Int32))), .val (.int (nar .char (i3 &&& (255 : Int32)))), .val (.int (nar .char (i4 &&& (255 : Int32)))), .val (.ref b7), .val (.ref b19), .val (.ref b33), .val (.ref b49), .val (.ref b67), .val (.ref b87), .val (.ref b7), .unset, .unset]) rfl k) ?_
      refine Ends.go (f' := (mkF m 160 #[.val (.int i0), .val (.int i1), .val (.int i2), .val (.int i3), .val (.int i4), .val (.ref ta), .val (.int ((i1 &&& (2147483647 : Int32)) % (6 : Int32))), .val (.int bo2), .val (.int ((i2 &&& (2147483647 : Int32)) % (12 : Int32))), .val (.int (nar .char (i3 &&& (255 : Int32)))), .val (.int (nar .char (i4 &&& (255 : Int32)))), .val (.ref b7), .val (.ref b19), .val (.ref b33), .val (.ref b49), .val (.ref b67), .val (.ref b87), .val (.ref b7), .unset, .unset] [(.ref b7)])) (fun t k => XS.aload N90.here hx rfl (hb hby at_158) rfl rfl k) ?_
      refine Ends.go (f' := (mkF m 162 #[.val (.int i0), .val (.int i1), .val (.int i2), .val (.int i3), .val (.int i4), .val (.ref ta), .val (.int ((i1 &&& (2147483647 : Int32)) % (6 : Int32))), .val (.int bo2), .val (.int ((i2 &&& (2147483647 : Int32)) % (12 : Int32))), .val (.int (nar .char (i3 &&& (255 : Int32)))), .val (.int (nar .char (i4 &&& (255 : Int32)))), .val (.ref b7), .val (.ref b19), .val (.ref b33), .val (.ref b49), .val (.ref b67), .val (.ref b87), .val (.ref b7), .unset, .unset] [(.ref ta), (.ref b7)])) (fun t k => XS.aload N90.here hx rfl (hb hby at_160) rfl rfl k) ?_
      refine Ends.go (f' := (mkF m 164 #[.val (.int i0), .val (.int i1), .val (.int i2), .val (.int i3), .val (.int i4), .val (.ref ta), .val (.int ((i1 &&& (2147483647 : Int32)) % (6 : Int32))), .val (.int bo2), .val (.int ((i2 &&& (2147483647 : Int32)) % (12 : Int32))), .val (.int (nar .char (i3 &&& (255 : Int32)))), .val (.int (nar .char (i4 &&& (255 : Int32)))), .val (.ref b7), .val (.ref b19), .val (.ref b33), .val (.ref b49), .val (.ref b67), .val (.ref b87), .val (.ref b7), .unset, .unset] [(.int ((i2 &&& (2147483647 : Int32)) % (12 : Int32))), (.ref ta), (.ref b7)])) (fun t k => XS.iload N90.here hx rfl (hb hby at_162) rfl k) ?_
      refine Ends.go (f' := (mkF m 166 #[.val (.int i0), .val (.int i1), .val (.int i2), .val (.int i3), .val (.int i4), .val (.ref ta), .val (.int ((i1 &&& (2147483647 : Int32)) % (6 : Int32))), .val (.int bo2), .val (.int ((i2 &&& (2147483647 : Int32)) % (12 : Int32))), .val (.int (nar .char (i3 &&& (255 : Int32)))), .val (.int (nar .char (i4 &&& (255 : Int32)))), .val (.ref b7), .val (.ref b19), .val (.ref b33), .val (.ref b49), .val (.ref b67), .val (.ref b87), .val (.ref b7), .unset, .unset] [(.int (nar .char (i3 &&& (255 : Int32)))), (.int ((i2 &&& (2147483647 : Int32)) % (12 : Int32))), (.ref ta), (.ref b7)])) (fun t k => XS.iload N90.here hx rfl (hb hby at_164) rfl k) ?_
      refine Ends.go (f' := (mkF m 168 #[.val (.int i0), .val (.int i1), .val (.int i2), .val (.int i3), .val (.int i4), .val (.ref ta), .val (.int ((i1 &&& (2147483647 : Int32)) % (6 : Int32))), .val (.int bo2), .val (.int ((i2 &&& (2147483647 : Int32)) % (12 : Int32))), .val (.int (nar .char (i3 &&& (255 : Int32)))), .val (.int (nar .char (i4 &&& (255 : Int32)))), .val (.ref b7), .val (.ref b19), .val (.ref b33), .val (.ref b49), .val (.ref b67), .val (.ref b87), .val (.ref b7), .unset, .unset] [(.int (nar .char (i4 &&& (255 : Int32)))), (.int (nar .char (i3 &&& (255 : Int32)))), (.int ((i2 &&& (2147483647 : Int32)) % (12 : Int32))), (.ref ta), (.ref b7)])) (fun t k => XS.iload N90.here hx rfl (hb hby at_166) rfl k) ?_
      refine gStatic (W := 0) (argsL := [(.ref b7), (.ref ta), (.int ((i2 &&& (2147483647 : Int32)) % (12 : Int32))), (.int (nar .char (i3 &&& (255 : Int32)))), (.int (nar .char (i4 &&& (255 : Int32))))]) (rest := []) N90 hx hZ hown (hw _ (List.mem_of_getElem? (i := 10) rfl)) (hw _ (List.mem_of_getElem? (i := 11) rfl)) (hw _ (List.mem_of_getElem? (i := 12) rfl)) (hw _ (List.mem_of_getElem? (i := 13) rfl)) (by decide) ((rmFill0 l Z a0 hw b7 ta kA8 ((i2 &&& (2147483647 : Int32)) % (12 : Int32)) (nar .char (i3 &&& (255 : Int32))) (nar .char (i4 &&& (255 : Int32))) ct h1 h86 N90.ext G X100 St1 g13 g14 (V16.ext X101) okc okf).back (W := 0) hZ (hw _ (List.mem_of_getElem? (i := 13) rfl)) (hw _ (List.mem_of_getElem? (i := 12) rfl)) (nle rfl) (nle rfl)) (hb hby at_168) rfl (by rw [hml]; rfl) (lenOf (by decide +kernel : parseMethodDescriptor "([CLjava/lang/String;ICC)V" = some ⟨[(.array .char), (.object "java/lang/String"), .int, .char, .char], none⟩) rfl) (nle rfl) (nle rfl) (nle rfl) (fun _ _ _ q => q.2) ?_
      rintro _ T117 h118 _ N119 ⟨⟨rfl, K120, V121⟩, -⟩
      have X122 : Ext h1 h118 := ext_keep X100 K120 g13
      show Ends p e below _ T117 (mkF m 171 #[.val (.int i0), .val (.int i1), .val (.int i2), .val (.int i3), .val (.int i4), .val (.ref ta), .val (.int ((i1 &&& (2147483647 : Int32)) % (6 : Int32))), .val (.int bo2), .val (.int ((i2 &&& (2147483647 : Int32)) % (12 : Int32))), .val (.int (nar .char (i3 &&& (255 : Int32)))), .val (.int (nar .char (i4 &&& (255 : Int32)))), .val (.ref b7), .val (.ref b19), .val (.ref b33), .val (.ref b49), .val (.ref b67), .val (.ref b87), .val (.ref b7), .unset, .unset] [])
      refine gNew (a0 := a0) N119 hx hZ hown (hw _ (List.mem_of_getElem? (i := 52) rfl)) (hw _ (List.mem_of_getElem? (i := 2) rfl)) (hw _ (List.mem_of_getElem? (i := 1) rfl)) (hb hby at_171) (nle rfl) (nle rfl) ?_
      intro T123 h124 a125 ea126 N127 E128 A129 D130
      have g131 : h1.size ≤ a125 := by rw [ea126]; exact X122.1
      have g132 : h118.size ≤ a125 := by rw [ea126]; exact (ext_refl h118).1
      have g133 : Z.heap.size ≤ a125 := by rw [ea126]; exact N119.le
      have X134 : Ext h1 h124 := ext_trans X122 E128
      have X135 : Ext h118 h124 := ext_trans (ext_refl h118) E128
      show Ends p e below _ T123 (mkF m 174 #[.val (.int i0), .val (.int i1), .val (.int i2), .val (.int i3), .val (.int i4), .val (.ref ta), .val (.int ((i1 &&& (2147483647 : Int32)) % (6 : Int32))), .val (.int bo2), .val (.int ((i2 &&& (2147483647 : Int32)) % (12 : Int32))), .val (.int (nar .char (i3 &&& (255 : Int32)))), .val (.int (nar .char (i4 &&& (255 : Int32)))), .val (.ref b7), .val (.ref b19), .val (.ref b33), .val (.ref b49), .val (.ref b67), .val (.ref b87), .val (.ref b7), .unset, .unset] [(.ref a125)])
      refine Ends.go (f' := (mkF m 175 #[.val (.int i0), .val (.int i1), .val (.int i2), .val (.int i3), .val (.int i4), .val (.ref ta), .val (.int ((i1 &&& (2147483647 : Int32)) % (6 : Int32))), .val (.int bo2), .val (.int ((i2 &&& (2147483647 : Int32)) % (12 : Int32))), .val (.int (nar .char (i3 &&& (255 : Int32)))), .val (.int (nar .char (i4 &&& (255 : Int32)))), .val (.ref b7), .val (.ref b19), .val (.ref b33), .val (.ref b49), .val (.ref b67), .val (.ref b87), .val (.ref b7), .unset, .unset] [(.ref a125), (.ref a125)])) (fun t k => XS.dup N127.here hx rfl (hb hby at_174) rfl rfl k) ?_
      refine Ends.go (f' := (mkF m 177 #[.val (.int i0), .val (.int i1), .val (.int i2), .val (.int i3), .val (.int i4), .val (.ref ta), .val (.int ((i1 &&& (2147483647 : Int32)) % (6 : Int32))), .val (.int bo2), .val (.int ((i2 &&& (2147483647 : Int32)) % (12 : Int32))), .val (.int (nar .char (i3 &&& (255 : Int32)))), .val (.int (nar .char (i4 &&& (255 : Int32)))), .val (.ref b7), .val (.ref b19), .val (.ref b33), .val (.ref b49), .val (.ref b67), .val (.ref b87), .val (.ref b7), .unset, .unset] [(.ref b7), (.ref a125), (.ref a125)])) (fun t k => XS.aload N127.here hx rfl (hb hby at_175) rfl rfl k) ?_
      have V136 := V121.ext X135
      refine gSpecialW (W := 1) (y := (⟨"java/lang/String", "<init>", "([C)V"⟩ : MethodName)) (a := a125) (argsL := [(.ref b7)]) (rest := [(.ref a125)]) rfl N127 hx hZ hown (wd1.ext X134) (hw _ (List.mem_of_getElem? (i := 53) rfl)) (hw _ (List.mem_of_getElem? (i := 54) rfl)) (hw _ (List.mem_of_getElem? (i := 55) rfl)) (by decide) ((rmE1 l Z a0 hw a125 b7 kA8 _ _ h124 N127.ext (A129.ext (ext_refl h124)) ((D130 (Or.inr (hw _ (List.mem_of_getElem? (i := 4) rfl))) (ty := .array .byte) (by decide)).ext (ext_refl h124)) ((D130 (Or.inr (hw _ (List.mem_of_getElem? (i := 5) rfl))) (ty := .byte) (by decide)).ext (ext_refl h124)) g133 V136).back (W := 1) hZ (hw _ (List.mem_of_getElem? (i := 55) rfl)) (hw _ (List.mem_of_getElem? (i := 1) rfl)) (nle rfl) (nle rfl) (elw hw) (wd1.ext X134)) (hb hby at_177) rfl (by rw [hml]; rfl) (lenOf (by decide +kernel : parseMethodDescriptor "([C)V" = some ⟨[(.array .char)], none⟩) rfl) (nle rfl) (nle rfl) (nle rfl) (fun _ _ _ q => q.2) ?_
      rintro _ vm137 T138 h139 L142 N140 ⟨⟨rfl, K143, S144⟩, -⟩ hZ hown wd141
      have X145 : Ext h1 h139 := ext_keep X134 K143 g131
      have X146 : Ext h118 h139 := ext_keep X135 K143 g132
      show Ends p e below _ T138 (mkF m 180 #[.val (.int i0), .val (.int i1), .val (.int i2), .val (.int i3), .val (.int i4), .val (.ref ta), .val (.int ((i1 &&& (2147483647 : Int32)) % (6 : Int32))), .val (.int bo2), .val (.int ((i2 &&& (2147483647 : Int32)) % (12 : Int32))), .val (.int (nar .char (i3 &&& (255 : Int32)))), .val (.int (nar .char (i4 &&& (255 : Int32)))), .val (.ref b7), .val (.ref b19), .val (.ref b33), .val (.ref b49), .val (.ref b67), .val (.ref b87), .val (.ref b7), .unset, .unset] [(.ref a125)])
      refine Ends.go (f' := (mkF m 182 #[.val (.int i0), .val (.int i1), .val (.int i2), .val (.int i3), .val (.int i4), .val (.ref ta), .val (.int ((i1 &&& (2147483647 : Int32)) % (6 : Int32))), .val (.int bo2), .val (.int ((i2 &&& (2147483647 : Int32)) % (12 : Int32))), .val (.int (nar .char (i3 &&& (255 : Int32)))), .val (.int (nar .char (i4 &&& (255 : Int32)))), .val (.ref b7), .val (.ref b19), .val (.ref b33), .val (.ref b49), .val (.ref b67), .val (.ref b87), .val (.ref b7), .val (.ref a125), .unset] [])) (fun t k => XS.astore N140.here hx rfl (hb hby at_180) rfl rfl (l' := #[.val (.int i0), .val (.int i1), .val (.int i2), .val (.int i3), .val (.int i4), .val (.ref ta), .val (.int ((i1 &&& (2147483647 : Int32)) % (6 : Int32))), .val (.int bo2), .val (.int ((i2 &&& (2147483647 : Int32)) % (12 : Int32))), .val (.int (nar .char (i3 &&& (255 : Int32)))), .val (.int (nar .char (i4 &&& (255 : Int32)))), .val (.ref b7), .val (.ref b19), .val (.ref b33), .val (.ref b49), .val (.ref b67), .val (.ref b87), .val (.ref b7), .val (.ref a125), .unset]) rfl k) ?_
      exact join2 vm137 T138 h139 _ _ _ (N140.mono (nle rfl) (nle rfl)) hZ hown wd141 S144 (St1.ext X145) (by simp only [fillCs, if_pos k0])
    · refine Ends.go (f' := (mkF m 110 #[.val (.int i0), .val (.int i1), .val (.int i2), .val (.int i3), .val (.int i4), .val (.ref ta), .val (.int ((i1 &&& (2147483647 : Int32)) % (6 : Int32))), .val (.int bo2), .val (.int ((i2 &&& (2147483647 : Int32)) % (12 : Int32))), .val (.int (nar .char (i3 &&& (255 : Int32)))), .val (.int (nar .char (i4 &&& (255 : Int32)))), .val (.ref b7), .val (.ref b19), .val (.ref b33), .val (.ref b49), .val (.ref b67), .val (.ref b87), .unset, .unset, .unset] [])) (fun t k => XS.ifYes N90.here hx rfl (pc0 := 102) (pc' := 110) rfl (hb hby at_102) rfl (XT.i0_ne_t k0) (by decide) (by decide) k) ?_
      refine Ends.go (f' := (mkF m 112 #[.val (.int i0), .val (.int i1), .val (.int i2), .val (.int i3), .val (.int i4), .val (.ref ta), .val (.int ((i1 &&& (2147483647 : Int32)) % (6 : Int32))), .val (.int bo2), .val (.int ((i2 &&& (2147483647 : Int32)) % (12 : Int32))), .val (.int (nar .char (i3 &&& (255 : Int32)))), .val (.int (nar .char (i4 &&& (255 : Int32)))), .val (.ref b7), .val (.ref b19), .val (.ref b33), .val (.ref b49), .val (.ref b67), .val (.ref b87), .unset, .unset, .unset] [(.int ((i1 &&& (2147483647 : Int32)) % (6 : Int32)))])) (fun t k => XS.iload N90.here hx rfl (hb hby at_110) rfl k) ?_
      refine Ends.go (f' := (mkF m 113 #[.val (.int i0), .val (.int i1), .val (.int i2), .val (.int i3), .val (.int i4), .val (.ref ta), .val (.int ((i1 &&& (2147483647 : Int32)) % (6 : Int32))), .val (.int bo2), .val (.int ((i2 &&& (2147483647 : Int32)) % (12 : Int32))), .val (.int (nar .char (i3 &&& (255 : Int32)))), .val (.int (nar .char (i4 &&& (255 : Int32)))), .val (.ref b7), .val (.ref b19), .val (.ref b33), .val (.ref b49), .val (.ref b67), .val (.ref b87), .unset, .unset, .unset] [(.int (1 : Int32)), (.int ((i1 &&& (2147483647 : Int32)) % (6 : Int32)))])) (fun t k => XS.iconst N90.here hx rfl (hb hby at_112) k) ?_
      by_cases k1 : ((i1 &&& (2147483647 : Int32)) % (6 : Int32)) = (1 : Int32)
      · refine Ends.go (f' := (mkF m 116 #[.val (.int i0), .val (.int i1), .val (.int i2), .val (.int i3), .val (.int i4), .val (.ref ta), .val (.int ((i1 &&& (2147483647 : Int32)) % (6 : Int32))), .val (.int bo2), .val (.int ((i2 &&& (2147483647 : Int32)) % (12 : Int32))), .val (.int (nar .char (i3 &&& (255 : Int32)))), .val (.int (nar .char (i4 &&& (255 : Int32)))), .val (.ref b7), .val (.ref b19), .val (.ref b33), .val (.ref b49), .val (.ref b67), .val (.ref b87), .unset, .unset, .unset] [])) (fun t k => XS.icmpNo N90.here hx rfl (hb hby at_113) rfl (XT.ii_ne_f k1) k) ?_
        refine Ends.go (f' := (mkF m 118 #[.val (.int i0), .val (.int i1), .val (.int i2), .val (.int i3), .val (.int i4), .val (.ref ta), .val (.int ((i1 &&& (2147483647 : Int32)) % (6 : Int32))), .val (.int bo2), .val (.int ((i2 &&& (2147483647 : Int32)) % (12 : Int32))), .val (.int (nar .char (i3 &&& (255 : Int32)))), .val (.int (nar .char (i4 &&& (255 : Int32)))), .val (.ref b7), .val (.ref b19), .val (.ref b33), .val (.ref b49), .val (.ref b67), .val (.ref b87), .unset, .unset, .unset] [(.ref b19)])) (fun t k => XS.aload N90.here hx rfl (hb hby at_116) rfl rfl k) ?_
        refine Ends.go (f' := (mkF m 156 #[.val (.int i0), .val (.int i1), .val (.int i2), .val (.int i3), .val (.int i4), .val (.ref ta), .val (.int ((i1 &&& (2147483647 : Int32)) % (6 : Int32))), .val (.int bo2), .val (.int ((i2 &&& (2147483647 : Int32)) % (12 : Int32))), .val (.int (nar .char (i3 &&& (255 : Int32)))), .val (.int (nar .char (i4 &&& (255 : Int32)))), .val (.ref b7), .val (.ref b19), .val (.ref b33), .val (.ref b49), .val (.ref b67), .val (.ref b87), .unset, .unset, .unset] [(.ref b19)])) (fun t k => XS.goto N90.here hx rfl (pc0 := 118) (pc' := 156) rfl (hb hby at_118) (by decide) (by decide) k) ?_
        refine Ends.go (f' := (mkF m 158 #[.val (.int i0), .val (.int i1), .val (.int i2), .val (.int i3), .val (.int i4), .val (.ref ta), .val (.int ((i1 &&& (2147483647 : Int32)) % (6 : Int32))), .val (.int bo2), .val (.int ((i2 &&& (2147483647 : Int32)) % (12 : Int32))), .val (.int (nar .char (i3 &&& (255 : Int32)))), .val (.int (nar .char (i4 &&& (255 : Int32)))), .val (.ref b7), .val (.ref b19), .val (.ref b33), .val (.ref b49), .val (.ref b67), .val (.ref b87), .val (.ref b19), .unset, .unset] [])) (fun t k => XS.astore N90.here hx rfl (hb hby at_156) rfl rfl (l' := #[.val (.int i0), .val (.int i1), .val (.int i2), .val (.int i3), .val (.int i4), .val (.ref ta), .val (.int ((i1 &&& (2147483647 : Int32)) % (6 : Int32))), .val (.int bo2), .val (.int ((i2 &&& (2147483647 : Int32)) % (12 : Int32))), .val (.int (nar .char (i3 &&& (255 : Int32)))), .val (.int (nar .char (i4 &&& (255 : Int32)))), .val (.ref b7), .val (.ref b19), .val (.ref b33), .val (.ref b49), .val (.ref b67), .val (.ref b87), .val (.ref b19), .unset, .unset]) rfl k) ?_
        refine Ends.go (f' := (mkF m 160 #[.val (.int i0), .val (.int i1), .val (.int i2), .val (.int i3), .val (.int i4), .val (.ref ta), .val (.int ((i1 &&& (2147483647 : Int32)) % (6 : Int32))), .val (.int bo2), .val (.int ((i2 &&& (2147483647 : Int32)) % (12 : Int32))), .val (.int (nar .char (i3 &&& (255 : Int32)))), .val (.int (nar .char (i4 &&& (255 : Int32)))), .val (.ref b7), .val (.ref b19), .val (.ref b33), .val (.ref b49), .val (.ref b67), .val (.ref b87), .val (.ref b19), .unset, .unset] [(.ref b19)])) (fun t k => XS.aload N90.here hx rfl (hb hby at_158) rfl rfl k) ?_
        refine Ends.go (f' := (mkF m 162 #[.val (.int i0), .val (.int i1), .val (.int i2), .val (.int i3), .val (.int i4), .val (.ref ta), .val (.int ((i1 &&& (2147483647 : Int32)) % (6 : Int32))), .val (.int bo2), .val (.int ((i2 &&& (2147483647 : Int32)) % (12 : Int32))), .val (.int (nar .char (i3 &&& (255 : Int32)))), .val (.int (nar .char (i4 &&& (255 : Int32)))), .val (.ref b7), .val (.ref b19), .val (.ref b33), .val (.ref b49), .val (.ref b67), .val (.ref b87), .val (.ref b19), .unset, .unset] [(.ref ta), (.ref b19)])) (fun t k => XS.aload N90.here hx rfl (hb hby at_160) rfl rfl k) ?_
        refine Ends.go (f' := (mkF m 164 #[.val (.int i0), .val (.int i1), .val (.int i2), .val (.int i3), .val (.int i4), .val (.ref ta), .val (.int ((i1 &&& (2147483647 : Int32)) % (6 : Int32))), .val (.int bo2), .val (.int ((i2 &&& (2147483647 : Int32)) % (12 : Int32))), .val (.int (nar .char (i3 &&& (255 : Int32)))), .val (.int (nar .char (i4 &&& (255 : Int32)))), .val (.ref b7), .val (.ref b19), .val (.ref b33), .val (.ref b49), .val (.ref b67), .val (.ref b87), .val (.ref b19), .unset, .unset] [(.int ((i2 &&& (2147483647 : Int32)) % (12 : Int32))), (.ref ta), (.ref b19)])) (fun t k => XS.iload N90.here hx rfl (hb hby at_162) rfl k) ?_
        refine Ends.go (f' := (mkF m 166 #[.val (.int i0), .val (.int i1), .val (.int i2), .val (.int i3), .val (.int i4), .val (.ref ta), .val (.int ((i1 &&& (2147483647 : Int32)) % (6 : Int32))), .val (.int bo2), .val (.int ((i2 &&& (2147483647 : Int32)) % (12 : Int32))), .val (.int (nar .char (i3 &&& (255 : Int32)))), .val (.int (nar .char (i4 &&& (255 : Int32)))), .val (.ref b7), .val (.ref b19), .val (.ref b33), .val (.ref b49), .val (.ref b67), .val (.ref b87), .val (.ref b19), .unset, .unset] [(.int (nar .char (i3 &&& (255 : Int32)))), (.int ((i2 &&& (2147483647 : Int32)) % (12 : Int32))), (.ref ta), (.ref b19)])) (fun t k => XS.iload N90.here hx rfl (hb hby at_164) rfl k) ?_
        refine Ends.go (f' := (mkF m 168 #[.val (.int i0), .val (.int i1), .val (.int i2), .val (.int i3), .val (.int i4), .val (.ref ta), .val (.int ((i1 &&& (2147483647 : Int32)) % (6 : Int32))), .val (.int bo2), .val (.int ((i2 &&& (2147483647 : Int32)) % (12 : Int32))), .val (.int (nar .char (i3 &&& (255 : Int32)))), .val (.int (nar .char (i4 &&& (255 : Int32)))), .val (.ref b7), .val (.ref b19), .val (.ref b33), .val (.ref b49), .val (.ref b67), .val (.ref b87), .val (.ref b19), .unset, .unset] [(.int (nar .char (i4 &&& (255 : Int32)))), (.int (nar .char (i3 &&& (255 : Int32)))), (.int ((i2 &&& (2147483647 : Int32)) % (12 : Int32))), (.ref ta), (.ref b19)])) (fun t k => XS.iload N90.here hx rfl (hb hby at_166) rfl k) ?_
        refine gStatic (W := 0) (argsL := [(.ref b19), (.ref ta), (.int ((i2 &&& (2147483647 : Int32)) % (12 : Int32))), (.int (nar .char (i3 &&& (255 : Int32)))), (.int (nar .char (i4 &&& (255 : Int32))))]) (rest := []) N90 hx hZ hown (hw _ (List.mem_of_getElem? (i := 10) rfl)) (hw _ (List.mem_of_getElem? (i := 11) rfl)) (hw _ (List.mem_of_getElem? (i := 12) rfl)) (hw _ (List.mem_of_getElem? (i := 13) rfl)) (by decide) ((rmFill6 l Z a0 hw b19 ta kA20 ((i2 &&& (2147483647 : Int32)) % (12 : Int32)) (nar .char (i3 &&& (255 : Int32))) (nar .char (i4 &&& (255 : Int32))) ct h1 h86 N90.ext G X100 St1 g25 g27 (V30.ext X102) okc okf).back (W := 0) hZ (hw _ (List.mem_of_getElem? (i := 13) rfl)) (hw _ (List.mem_of_getElem? (i := 12) rfl)) (nle rfl) (nle rfl)) (hb hby at_168) rfl (by rw [hml]; rfl) (lenOf (by decide +kernel : parseMethodDescriptor "([CLjava/lang/String;ICC)V" = some ⟨[(.array .char), (.object "java/lang/String"), .int, .char, .char], none⟩) rfl) (nle rfl) (nle rfl) (nle rfl) (fun _ _ _ q => q.2) ?_
        rintro _ T147 h148 _ N149 ⟨⟨rfl, K150, V151⟩, -⟩
        have X152 : Ext h1 h148 := ext_keep X100 K150 g25
        have X153 : Ext h6 h148 := ext_keep X101 K150 g26
        show Ends p e below _ T147 (mkF m 171 #[.val (.int i0), .val (.int i1), .val (.int i2), .val (.int i3), .val (.int i4), .val (.ref ta), .val (.int ((i1 &&& (2147483647 : Int32)) % (6 : Int32))), .val (.int bo2), .val (.int ((i2 &&& (2147483647 : Int32)) % (12 : Int32))), .val (.int (nar .char (i3 &&& (255 : Int32)))), .val (.int (nar .char (i4 &&& (255 : Int32)))), .val (.ref b7), .val (.ref b19), .val (.ref b33), .val (.ref b49), .val (.ref b67), .val (.ref b87), .val (.ref b19), .unset, .unset] [])
        refine gNew (a0 := a0) N149 hx hZ hown (hw _ (List.mem_of_getElem? (i := 52) rfl)) (hw _ (List.mem_of_getElem? (i := 2) rfl)) (hw _ (List.mem_of_getElem? (i := 1) rfl)) (hb hby at_171) (nle rfl) (nle rfl) ?_
        intro T154 h155 a156 ea157 N158 E159 A160 D161
        have g162 : h1.size ≤ a156 := by rw [ea157]; exact X152.1
        have g163 : h6.size ≤ a156 := by rw [ea157]; exact X153.1
        have g164 : h148.size ≤ a156 := by rw [ea157]; exact (ext_refl h148).1
        have g165 : Z.heap.size ≤ a156 := by rw [ea157]; exact N149.le
        have X166 : Ext h1 h155 := ext_trans X152 E159
        have X167 : Ext h6 h155 := ext_trans X153 E159
        have X168 : Ext h148 h155 := ext_trans (ext_refl h148) E159
        show Ends p e below _ T154 (mkF m 174 #[.val (.int i0), .val (.int i1), .val (.int i2), .val (.int i3), .val (.int i4), .val (.ref ta), .val (.int ((i1 &&& (2147483647 : Int32)) % (6 : Int32))), .val (.int bo2), .val (.int ((i2 &&& (2147483647 : Int32)) % (12 : Int32))), .val (.int (nar .char (i3 &&& (255 : Int32)))), .val (.int (nar .char (i4 &&& (255 : Int32)))), .val (.ref b7), .val (.ref b19), .val (.ref b33), .val (.ref b49), .val (.ref b67), .val (.ref b87), .val (.ref b19), .unset, .unset] [(.ref a156)])
        refine Ends.go (f' := (mkF m 175 #[.val (.int i0), .val (.int i1), .val (.int i2), .val (.int i3), .val (.int i4), .val (.ref ta), .val (.int ((i1 &&& (2147483647 : Int32)) % (6 : Int32))), .val (.int bo2), .val (.int ((i2 &&& (2147483647 : Int32)) % (12 : Int32))), .val (.int (nar .char (i3 &&& (255 : Int32)))), .val (.int (nar .char (i4 &&& (255 : Int32)))), .val (.ref b7), .val (.ref b19), .val (.ref b33), .val (.ref b49), .val (.ref b67), .val (.ref b87), .val (.ref b19), .unset, .unset] [(.ref a156), (.ref a156)])) (fun t k => XS.dup N158.here hx rfl (hb hby at_174) rfl rfl k) ?_
        refine Ends.go (f' := (mkF m 177 #[.val (.int i0), .val (.int i1), .val (.int i2), .val (.int i3), .val (.int i4), .val (.ref ta), .val (.int ((i1 &&& (2147483647 : Int32)) % (6 : Int32))), .val (.int bo2), .val (.int ((i2 &&& (2147483647 : Int32)) % (12 : Int32))), .val (.int (nar .char (i3 &&& (255 : Int32)))), .val (.int (nar .char (i4 &&& (255 : Int32)))), .val (.ref b7), .val (.ref b19), .val (.ref b33), .val (.ref b49), .val (.ref b67), .val (.ref b87), .val (.ref b19), .unset, .unset] [(.ref b19), (.ref a156), (.ref a156)])) (fun t k => XS.aload N158.here hx rfl (hb hby at_175) rfl rfl k) ?_
        have V169 := V151.ext X168
        refine gSpecial (W := 1) (y := (⟨"java/lang/String", "<init>", "([C)V"⟩ : MethodName)) (a := a156) (argsL := [(.ref b19)]) (rest := [(.ref a156)]) rfl N158 hx hZ hown (hw _ (List.mem_of_getElem? (i := 53) rfl)) (hw _ (List.mem_of_getElem? (i := 54) rfl)) (hw _ (List.mem_of_getElem? (i := 55) rfl)) (by decide) (strNew (W := 1) (cs := [(fAt ct 0 ((i2 &&& (2147483647 : Int32)) % (12 : Int32)) (nar .char (i3 &&& (255 : Int32))) (nar .char (i4 &&& (255 : Int32)))), (fAt ct 1 ((i2 &&& (2147483647 : Int32)) % (12 : Int32)) (nar .char (i3 &&& (255 : Int32))) (nar .char (i4 &&& (255 : Int32)))), (fAt ct 2 ((i2 &&& (2147483647 : Int32)) % (12 : Int32)) (nar .char (i3 &&& (255 : Int32))) (nar .char (i4 &&& (255 : Int32)))), (fAt ct 3 ((i2 &&& (2147483647 : Int32)) % (12 : Int32)) (nar .char (i3 &&& (255 : Int32))) (nar .char (i4 &&& (255 : Int32)))), (fAt ct 4 ((i2 &&& (2147483647 : Int32)) % (12 : Int32)) (nar .char (i3 &&& (255 : Int32))) (nar .char (i4 &&& (255 : Int32)))), (fAt ct 5 ((i2 &&& (2147483647 : Int32)) % (12 : Int32)) (nar .char (i3 &&& (255 : Int32))) (nar .char (i4 &&& (255 : Int32))))]) hZ hw G N158.ext g165 (A160.ext (ext_refl h155)) ((D161 (Or.inr (hw _ (List.mem_of_getElem? (i := 4) rfl))) (ty := .array .byte) (by decide)).ext (ext_refl h155)) ((D161 (Or.inr (hw _ (List.mem_of_getElem? (i := 5) rfl))) (ty := .byte) (by decide)).ext (ext_refl h155)) V169 (nle rfl) (nle rfl) (hp_cons (at_ok okc okf St1.2.2.2.1) (hp_cons (at_ok okc okf St1.2.2.2.1) (hp_cons (at_ok okc okf St1.2.2.2.1) (hp_cons (at_ok okc okf St1.2.2.2.1) (hp_cons (at_ok okc okf St1.2.2.2.1) (hp_cons (at_ok okc okf St1.2.2.2.1) hp_nil)))))) (nle rfl) (nle rfl)) (hb hby at_177) rfl (by rw [hml]; rfl) (lenOf (by decide +kernel : parseMethodDescriptor "([C)V" = some ⟨[(.array .char)], none⟩) rfl) (nle rfl) (nle rfl) (nle rfl) (fun _ _ _ q => q.2.2.2) ?_
        rintro _ T170 h171 L172 N173 ⟨rfl, K174, S175, -⟩
        have X176 : Ext h1 h171 := ext_keep X166 K174 g162
        have X177 : Ext h6 h171 := ext_keep X167 K174 g163
        have X178 : Ext h148 h171 := ext_keep X168 K174 g164
        show Ends p e below _ T170 (mkF m 180 #[.val (.int i0), .val (.int i1), .val (.int i2), .val (.int i3), .val (.int i4), .val (.ref ta), .val (.int ((i1 &&& (2147483647 : Int32)) % (6 : Int32))), .val (.int bo2), .val (.int ((i2 &&& (2147483647 : Int32)) % (12 : Int32))), .val (.int (nar .char (i3 &&& (255 : Int32)))), .val (.int (nar .char (i4 &&& (255 : Int32)))), .val (.ref b7), .val (.ref b19), .val (.ref b33), .val (.ref b49), .val (.ref b67), .val (.ref b87), .val (.ref b19), .unset, .unset] [(.ref a156)])
        refine Ends.go (f' := (mkF m 182 #[.val (.int i0), .val (.int i1), .val (.int i2), .val (.int i3), .val (.int i4), .val (.ref ta), .val (.int ((i1 &&& (2147483647 : Int32)) % (6 : Int32))), .val (.int bo2), .val (.int ((i2 &&& (2147483647 : Int32)) % (12 : Int32))), .val (.int (nar .char (i3 &&& (255 : Int32)))), .val (.int (nar .char (i4 &&& (255 : Int32)))), .val (.ref b7), .val (.ref b19), .val (.ref b33), .val (.ref b49), .val (.ref b67), .val (.ref b87), .val (.ref b19), .val (.ref a156), .unset] [])) (fun t k => XS.astore N173.here hx rfl (hb hby at_180) rfl rfl (l' := #[.val (.int i0), .val (.int i1), .val (.int i2), .val (.int i3), .val (.int i4), .val (.ref ta), .val (.int ((i1 &&& (2147483647 : Int32)) % (6 : Int32))), .val (.int bo2), .val (.int ((i2 &&& (2147483647 : Int32)) % (12 : Int32))), .val (.int (nar .char (i3 &&& (255 : Int32)))), .val (.int (nar .char (i4 &&& (255 : Int32)))), .val (.ref b7), .val (.ref b19), .val (.ref b33), .val (.ref b49), .val (.ref b67), .val (.ref b87), .val (.ref b19), .val (.ref a156), .unset]) rfl k) ?_
        exact join2 vm1 T170 h171 _ _ _ (N173.mono (nle rfl) (nle rfl)) hZ hown (wd1.ext X176) S175 (St1.ext X176) (by simp only [fillCs, if_neg k0, if_pos k1])
      · refine Ends.go (f' := (mkF m 121 #[.val (.int i0), .val (.int i1), .val (.int i2), .val (.int i3), .val (.int i4), .val (.ref ta), .val (.int ((i1 &&& (2147483647 : Int32)) % (6 : Int32))), .val (.int bo2), .val (.int ((i2 &&& (2147483647 : Int32)) % (12 : Int32))), .val (.int (nar .char (i3 &&& (255 : Int32)))), .val (.int (nar .char (i4 &&& (255 : Int32)))), .val (.ref b7), .val (.ref b19), .val (.ref b33), .val (.ref b49), .val (.ref b67), .val (.ref b87), .unset, .unset, .unset] [])) (fun t k => XS.icmpYes N90.here hx rfl (pc0 := 113) (pc' := 121) rfl (hb hby at_113) rfl (XT.ii_ne_t k1) (by decide) (by decide) k) ?_
        refine Ends.go (f' := (mkF m 123 #[.val (.int i0), .val (.int i1), .val (.int i2), .val (.int i3), .val (.int i4), .val (.ref ta), .val (.int ((i1 &&& (2147483647 : Int32)) % (6 : Int32))), .val (.int bo2), .val (.int ((i2 &&& (2147483647 : Int32)) % (12 : Int32))), .val (.int (nar .char (i3 &&& (255 : Int32)))), .val (.int (nar .char (i4 &&& (255 : Int32)))), .val (.ref b7), .val (.ref b19), .val (.ref b33), .val (.ref b49), .val (.ref b67), .val (.ref b87), .unset, .unset, .unset] [(.int ((i1 &&& (2147483647 : Int32)) % (6 : Int32)))])) (fun t k => XS.iload N90.here hx rfl (hb hby at_121) rfl k) ?_
        refine Ends.go (f' := (mkF m 124 #[.val (.int i0), .val (.int i1), .val (.int i2), .val (.int i3), .val (.int i4), .val (.ref ta), .val (.int ((i1 &&& (2147483647 : Int32)) % (6 : Int32))), .val (.int bo2), .val (.int ((i2 &&& (2147483647 : Int32)) % (12 : Int32))), .val (.int (nar .char (i3 &&& (255 : Int32)))), .val (.int (nar .char (i4 &&& (255 : Int32)))), .val (.ref b7), .val (.ref b19), .val (.ref b33), .val (.ref b49), .val (.ref b67), .val (.ref b87), .unset, .unset, .unset] [(.int (2 : Int32)), (.int ((i1 &&& (2147483647 : Int32)) % (6 : Int32)))])) (fun t k => XS.iconst N90.here hx rfl (hb hby at_123) k) ?_
        by_cases k2 : ((i1 &&& (2147483647 : Int32)) % (6 : Int32)) = (2 : Int32)
        · refine Ends.go (f' := (mkF m 127 #[.val (.int i0), .val (.int i1), .val (.int i2), .val (.int i3), .val (.int i4), .val (.ref ta), .val (.int ((i1 &&& (2147483647 : Int32)) % (6 : Int32))), .val (.int bo2), .val (.int ((i2 &&& (2147483647 : Int32)) % (12 : Int32))), .val (.int (nar .char (i3 &&& (255 : Int32)))), .val (.int (nar .char (i4 &&& (255 : Int32)))), .val (.ref b7), .val (.ref b19), .val (.ref b33), .val (.ref b49), .val (.ref b67), .val (.ref b87), .unset, .unset, .unset] [])) (fun t k => XS.icmpNo N90.here hx rfl (hb hby at_124) rfl (XT.ii_ne_f k2) k) ?_
          refine Ends.go (f' := (mkF m 129 #[.val (.int i0), .val (.int i1), .val (.int i2), .val (.int i3), .val (.int i4), .val (.ref ta), .val (.int ((i1 &&& (2147483647 : Int32)) % (6 : Int32))), .val (.int bo2), .val (.int ((i2 &&& (2147483647 : Int32)) % (12 : Int32))), .val (.int (nar .char (i3 &&& (255 : Int32)))), .val (.int (nar .char (i4 &&& (255 : Int32)))), .val (.ref b7), .val (.ref b19), .val (.ref b33), .val (.ref b49), .val (.ref b67), .val (.ref b87), .unset, .unset, .unset] [(.ref b33)])) (fun t k => XS.aload N90.here hx rfl (hb hby at_127) rfl rfl k) ?_
          refine Ends.go (f' := (mkF m 156 #[.val (.int i0), .val (.int i1), .val (.int i2), .val (.int i3), .val (.int i4), .val (.ref ta), .val (.int ((i1 &&& (2147483647 : Int32)) % (6 : Int32))), .val (.int bo2), .val (.int ((i2 &&& (2147483647 : Int32)) % (12 : Int32))), .val (.int (nar .char (i3 &&& (255 : Int32)))), .val (.int (nar .char (i4 &&& (255 : Int32)))), .val (.ref b7), .val (.ref b19), .val (.ref b33), .val (.ref b49), .val (.ref b67), .val (.ref b87), .unset, .unset, .unset] [(.ref b33)])) (fun t k => XS.goto N90.here hx rfl (pc0 := 129) (pc' := 156) rfl (hb hby at_129) (by decide) (by decide) k) ?_
          refine Ends.go (f' := (mkF m 158 #[.val (.int i0), .val (.int i1), .val (.int i2), .val (.int i3), .val (.int i4), .val (.ref ta), .val (.int ((i1 &&& (2147483647 : Int32)) % (6 : Int32))), .val (.int bo2), .val (.int ((i2 &&& (2147483647 : Int32)) % (12 : Int32))), .val (.int (nar .char (i3 &&& (255 : Int32)))), .val (.int (nar .char (i4 &&& (255 : Int32)))), .val (.ref b7), .val (.ref b19), .val (.ref b33), .val (.ref b49), .val (.ref b67), .val (.ref b87), .val (.ref b33), .unset, .unset] [])) (fun t k => XS.astore N90.here hx rfl (hb hby at_156) rfl rfl (l' := #[.val (.int i0), .val (.int i1), .val (.int i2), .val (.int i3), .val (.int i4), .val (.ref ta), .val (.int ((i1 &&& (2147483647 : Int32)) % (6 : Int32))), .val (.int bo2), .val (.int ((i2 &&& (2147483647 : Int32)) % (12 : Int32))), .val (.int (nar .char (i3 &&& (255 : Int32)))), .val (.int (nar .char (i4 &&& (255 : Int32)))), .val (.ref b7), .val (.ref b19), .val (.ref b33), .val (.ref b49), .val (.ref b67), .val (.ref b87), .val (.ref b33), .unset, .unset]) rfl k) ?_
          refine Ends.go (f' := (mkF m 160 #[.val (.int i0), .val (.int i1), .val (.int i2), .val (.int i3), .val (.int i4), .val (.ref ta), .val (.int ((i1 &&& (2147483647 : Int32)) % (6 : Int32))), .val (.int bo2), .val (.int ((i2 &&& (2147483647 : Int32)) % (12 : Int32))), .val (.int (nar .char (i3 &&& (255 : Int32)))), .val (.int (nar .char (i4 &&& (255 : Int32)))), .val (.ref b7), .val (.ref b19), .val (.ref b33), .val (.ref b49), .val (.ref b67), .val (.ref b87), .val (.ref b33), .unset, .unset] [(.ref b33)])) (fun t k => XS.aload N90.here hx rfl (hb hby at_158) rfl rfl k) ?_
          refine Ends.go (f' := (mkF m 162 #[.val (.int i0), .val (.int i1), .val (.int i2), .val (.int i3), .val (.int i4), .val (.ref ta), .val (.int ((i1 &&& (2147483647 : Int32)) % (6 : Int32))), .val (.int bo2), .val (.int ((i2 &&& (2147483647 : Int32)) % (12 : Int32))), .val (.int (nar .char (i3 &&& (255 : Int32)))), .val (.int (nar .char (i4 &&& (255 : Int32)))), .val (.ref b7), .val (.ref b19), .val (.ref b33), .val (.ref b49), .val (.ref b67), .val (.ref b87), .val (.ref b33), .unset, .unset] [(.ref ta), (.ref b33)])) (fun t k => XS.aload N90.here hx rfl (hb hby at_160) rfl rfl k) ?_
          refine Ends.go (f' := (mkF m 164 #[.val (.int i0), .val (.int i1), .val (.int i2), .val (.int i3), .val (.int i4), .val (.ref ta), .val (.int ((i1 &&& (2147483647 : Int32)) % (6 : Int32))), .val (.int bo2), .val (.int ((i2 &&& (2147483647 : Int32)) % (12 : Int32))), .val (.int (nar .char (i3 &&& (255 : Int32)))), .val (.int (nar .char (i4 &&& (255 : Int32)))), .val (.ref b7), .val (.ref b19), .val (.ref b33), .val (.ref b49), .val (.ref b67), .val (.ref b87), .val (.ref b33), .unset, .unset] [(.int ((i2 &&& (2147483647 : Int32)) % (12 : Int32))), (.ref ta), (.ref b33)])) (fun t k => XS.iload N90.here hx rfl (hb hby at_162) rfl k) ?_
          refine Ends.go (f' := (mkF m 166 #[.val (.int i0), .val (.int i1), .val (.int i2), .val (.int i3), .val (.int i4), .val (.ref ta), .val (.int ((i1 &&& (2147483647 : Int32)) % (6 : Int32))), .val (.int bo2), .val (.int ((i2 &&& (2147483647 : Int32)) % (12 : Int32))), .val (.int (nar .char (i3 &&& (255 : Int32)))), .val (.int (nar .char (i4 &&& (255 : Int32)))), .val (.ref b7), .val (.ref b19), .val (.ref b33), .val (.ref b49), .val (.ref b67), .val (.ref b87), .val (.ref b33), .unset, .unset] [(.int (nar .char (i3 &&& (255 : Int32)))), (.int ((i2 &&& (2147483647 : Int32)) % (12 : Int32))), (.ref ta), (.ref b33)])) (fun t k => XS.iload N90.here hx rfl (hb hby at_164) rfl k) ?_
          refine Ends.go (f' := (mkF m 168 #[.val (.int i0), .val (.int i1), .val (.int i2), .val (.int i3), .val (.int i4), .val (.ref ta), .val (.int ((i1 &&& (2147483647 : Int32)) % (6 : Int32))), .val (.int bo2), .val (.int ((i2 &&& (2147483647 : Int32)) % (12 : Int32))), .val (.int (nar .char (i3 &&& (255 : Int32)))), .val (.int (nar .char (i4 &&& (255 : Int32)))), .val (.ref b7), .val (.ref b19), .val (.ref b33), .val (.ref b49), .val (.ref b67), .val (.ref b87), .val (.ref b33), .unset, .unset] [(.int (nar .char (i4 &&& (255 : Int32)))), (.int (nar .char (i3 &&& (255 : Int32)))), (.int ((i2 &&& (2147483647 : Int32)) % (12 : Int32))), (.ref ta), (.ref b33)])) (fun t k => XS.iload N90.here hx rfl (hb hby at_166) rfl k) ?_
          refine gStatic (W := 0) (argsL := [(.ref b33), (.ref ta), (.int ((i2 &&& (2147483647 : Int32)) % (12 : Int32))), (.int (nar .char (i3 &&& (255 : Int32)))), (.int (nar .char (i4 &&& (255 : Int32))))]) (rest := []) N90 hx hZ hown (hw _ (List.mem_of_getElem? (i := 10) rfl)) (hw _ (List.mem_of_getElem? (i := 11) rfl)) (hw _ (List.mem_of_getElem? (i := 12) rfl)) (hw _ (List.mem_of_getElem? (i := 13) rfl)) (by decide) ((rmFill7 l Z a0 hw b33 ta kA34 ((i2 &&& (2147483647 : Int32)) % (12 : Int32)) (nar .char (i3 &&& (255 : Int32))) (nar .char (i4 &&& (255 : Int32))) ct h1 h86 N90.ext G X100 St1 g39 g42 (V46.ext X103) okc okf).back (W := 0) hZ (hw _ (List.mem_of_getElem? (i := 13) rfl)) (hw _ (List.mem_of_getElem? (i := 12) rfl)) (nle rfl) (nle rfl)) (hb hby at_168) rfl (by rw [hml]; rfl) (lenOf (by decide +kernel : parseMethodDescriptor "([CLjava/lang/String;ICC)V" = some ⟨[(.array .char), (.object "java/lang/String"), .int, .char, .char], none⟩) rfl) (nle rfl) (nle rfl) (nle rfl) (fun _ _ _ q => q.2) ?_
          rintro _ T179 h180 _ N181 ⟨⟨rfl, K182, V183⟩, -⟩
          have X184 : Ext h1 h180 := ext_keep X100 K182 g39
          have X185 : Ext h6 h180 := ext_keep X101 K182 g40
          have X186 : Ext h18 h180 := ext_keep X102 K182 g41
          show Ends p e below _ T179 (mkF m 171 #[.val (.int i0), .val (.int i1), .val (.int i2), .val (.int i3), .val (.int i4), .val (.ref ta), .val (.int ((i1 &&& (2147483647 : Int32)) % (6 : Int32))), .val (.int bo2), .val (.int ((i2 &&& (2147483647 : Int32)) % (12 : Int32))), .val (.int (nar .char (i3 &&& (255 : Int32)))), .val (.int (nar .char (i4 &&& (255 : Int32)))), .val (.ref b7), .val (.ref b19), .val (.ref b33), .val (.ref b49), .val (.ref b67), .val (.ref b87), .val (.ref b33), .unset, .unset] [])
          refine gNew (a0 := a0) N181 hx hZ hown (hw _ (List.mem_of_getElem? (i := 52) rfl)) (hw _ (List.mem_of_getElem? (i := 2) rfl)) (hw _ (List.mem_of_getElem? (i := 1) rfl)) (hb hby at_171) (nle rfl) (nle rfl) ?_
          intro T187 h188 a189 ea190 N191 E192 A193 D194
          have g195 : h1.size ≤ a189 := by rw [ea190]; exact X184.1
          have g196 : h6.size ≤ a189 := by rw [ea190]; exact X185.1
          have g197 : h18.size ≤ a189 := by rw [ea190]; exact X186.1
          have g198 : h180.size ≤ a189 := by rw [ea190]; exact (ext_refl h180).1
          have g199 : Z.heap.size ≤ a189 := by rw [ea190]; exact N181.le
          have X200 : Ext h1 h188 := ext_trans X184 E192
          have X201 : Ext h6 h188 := ext_trans X185 E192
          have X202 : Ext h18 h188 := ext_trans X186 E192
          have X203 : Ext h180 h188 := ext_trans (ext_refl h180) E192
          show Ends p e below _ T187 (mkF m 174 #[.val (.int i0), .val (.int i1), .val (.int i2), .val (.int i3), .val (.int i4), .val (.ref ta), .val (.int ((i1 &&& (2147483647 : Int32)) % (6 : Int32))), .val (.int bo2), .val (.int ((i2 &&& (2147483647 : Int32)) % (12 : Int32))), .val (.int (nar .char (i3 &&& (255 : Int32)))), .val (.int (nar .char (i4 &&& (255 : Int32)))), .val (.ref b7), .val (.ref b19), .val (.ref b33), .val (.ref b49), .val (.ref b67), .val (.ref b87), .val (.ref b33), .unset, .unset] [(.ref a189)])
          refine Ends.go (f' := (mkF m 175 #[.val (.int i0), .val (.int i1), .val (.int i2), .val (.int i3), .val (.int i4), .val (.ref ta), .val (.int ((i1 &&& (2147483647 : Int32)) % (6 : Int32))), .val (.int bo2), .val (.int ((i2 &&& (2147483647 : Int32)) % (12 : Int32))), .val (.int (nar .char (i3 &&& (255 : Int32)))), .val (.int (nar .char (i4 &&& (255 : Int32)))), .val (.ref b7), .val (.ref b19), .val (.ref b33), .val (.ref b49), .val (.ref b67), .val (.ref b87), .val (.ref b33), .unset, .unset] [(.ref a189), (.ref a189)])) (fun t k => XS.dup N191.here hx rfl (hb hby at_174) rfl rfl k) ?_
          refine Ends.go (f' := (mkF m 177 #[.val (.int i0), .val (.int i1), .val (.int i2), .val (.int i3), .val (.int i4), .val (.ref ta), .val (.int ((i1 &&& (2147483647 : Int32)) % (6 : Int32))), .val (.int bo2), .val (.int ((i2 &&& (2147483647 : Int32)) % (12 : Int32))), .val (.int (nar .char (i3 &&& (255 : Int32)))), .val (.int (nar .char (i4 &&& (255 : Int32)))), .val (.ref b7), .val (.ref b19), .val (.ref b33), .val (.ref b49), .val (.ref b67), .val (.ref b87), .val (.ref b33), .unset, .unset] [(.ref b33), (.ref a189), (.ref a189)])) (fun t k => XS.aload N191.here hx rfl (hb hby at_175) rfl rfl k) ?_
          have V204 := V183.ext X203
          refine gSpecial (W := 1) (y := (⟨"java/lang/String", "<init>", "([C)V"⟩ : MethodName)) (a := a189) (argsL := [(.ref b33)]) (rest := [(.ref a189)]) rfl N191 hx hZ hown (hw _ (List.mem_of_getElem? (i := 53) rfl)) (hw _ (List.mem_of_getElem? (i := 54) rfl)) (hw _ (List.mem_of_getElem? (i := 55) rfl)) (by decide) (strNew (W := 1) (cs := [(fAt ct 0 ((i2 &&& (2147483647 : Int32)) % (12 : Int32)) (nar .char (i3 &&& (255 : Int32))) (nar .char (i4 &&& (255 : Int32)))), (fAt ct 1 ((i2 &&& (2147483647 : Int32)) % (12 : Int32)) (nar .char (i3 &&& (255 : Int32))) (nar .char (i4 &&& (255 : Int32)))), (fAt ct 2 ((i2 &&& (2147483647 : Int32)) % (12 : Int32)) (nar .char (i3 &&& (255 : Int32))) (nar .char (i4 &&& (255 : Int32)))), (fAt ct 3 ((i2 &&& (2147483647 : Int32)) % (12 : Int32)) (nar .char (i3 &&& (255 : Int32))) (nar .char (i4 &&& (255 : Int32)))), (fAt ct 4 ((i2 &&& (2147483647 : Int32)) % (12 : Int32)) (nar .char (i3 &&& (255 : Int32))) (nar .char (i4 &&& (255 : Int32)))), (fAt ct 5 ((i2 &&& (2147483647 : Int32)) % (12 : Int32)) (nar .char (i3 &&& (255 : Int32))) (nar .char (i4 &&& (255 : Int32)))), (fAt ct 6 ((i2 &&& (2147483647 : Int32)) % (12 : Int32)) (nar .char (i3 &&& (255 : Int32))) (nar .char (i4 &&& (255 : Int32))))]) hZ hw G N191.ext g199 (A193.ext (ext_refl h188)) ((D194 (Or.inr (hw _ (List.mem_of_getElem? (i := 4) rfl))) (ty := .array .byte) (by decide)).ext (ext_refl h188)) ((D194 (Or.inr (hw _ (List.mem_of_getElem? (i := 5) rfl))) (ty := .byte) (by decide)).ext (ext_refl h188)) V204 (nle rfl) (nle rfl) (hp_cons (at_ok okc okf St1.2.2.2.1) (hp_cons (at_ok okc okf St1.2.2.2.1) (hp_cons (at_ok okc okf St1.2.2.2.1) (hp_cons (at_ok okc okf St1.2.2.2.1) (hp_cons (at_ok okc okf St1.2.2.2.1) (hp_cons (at_ok okc okf St1.2.2.2.1) (hp_cons (at_ok okc okf St1.2.2.2.1) hp_nil))))))) (nle rfl) (nle rfl)) (hb hby at_177) rfl (by rw [hml]; rfl) (lenOf (by decide +kernel : parseMethodDescriptor "([C)V" = some ⟨[(.array .char)], none⟩) rfl) (nle rfl) (nle rfl) (nle rfl) (fun _ _ _ q => q.2.2.2) ?_
          rintro _ T205 h206 L207 N208 ⟨rfl, K209, S210, -⟩
          have X211 : Ext h1 h206 := ext_keep X200 K209 g195
          have X212 : Ext h6 h206 := ext_keep X201 K209 g196
          have X213 : Ext h18 h206 := ext_keep X202 K209 g197
          have X214 : Ext h180 h206 := ext_keep X203 K209 g198
          show Ends p e below _ T205 (mkF m 180 #[.val (.int i0), .val (.int i1), .val (.int i2), .val (.int i3), .val (.int i4), .val (.ref ta), .val (.int ((i1 &&& (2147483647 : Int32)) % (6 : Int32))), .val (.int bo2), .val (.int ((i2 &&& (2147483647 : Int32)) % (12 : Int32))), .val (.int (nar .char (i3 &&& (255 : Int32)))), .val (.int (nar .char (i4 &&& (255 : Int32)))), .val (.ref b7), .val (.ref b19), .val (.ref b33), .val (.ref b49), .val (.ref b67), .val (.ref b87), .val (.ref b33), .unset, .unset] [(.ref a189)])
          refine Ends.go (f' := (mkF m 182 #[.val (.int i0), .val (.int i1), .val (.int i2), .val (.int i3), .val (.int i4), .val (.ref ta), .val (.int ((i1 &&& (2147483647 : Int32)) % (6 : Int32))), .val (.int bo2), .val (.int ((i2 &&& (2147483647 : Int32)) % (12 : Int32))), .val (.int (nar .char (i3 &&& (255 : Int32)))), .val (.int (nar .char (i4 &&& (255 : Int32)))), .val (.ref b7), .val (.ref b19), .val (.ref b33), .val (.ref b49), .val (.ref b67), .val (.ref b87), .val (.ref b33), .val (.ref a189), .unset] [])) (fun t k => XS.astore N208.here hx rfl (hb hby at_180) rfl rfl (l' := #[.val (.int i0), .val (.int i1), .val (.int i2), .val (.int i3), .val (.int i4), .val (.ref ta), .val (.int ((i1 &&& (2147483647 : Int32)) % (6 : Int32))), .val (.int bo2), .val (.int ((i2 &&& (2147483647 : Int32)) % (12 : Int32))), .val (.int (nar .char (i3 &&& (255 : Int32)))), .val (.int (nar .char (i4 &&& (255 : Int32)))), .val (.ref b7), .val (.ref b19), .val (.ref b33), .val (.ref b49), .val (.ref b67), .val (.ref b87), .val (.ref b33), .val (.ref a189), .unset]) rfl k) ?_
          exact join2 vm1 T205 h206 _ _ _ (N208.mono (nle rfl) (nle rfl)) hZ hown (wd1.ext X211) S210 (St1.ext X211) (by simp only [fillCs, if_neg k0, if_neg k1, if_pos k2])
        · refine Ends.go (f' := (mkF m 132 #[.val (.int i0), .val (.int i1), .val (.int i2), .val (.int i3), .val (.int i4), .val (.ref ta), .val (.int ((i1 &&& (2147483647 : Int32)) % (6 : Int32))), .val (.int bo2), .val (.int ((i2 &&& (2147483647 : Int32)) % (12 : Int32))), .val (.int (nar .char (i3 &&& (255 : Int32)))), .val (.int (nar .char (i4 &&& (255 : Int32)))), .val (.ref b7), .val (.ref b19), .val (.ref b33), .val (.ref b49), .val (.ref b67), .val (.ref b87), .unset, .unset, .unset] [])) (fun t k => XS.icmpYes N90.here hx rfl (pc0 := 124) (pc' := 132) rfl (hb hby at_124) rfl (XT.ii_ne_t k2) (by decide) (by decide) k) ?_
          refine Ends.go (f' := (mkF m 134 #[.val (.int i0), .val (.int i1), .val (.int i2), .val (.int i3), .val (.int i4), .val (.ref ta), .val (.int ((i1 &&& (2147483647 : Int32)) % (6 : Int32))), .val (.int bo2), .val (.int ((i2 &&& (2147483647 : Int32)) % (12 : Int32))), .val (.int (nar .char (i3 &&& (255 : Int32)))), .val (.int (nar .char (i4 &&& (255 : Int32)))), .val (.ref b7), .val (.ref b19), .val (.ref b33), .val (.ref b49), .val (.ref b67), .val (.ref b87), .unset, .unset, .unset] [(.int ((i1 &&& (2147483647 : Int32)) % (6 : Int32)))])) (fun t k => XS.iload N90.here hx rfl (hb hby at_132) rfl k) ?_
          refine Ends.go (f' := (mkF m 135 #[.val (.int i0), .val (.int i1), .val (.int i2), .val (.int i3), .val (.int i4), .val (.ref ta), .val (.int ((i1 &&& (2147483647 : Int32)) % (6 : Int32))), .val (.int bo2), .val (.int ((i2 &&& (2147483647 : Int32)) % (12 : Int32))), .val (.int (nar .char (i3 &&& (255 : Int32)))), .val (.int (nar .char (i4 &&& (255 : Int32)))), .val (.ref b7), .val (.ref b19), .val (.ref b33), .val (.ref b49), .val (.ref b67), .val (.ref b87), .unset, .unset, .unset] [(.int (3 : Int32)), (.int ((i1 &&& (2147483647 : Int32)) % (6 : Int32)))])) (fun t k => XS.iconst N90.here hx rfl (hb hby at_134) k) ?_
          by_cases k3 : ((i1 &&& (2147483647 : Int32)) % (6 : Int32)) = (3 : Int32)
          · refine Ends.go (f' := (mkF m 138 #[.val (.int i0), .val (.int i1), .val (.int i2), .val (.int i3), .val (.int i4), .val (.ref ta), .val (.int ((i1 &&& (2147483647 : Int32)) % (6 : Int32))), .val (.int bo2), .val (.int ((i2 &&& (2147483647 : Int32)) % (12 : Int32))), .val (.int (nar .char (i3 &&& (255 : Int32)))), .val (.int (nar .char (i4 &&& (255 : Int32)))), .val (.ref b7), .val (.ref b19), .val (.ref b33), .val (.ref b49), .val (.ref b67), .val (.ref b87), .unset, .unset, .unset] [])) (fun t k => XS.icmpNo N90.here hx rfl (hb hby at_135) rfl (XT.ii_ne_f k3) k) ?_
            refine Ends.go (f' := (mkF m 140 #[.val (.int i0), .val (.int i1), .val (.int i2), .val (.int i3), .val (.int i4), .val (.ref ta), .val (.int ((i1 &&& (2147483647 : Int32)) % (6 : Int32))), .val (.int bo2), .val (.int ((i2 &&& (2147483647 : Int32)) % (12 : Int32))), .val (.int (nar .char (i3 &&& (255 : Int32)))), .val (.int (nar .char (i4 &&& (255 : Int32)))), .val (.ref b7), .val (.ref b19), .val (.ref b33), .val (.ref b49), .val (.ref b67), .val (.ref b87), .unset, .unset, .unset] [(.ref b49)])) (fun t k => XS.aload N90.here hx rfl (hb hby at_138) rfl rfl k) ?_
            refine Ends.go (f' := (mkF m 156 #[.val (.int i0), .val (.int i1), .val (.int i2), .val (.int i3), .val (.int i4), .val (.ref ta), .val (.int ((i1 &&& (2147483647 : Int32)) % (6 : Int32))), .val (.int bo2), .val (.int ((i2 &&& (2147483647 : Int32)) % (12 : Int32))), .val (.int (nar .char (i3 &&& (255 : Int32)))), .val (.int (nar .char (i4 &&& (255 : Int32)))), .val (.ref b7), .val (.ref b19), .val (.ref b33), .val (.ref b49), .val (.ref b67), .val (.ref b87), .unset, .unset, .unset] [(.ref b49)])) (fun t k => XS.goto N90.here hx rfl (pc0 := 140) (pc' := 156) rfl (hb hby at_140) (by decide) (by decide) k) ?_
            refine Ends.go (f' := (mkF m 158 #[.val (.int i0), .val (.int i1), .val (.int i2), .val (.int i3), .val (.int i4), .val (.ref ta), .val (.int ((i1 &&& (2147483647 : Int32)) % (6 : Int32))), .val (.int bo2), .val (.int ((i2 &&& (2147483647 : Int32)) % (12 : Int32))), .val (.int (nar .char (i3 &&& (255 : Int32)))), .val (.int (nar .char (i4 &&& (255 : Int32)))), .val (.ref b7), .val (.ref b19), .val (.ref b33), .val (.ref b49), .val (.ref b67), .val (.ref b87), .val (.ref b49), .unset, .unset] [])) (fun t k => XS.astore N90.here hx rfl (hb hby at_156) rfl rfl (l' := #[.val (.int i0), .val (.int i1), .val (.int i2), .val (.int i3), .val (.int i4), .val (.ref ta), .val (.int ((i1 &&& (2147483647 : Int32)) % (6 : Int32))), .val (.int bo2), .val (.int ((i2 &&& (2147483647 : Int32)) % (12 : Int32))), .val (.int (nar .char (i3 &&& (255 : Int32)))), .val (.int (nar .char (i4 &&& (255 : Int32)))), .val (.ref b7), .val (.ref b19), .val (.ref b33), .val (.ref b49), .val (.ref b67), .val (.ref b87), .val (.ref b49), .unset, .unset]) rfl k) ?_
            refine Ends.go (f' := (mkF m 160 #[.val (.int i0), .val (.int i1), .val (.int i2), .val (.int i3), .val (.int i4), .val (.ref ta), .val (.int ((i1 &&& (2147483647 : Int32)) % (6 : Int32))), .val (.int bo2), .val (.int ((i2 &&& (2147483647 : Int32)) % (12 : Int32))), .val (.int (nar .char (i3 &&& (255 : Int32)))), .val (.int (nar .char (i4 &&& (255 : Int32)))), .val (.ref b7), .val (.ref b19), .val (.ref b33), .val (.ref b49), .val (.ref b67), .val (.ref b87), .val (.ref b49), .unset, .unset] [(.ref b49)])) (fun t k => XS.aload N90.here hx rfl (hb hby at_158) rfl rfl k) ?_
            refine Ends.go (f' := (mkF m 162 #[.val (.int i0), .val (.int i1), .val (.int i2), .val (.int i3), .val (.int i4), .val (.ref ta), .val (.int ((i1 &&& (2147483647 : Int32)) % (6 : Int32))), .val (.int bo2), .val (.int ((i2 &&& (2147483647 : Int32)) % (12 : Int32))), .val (.int (nar .char (i3 &&& (255 : Int32)))), .val (.int (nar .char (i4 &&& (255 : Int32)))), .val (.ref b7), .val (.ref b19), .val (.ref b33), .val (.ref b49), .val (.ref b67), .val (.ref b87), .val (.ref b49), .unset, .unset] [(.ref ta), (.ref b49)])) (fun t k => XS.aload N90.here hx rfl (hb hby at_160) rfl rfl k) ?_
            refine Ends.go (f' := (mkF m 164 #[.val (.int i0), .val (.int i1), .val (.int i2), .val (.int i3), .val (.int i4), .val (.ref ta), .val (.int ((i1 &&& (2147483647 : Int32)) % (6 : Int32))), .val (.int bo2), .val (.int ((i2 &&& (2147483647 : Int32)) % (12 : Int32))), .val (.int (nar .char (i3 &&& (255 : Int32)))), .val (.int (nar .char (i4 &&& (255 : Int32)))), .val (.ref b7), .val (.ref b19), .val (.ref b33), .val (.ref b49), .val (.ref b67), .val (.ref b87), .val (.ref b49), .unset, .unset] [(.int ((i2 &&& (2147483647 : Int32)) % (12 : Int32))), (.ref ta), (.ref b49)])) (fun t k => XS.iload N90.here hx rfl (hb hby at_162) rfl k) ?_
            refine Ends.go (f' := (mkF m 166 #[.val (.int i0), .val (.int i1), .val (.int i2), .val (.int i3), .val (.int i4), .val (.ref ta), .val (.int ((i1 &&& (2147483647 : Int32)) % (6 : Int32))), .val (.int bo2), .val (.int ((i2 &&& (2147483647 : Int32)) % (12 : Int32))), .val (.int (nar .char (i3 &&& (255 : Int32)))), .val (.int (nar .char (i4 &&& (255 : Int32)))), .val (.ref b7), .val (.ref b19), .val (.ref b33), .val (.ref b49), .val (.ref b67), .val (.ref b87), .val (.ref b49), .unset, .unset] [(.int (nar .char (i3 &&& (255 : Int32)))), (.int ((i2 &&& (2147483647 : Int32)) % (12 : Int32))), (.ref ta), (.ref b49)])) (fun t k => XS.iload N90.here hx rfl (hb hby at_164) rfl k) ?_
            refine Ends.go (f' := (mkF m 168 #[.val (.int i0), .val (.int i1), .val (.int i2), .val (.int i3), .val (.int i4), .val (.ref ta), .val (.int ((i1 &&& (2147483647 : Int32)) % (6 : Int32))), .val (.int bo2), .val (.int ((i2 &&& (2147483647 : Int32)) % (12 : Int32))), .val (.int (nar .char (i3 &&& (255 : Int32)))), .val (.int (nar .char (i4 &&& (255 : Int32)))), .val (.ref b7), .val (.ref b19), .val (.ref b33), .val (.ref b49), .val (.ref b67), .val (.ref b87), .val (.ref b49), .unset, .unset] [(.int (nar .char (i4 &&& (255 : Int32)))), (.int (nar .char (i3 &&& (255 : Int32)))), (.int ((i2 &&& (2147483647 : Int32)) % (12 : Int32))), (.ref ta), (.ref b49)])) (fun t k => XS.iload N90.here hx rfl (hb hby at_166) rfl k) ?_
            refine gStatic (W := 0) (argsL := [(.ref b49), (.ref ta), (.int ((i2 &&& (2147483647 : Int32)) % (12 : Int32))), (.int (nar .char (i3 &&& (255 : Int32)))), (.int (nar .char (i4 &&& (255 : Int32))))]) (rest := []) N90 hx hZ hown (hw _ (List.mem_of_getElem? (i := 10) rfl)) (hw _ (List.mem_of_getElem? (i := 11) rfl)) (hw _ (List.mem_of_getElem? (i := 12) rfl)) (hw _ (List.mem_of_getElem? (i := 13) rfl)) (by decide) ((rmFill8 l Z a0 hw b49 ta kA50 ((i2 &&& (2147483647 : Int32)) % (12 : Int32)) (nar .char (i3 &&& (255 : Int32))) (nar .char (i4 &&& (255 : Int32))) ct h1 h86 N90.ext G X100 St1 g55 g59 (V64.ext X104) okc okf).back (W := 0) hZ (hw _ (List.mem_of_getElem? (i := 13) rfl)) (hw _ (List.mem_of_getElem? (i := 12) rfl)) (nle rfl) (nle rfl)) (hb hby at_168) rfl (by rw [hml]; rfl) (lenOf (by decide +kernel : parseMethodDescriptor "([CLjava/lang/String;ICC)V" = some ⟨[(.array .char), (.object "java/lang/String"), .int, .char, .char], none⟩) rfl) (nle rfl) (nle rfl) (nle rfl) (fun _ _ _ q => q.2) ?_
            rintro _ T215 h216 _ N217 ⟨⟨rfl, K218, V219⟩, -⟩
            have X220 : Ext h1 h216 := ext_keep X100 K218 g55
            have X221 : Ext h6 h216 := ext_keep X101 K218 g56
            have X222 : Ext h18 h216 := ext_keep X102 K218 g57
            have X223 : Ext h32 h216 := ext_keep X103 K218 g58
            show Ends p e below _ T215 (mkF m 171 #[.val (.int i0), .val (.int i1), .val (.int i2), .val (.int i3), .val (.int i4), .val (.ref ta), .val (.int ((i1 &&& (2147483647 : Int32)) % (6 : Int32))), .val (.int bo2), .val (.int ((i2 &&& (2147483647 : Int32)) % (12 : Int32))), .val (.int (nar .char (i3 &&& (255 : Int32)))), .val (.int (nar .char (i4 &&& (255 : Int32)))), .val (.ref b7), .val (.ref b19), .val (.ref b33), .val (.ref b49), .val (.ref b67), .val (.ref b87), .val (.ref b49), .unset, .unset] [])
            refine gNew (a0 := a0) N217 hx hZ hown (hw _ (List.mem_of_getElem? (i := 52) rfl)) (hw _ (List.mem_of_getElem? (i := 2) rfl)) (hw _ (List.mem_of_getElem? (i := 1) rfl)) (hb hby at_171) (nle rfl) (nle rfl) ?_
            intro T224 h225 a226 ea227 N228 E229 A230 D231
            have g232 : h1.size ≤ a226 := by rw [ea227]; exact X220.1
            have g233 : h6.size ≤ a226 := by rw [ea227]; exact X221.1
            have g234 : h18.size ≤ a226 := by rw [ea227]; exact X222.1
            have g235 : h32.size ≤ a226 := by rw [ea227]; exact X223.1
            have g236 : h216.size ≤ a226 := by rw [ea227]; exact (ext_refl h216).1
            have g237 : Z.heap.size ≤ a226 := by rw [ea227]; exact N217.le
            have X238 : Ext h1 h225 := ext_trans X220 E229
            have X239 : Ext h6 h225 := ext_trans X221 E229
            have X240 : Ext h18 h225 := ext_trans X222 E229
            have X241 : Ext h32 h225 := ext_trans X223 E229
            have X242 : Ext h216 h225 := ext_trans (ext_refl h216) E229
            show Ends p e below _ T224 (mkF m 174 #[.val (.int i0), .val (.int i1), .val (.int i2), .val (.int i3), .val (.int i4), .val (.ref ta), .val (.int ((i1 &&& (2147483647 : Int32)) % (6 : Int32))), .val (.int bo2), .val (.int ((i2 &&& (2147483647 : Int32)) % (12 : Int32))), .val (.int (nar .char (i3 &&& (255 : Int32)))), .val (.int (nar .char (i4 &&& (255 : Int32)))), .val (.ref b7), .val (.ref b19), .val (.ref b33), .val (.ref b49), .val (.ref b67), .val (.ref b87), .val (.ref b49), .unset, .unset] [(.ref a226)])
            refine Ends.go (f' := (mkF m 175 #[.val (.int i0), .val (.int i1), .val (.int i2), .val (.int i3), .val (.int i4), .val (.ref ta), .val (.int ((i1 &&& (2147483647 : Int32)) % (6 : Int32))), .val (.int bo2), .val (.int ((i2 &&& (2147483647 : Int32)) % (12 : Int32))), .val (.int (nar .char (i3 &&& (255 : Int32)))), .val (.int (nar .char (i4 &&& (255 : Int32)))), .val (.ref b7), .val (.ref b19), .val (.ref b33), .val (.ref b49), .val (.ref b67), .val (.ref b87), .val (.ref b49), .unset, .unset] [(.ref a226), (.ref a226)])) (fun t k => XS.dup N228.here hx rfl (hb hby at_174) rfl rfl k) ?_
            refine Ends.go (f' := (mkF m 177 #[.val (.int i0), .val (.int i1), .val (.int i2), .val (.int i3), .val (.int i4), .val (.ref ta), .val (.int ((i1 &&& (2147483647 : Int32)) % (6 : Int32))), .val (.int bo2), .val (.int ((i2 &&& (2147483647 : Int32)) % (12 : Int32))), .val (.int (nar .char (i3 &&& (255 : Int32)))), .val (.int (nar .char (i4 &&& (255 : Int32)))), .val (.ref b7), .val (.ref b19), .val (.ref b33), .val (.ref b49), .val (.ref b67), .val (.ref b87), .val (.ref b49), .unset, .unset] [(.ref b49), (.ref a226), (.ref a226)])) (fun t k => XS.aload N228.here hx rfl (hb hby at_175) rfl rfl k) ?_
            have V243 := V219.ext X242
            refine gSpecial (W := 1) (y := (⟨"java/lang/String", "<init>", "([C)V"⟩ : MethodName)) (a := a226) (argsL := [(.ref b49)]) (rest := [(.ref a226)]) rfl N228 hx hZ hown (hw _ (List.mem_of_getElem? (i := 53) rfl)) (hw _ (List.mem_of_getElem? (i := 54) rfl)) (hw _ (List.mem_of_getElem? (i := 55) rfl)) (by decide) (strNew (W := 1) (cs := [(fAt ct 0 ((i2 &&& (2147483647 : Int32)) % (12 : Int32)) (nar .char (i3 &&& (255 : Int32))) (nar .char (i4 &&& (255 : Int32)))), (fAt ct 1 ((i2 &&& (2147483647 : Int32)) % (12 : Int32)) (nar .char (i3 &&& (255 : Int32))) (nar .char (i4 &&& (255 : Int32)))), (fAt ct 2 ((i2 &&& (2147483647 : Int32)) % (12 : Int32)) (nar .char (i3 &&& (255 : Int32))) (nar .char (i4 &&& (255 : Int32)))), (fAt ct 3 ((i2 &&& (2147483647 : Int32)) % (12 : Int32)) (nar .char (i3 &&& (255 : Int32))) (nar .char (i4 &&& (255 : Int32)))), (fAt ct 4 ((i2 &&& (2147483647 : Int32)) % (12 : Int32)) (nar .char (i3 &&& (255 : Int32))) (nar .char (i4 &&& (255 : Int32)))), (fAt ct 5 ((i2 &&& (2147483647 : Int32)) % (12 : Int32)) (nar .char (i3 &&& (255 : Int32))) (nar .char (i4 &&& (255 : Int32)))), (fAt ct 6 ((i2 &&& (2147483647 : Int32)) % (12 : Int32)) (nar .char (i3 &&& (255 : Int32))) (nar .char (i4 &&& (255 : Int32)))), (fAt ct 7 ((i2 &&& (2147483647 : Int32)) % (12 : Int32)) (nar .char (i3 &&& (255 : Int32))) (nar .char (i4 &&& (255 : Int32))))]) hZ hw G N228.ext g237 (A230.ext (ext_refl h225)) ((D231 (Or.inr (hw _ (List.mem_of_getElem? (i := 4) rfl))) (ty := .array .byte) (by decide)).ext (ext_refl h225)) ((D231 (Or.inr (hw _ (List.mem_of_getElem? (i := 5) rfl))) (ty := .byte) (by decide)).ext (ext_refl h225)) V243 (nle rfl) (nle rfl) (hp_cons (at_ok okc okf St1.2.2.2.1) (hp_cons (at_ok okc okf St1.2.2.2.1) (hp_cons (at_ok okc okf St1.2.2.2.1) (hp_cons (at_ok okc okf St1.2.2.2.1) (hp_cons (at_ok okc okf St1.2.2.2.1) (hp_cons (at_ok okc okf St1.2.2.2.1) (hp_cons (at_ok okc okf St1.2.2.2.1) (hp_cons (at_ok okc okf St1.2.2.2.1) hp_nil)))))))) (nle rfl) (nle rfl)) (hb hby at_177) rfl (by rw [hml]; rfl) (lenOf (by decide +kernel : parseMethodDescriptor "([C)V" = some ⟨[(.array .char)], none⟩) rfl) (nle rfl) (nle rfl) (nle rfl) (fun _ _ _ q => q.2.2.2) ?_
            rintro _ T244 h245 L246 N247 ⟨rfl, K248, S249, -⟩
            have X250 : Ext h1 h245 := ext_keep X238 K248 g232
            have X251 : Ext h6 h245 := ext_keep X239 K248 g233
            have X252 : Ext h18 h245 := ext_keep X240 K248 g234
            have X253 : Ext h32 h245 := ext_keep X241 K248 g235
            have X254 : Ext h216 h245 := ext_keep X242 K248 g236
            show Ends p e below _ T244 (mkF m 180 #[.val (.int i0), .val (.int i1), .val (.int i2), .val (.int i3), .val (.int i4), .val (.ref ta), .val (.int ((i1 &&& (2147483647 : Int32)) % (6 : Int32))), .val (.int bo2), .val (.int ((i2 &&& (2147483647 : Int32)) % (12 : Int32))), .val (.int (nar .char (i3 &&& (255 : Int32)))), .val (.int (nar .char (i4 &&& (255 : Int32)))), .val (.ref b7), .val (.ref b19), .val (.ref b33), .val (.ref b49), .val (.ref b67), .val (.ref b87), .val (.ref b49), .unset, .unset] [(.ref a226)])
            refine Ends.go (f' := (mkF m 182 #[.val (.int i0), .val (.int i1), .val (.int i2), .val (.int i3), .val (.int i4), .val (.ref ta), .val (.int ((i1 &&& (2147483647 : Int32)) % (6 : Int32))), .val (.int bo2), .val (.int ((i2 &&& (2147483647 : Int32)) % (12 : Int32))), .val (.int (nar .char (i3 &&& (255 : Int32)))), .val (.int (nar .char (i4 &&& (255 : Int32)))), .val (.ref b7), .val (.ref b19), .val (.ref b33), .val (.ref b49), .val (.ref b67), .val (.ref b87), .val (.ref b49), .val (.ref a226), .unset] [])) (fun t k => XS.astore N247.here hx rfl (hb hby at_180) rfl rfl (l' := #[.val (.int i0), .val (.int i1), .val (.int i2), .val (.int i3), .val (.int i4), .val (.ref ta), .val (.int ((i1 &&& (2147483647 : Int32)) % (6 : Int32))), .val (.int bo2), .val (.int ((i2 &&& (2147483647 : Int32)) % (12 : Int32))), .val (.int (nar .char (i3 &&& (255 : Int32)))), .val (.int (nar .char (i4 &&& (255 : Int32)))), .val (.ref b7), .val (.ref b19), .val (.ref b33), .val (.ref b49), .val (.ref b67), .val (.ref b87), .val (.ref b49), .val (.ref a226), .unset]) rfl k) ?_
            exact join2 vm1 T244 h245 _ _ _ (N247.mono (nle rfl) (nle rfl)) hZ hown (wd1.ext X250) S249 (St1.ext X250) (by simp only [fillCs, if_neg k0, if_neg k1, if_neg k2, if_pos k3])
          · refine Ends.go (f' := (mkF m 143 #[.val (.int i0), .val (.int i1), .val (.int i2), .val (.int i3), .val (.int i4), .val (.ref ta), .val (.int ((i1 &&& (2147483647 : Int32)) % (6 : Int32))), .val (.int bo2), .val (.int ((i2 &&& (2147483647 : Int32)) % (12 : Int32))), .val (.int (nar .char (i3 &&& (255 : Int32)))), .val (.int (nar .char (i4 &&& (255 : Int32)))), .val (.ref b7), .val (.ref b19), .val (.ref b33), .val (.ref b49), .val (.ref b67), .val (.ref b87), .unset, .unset, .unset] [])) (fun t k => XS.icmpYes N90.here hx rfl (pc0 := 135) (pc' := 143) rfl (hb hby at_135) rfl (XT.ii_ne_t k3) (by decide) (by decide) k) ?_
            refine Ends.go (f' := (mkF m 145 #[.val (.int i0), .val (.int i1), .val (.int i2), .val (.int i3), .val (.int i4), .val (.ref ta), .val (.int ((i1 &&& (2147483647 : Int32)) % (6 : Int32))), .val (.int bo2), .val (.int ((i2 &&& (2147483647 : Int32)) % (12 : Int32))), .val (.int (nar .char (i3 &&& (255 : Int32)))), .val (.int (nar .char (i4 &&& (255 : Int32)))), .val (.ref b7), .val (.ref b19), .val (.ref b33), .val (.ref b49), .val (.ref b67), .val (.ref b87), .unset, .unset, .unset] [(.int ((i1 &&& (2147483647 : Int32)) % (6 : Int32)))])) (fun t k => XS.iload N90.here hx rfl (hb hby at_143) rfl k) ?_
            refine Ends.go (f' := (mkF m 146 #[.val (.int i0), .val (.int i1), .val (.int i2), .val (.int i3), .val (.int i4), .val (.ref ta), .val (.int ((i1 &&& (2147483647 : Int32)) % (6 : Int32))), .val (.int bo2), .val (.int ((i2 &&& (2147483647 : Int32)) % (12 : Int32))), .val (.int (nar .char (i3 &&& (255 : Int32)))), .val (.int (nar .char (i4 &&& (255 : Int32)))), .val (.ref b7), .val (.ref b19), .val (.ref b33), .val (.ref b49), .val (.ref b67), .val (.ref b87), .unset, .unset, .unset] [(.int (4 : Int32)), (.int ((i1 &&& (2147483647 : Int32)) % (6 : Int32)))])) (fun t k => XS.iconst N90.here hx rfl (hb hby at_145) k) ?_
            by_cases k4 : ((i1 &&& (2147483647 : Int32)) % (6 : Int32)) = (4 : Int32)
            · refine Ends.go (f' := (mkF m 149 #[.val (.int i0), .val (.int i1), .val (.int i2), .val (.int i3), .val (.int i4), .val (.ref ta), .val (.int ((i1 &&& (2147483647 : Int32)) % (6 : Int32))), .val (.int bo2), .val (.int ((i2 &&& (2147483647 : Int32)) % (12 : Int32))), .val (.int (nar .char (i3 &&& (255 : Int32)))), .val (.int (nar .char (i4 &&& (255 : Int32)))), .val (.ref b7), .val (.ref b19), .val (.ref b33), .val (.ref b49), .val (.ref b67), .val (.ref b87), .unset, .unset, .unset] [])) (fun t k => XS.icmpNo N90.here hx rfl (hb hby at_146) rfl (XT.ii_ne_f k4) k) ?_
              refine Ends.go (f' := (mkF m 151 #[.val (.int i0), .val (.int i1), .val (.int i2), .val (.int i3), .val (.int i4), .val (.ref ta), .val (.int ((i1 &&& (2147483647 : Int32)) % (6 : Int32))), .val (.int bo2), .val (.int ((i2 &&& (2147483647 : Int32)) % (12 : Int32))), .val (.int (nar .char (i3 &&& (255 : Int32)))), .val (.int (nar .char (i4 &&& (255 : Int32)))), .val (.ref b7), .val (.ref b19), .val (.ref b33), .val (.ref b49), .val (.ref b67), .val (.ref b87), .unset, .unset, .unset] [(.ref b67)])) (fun t k => XS.aload N90.here hx rfl (hb hby at_149) rfl rfl k) ?_
              refine Ends.go (f' := (mkF m 156 #[.val (.int i0), .val (.int i1), .val (.int i2), .val (.int i3), .val (.int i4), .val (.ref ta), .val (.int ((i1 &&& (2147483647 : Int32)) % (6 : Int32))), .val (.int bo2), .val (.int ((i2 &&& (2147483647 : Int32)) % (12 : Int32))), .val (.int (nar .char (i3 &&& (255 : Int32)))), .val (.int (nar .char (i4 &&& (255 : Int32)))), .val (.ref b7), .val (.ref b19), .val (.ref b33), .val (.ref b49), .val (.ref b67), .val (.ref b87), .unset, .unset, .unset] [(.ref b67)])) (fun t k => XS.goto N90.here hx rfl (pc0 := 151) (pc' := 156) rfl (hb hby at_151) (by decide) (by decide) k) ?_
              refine Ends.go (f' := (mkF m 158 #[.val (.int i0), .val (.int i1), .val (.int i2), .val (.int i3), .val (.int i4), .val (.ref ta), .val (.int ((i1 &&& (2147483647 : Int32)) % (6 : Int32))), .val (.int bo2), .val (.int ((i2 &&& (2147483647 : Int32)) % (12 : Int32))), .val (.int (nar .char (i3 &&& (255 : Int32)))), .val (.int (nar .char (i4 &&& (255 : Int32)))), .val (.ref b7), .val (.ref b19), .val (.ref b33), .val (.ref b49), .val (.ref b67), .val (.ref b87), .val (.ref b67), .unset, .unset] [])) (fun t k => XS.astore N90.here hx rfl (hb hby at_156) rfl rfl (l' := #[.val (.int i0), .val (.int i1), .val (.int i2), .val (.int i3), .val (.int i4), .val (.ref ta), .val (.int ((i1 &&& (2147483647 : Int32)) % (6 : Int32))), .val (.int bo2), .val (.int ((i2 &&& (2147483647 : Int32)) % (12 : Int32))), .val (.int (nar .char (i3 &&& (255 : Int32)))), .val (.int (nar .char (i4 &&& (255 : Int32)))), .val (.ref b7), .val (.ref b19), .val (.ref b33), .val (.ref b49), .val (.ref b67), .val (.ref b87), .val (.ref b67), .unset, .unset]) rfl k) ?_
              refine Ends.go (f' := (mkF m 160 #[.val (.int i0), .val (.int i1), .val (.int i2), .val (.int i3), .val (.int i4), .val (.ref ta), .val (.int ((i1 &&& (2147483647 : Int32)) % (6 : Int32))), .val (.int bo2), .val (.int ((i2 &&& (2147483647 : Int32)) % (12 : Int32))), .val (.int (nar .char (i3 &&& (255 : Int32)))), .val (.int (nar .char (i4 &&& (255 : Int32)))), .val (.ref b7), .val (.ref b19), .val (.ref b33), .val (.ref b49), .val (.ref b67), .val (.ref b87), .val (.ref b67), .unset, .unset] [(.ref b67)])) (fun t k => XS.aload N90.here hx rfl (hb hby at_158) rfl rfl k) ?_
              refine Ends.go (f' := (mkF m 162 #[.val (.int i0), .val (.int i1), .val (.int i2), .val (.int i3), .val (.int i4), .val (.ref ta), .val (.int ((i1 &&& (2147483647 : Int32)) % (6 : Int32))), .val (.int bo2), .val (.int ((i2 &&& (2147483647 : Int32)) % (12 : Int32))), .val (.int (nar .char (i3 &&& (255 : Int32)))), .val (.int (nar .char (i4 &&& (255 : Int32)))), .val (.ref b7), .val (.ref b19), .val (.ref b33), .val (.ref b49), .val (.ref b67), .val (.ref b87), .val (.ref b67), .unset, .unset] [(.ref ta), (.ref b67)])) (fun t k => XS.aload N90.here hx rfl (hb hby at_160) rfl rfl k) ?_
              refine Ends.go (f' := (mkF m 164 #[.val (.int i0), .val (.int i1), .val (.int i2), .val (.int i3), .val (.int i4), .val (.ref ta), .val (.int ((i1 &&& (2147483647 : Int32)) % (6 : Int32))), .val (.int bo2), .val (.int ((i2 &&& (2147483647 : Int32)) % (12 : Int32))), .val (.int (nar .char (i3 &&& (255 : Int32)))), .val (.int (nar .char (i4 &&& (255 : Int32)))), .val (.ref b7), .val (.ref b19), .val (.ref b33), .val (.ref b49), .val (.ref b67), .val (.ref b87), .val (.ref b67), .unset, .unset] [(.int ((i2 &&& (2147483647 : Int32)) % (12 : Int32))), (.ref ta), (.ref b67)])) (fun t k => XS.iload N90.here hx rfl (hb hby at_162) rfl k) ?_
              refine Ends.go (f' := (mkF m 166 #[.val (.int i0), .val (.int i1), .val (.int i2), .val (.int i3), .val (.int i4), .val (.ref ta), .val (.int ((i1 &&& (2147483647 : Int32)) % (6 : Int32))), .val (.int bo2), .val (.int ((i2 &&& (2147483647 : Int32)) % (12 : Int32))), .val (.int (nar .char (i3 &&& (255 : Int32)))), .val (.int (nar .char (i4 &&& (255 : Int32)))), .val (.ref b7), .val (.ref b19), .val (.ref b33), .val (.ref b49), .val (.ref b67), .val (.ref b87), .val (.ref b67), .unset, .unset] [(.int (nar .char (i3 &&& (255 : Int32)))), (.int ((i2 &&& (2147483647 : Int32)) % (12 : Int32))), (.ref ta), (.ref b67)])) (fun t k => XS.iload N90.here hx rfl (hb hby at_164) rfl k) ?_
              refine Ends.go (f' := (mkF m 168 #[.val (.int i0), .val (.int i1), .val (.int i2), .val (.int i3), .val (.int i4), .val (.ref ta), .val (.int ((i1 &&& (2147483647 : Int32)) % (6 : Int32))), .val (.int bo2), .val (.int ((i2 &&& (2147483647 : Int32)) % (12 : Int32))), .val (.int (nar .char (i3 &&& (255 : Int32)))), .val (.int (nar .char (i4 &&& (255 : Int32)))), .val (.ref b7), .val (.ref b19), .val (.ref b33), .val (.ref b49), .val (.ref b67), .val (.ref b87), .val (.ref b67), .unset, .unset] [(.int (nar .char (i4 &&& (255 : Int32)))), (.int (nar .char (i3 &&& (255 : Int32)))), (.int ((i2 &&& (2147483647 : Int32)) % (12 : Int32))), (.ref ta), (.ref b67)])) (fun t k => XS.iload N90.here hx rfl (hb hby at_166) rfl k) ?_
              refine gStatic (W := 0) (argsL := [(.ref b67), (.ref ta), (.int ((i2 &&& (2147483647 : Int32)) % (12 : Int32))), (.int (nar .char (i3 &&& (255 : Int32)))), (.int (nar .char (i4 &&& (255 : Int32))))]) (rest := []) N90 hx hZ hown (hw _ (List.mem_of_getElem? (i := 10) rfl)) (hw _ (List.mem_of_getElem? (i := 11) rfl)) (hw _ (List.mem_of_getElem? (i := 12) rfl)) (hw _ (List.mem_of_getElem? (i := 13) rfl)) (by decide) ((rmFill9 l Z a0 hw b67 ta kA68 ((i2 &&& (2147483647 : Int32)) % (12 : Int32)) (nar .char (i3 &&& (255 : Int32))) (nar .char (i4 &&& (255 : Int32))) ct h1 h86 N90.ext G X100 St1 g73 g78 (V84.ext X105) okc okf).back (W := 0) hZ (hw _ (List.mem_of_getElem? (i := 13) rfl)) (hw _ (List.mem_of_getElem? (i := 12) rfl)) (nle rfl) (nle rfl)) (hb hby at_168) rfl (by rw [hml]; rfl) (lenOf (by decide +kernel : parseMethodDescriptor "([CLjava/lang/String;ICC)V" = some ⟨[(.array .char), (.object "java/lang/String"), .int, .char, .char], none⟩) rfl) (nle rfl) (nle rfl) (nle rfl) (fun _ _ _ q => q.2) ?_
              rintro _ T255 h256 _ N257 ⟨⟨rfl, K258, V259⟩, -⟩
              have X260 : Ext h1 h256 := ext_keep X100 K258 g73
              have X261 : Ext h6 h256 := ext_keep X101 K258 g74
              have X262 : Ext h18 h256 := ext_keep X102 K258 g75
              have X263 : Ext h32 h256 := ext_keep X103 K258 g76
              have X264 : Ext h48 h256 := ext_keep X104 K258 g77
              show Ends p e below _ T255 (mkF m 171 #[.val (.int i0), .val (.int i1), .val (.int i2), .val (.int i3), .val (.int i4), .val (.ref ta), .val (.int ((i1 &&& (2147483647 : Int32)) % (6 : Int32))), .val (.int bo2), .val (.int ((i2 &&& (2147483647 : Int32)) % (12 : Int32))), .val (.int (nar .char (i3 &&& (255 : Int32)))), .val (.int (nar .char (i4 &&& (255 : Int32)))), .val (.ref b7), .val (.ref b19), .val (.ref b33), .val (.ref b49), .val (.ref b67), .val (.ref b87), .val (.ref b67), .unset, .unset] [])
              refine gNew (a0 := a0) N257 hx hZ hown (hw _ (List.mem_of_getElem? (i := 52) rfl)) (hw _ (List.mem_of_getElem? (i := 2) rfl)) (hw _ (List.mem_of_getElem? (i := 1) rfl)) (hb hby at_171) (nle rfl) (nle rfl) ?_
              intro T265 h266 a267 ea268 N269 E270 A271 D272
              have g273 : h1.size ≤ a267 := by rw [ea268]; exact X260.1
              have g274 : h6.size ≤ a267 := by rw [ea268]; exact X261.1
              have g275 : h18.size ≤ a267 := by rw [ea268]; exact X262.1
              have g276 : h32.size ≤ a267 := by rw [ea268]; exact X263.1
              have g277 : h48.size ≤ a267 := by rw [ea268]; exact X264.1
              have g278 : h256.size ≤ a267 := by rw [ea268]; exact (ext_refl h256).1
              have g279 : Z.heap.size ≤ a267 := by rw [ea268]; exact N257.le
              have X280 : Ext h1 h266 := ext_trans X260 E270
              have X281 : Ext h6 h266 := ext_trans X261 E270
              have X282 : Ext h18 h266 := ext_trans X262 E270
              have X283 : Ext h32 h266 := ext_trans X263 E270
              have X284 : Ext h48 h266 := ext_trans X264 E270
              have X285 : Ext h256 h266 := ext_trans (ext_refl h256) E270
              show Ends p e below _ T265 (mkF m 174 #[.val (.int i0), .val (.int i1), .val (.int i2), .val (.int i3), .val (.int i4), .val (.ref ta), .val (.int ((i1 &&& (2147483647 : Int32)) % (6 : Int32))), .val (.int bo2), .val (.int ((i2 &&& (2147483647 : Int32)) % (12 : Int32))), .val (.int (nar .char (i3 &&& (255 : Int32)))), .val (.int (nar .char (i4 &&& (255 : Int32)))), .val (.ref b7), .val (.ref b19), .val (.ref b33), .val (.ref b49), .val (.ref b67), .val (.ref b87), .val (.ref b67), .unset, .unset] [(.ref a267)])
              refine Ends.go (f' := (mkF m 175 #[.val (.int i0), .val (.int i1), .val (.int i2), .val (.int i3), .val (.int i4), .val (.ref ta), .val (.int ((i1 &&& (2147483647 : Int32)) % (6 : Int32))), .val (.int bo2), .val (.int ((i2 &&& (2147483647 : Int32)) % (12 : Int32))), .val (.int (nar .char (i3 &&& (255 : Int32)))), .val (.int (nar .char (i4 &&& (255 : Int32)))), .val (.ref b7), .val (.ref b19), .val (.ref b33), .val (.ref b49), .val (.ref b67), .val (.ref b87), .val (.ref b67), .unset, .unset] [(.ref a267), (.ref a267)])) (fun t k => XS.dup N269.here hx rfl (hb hby at_174) rfl rfl k) ?_
              refine Ends.go (f' := (mkF m 177 #[.val (.int i0), .val (.int i1), .val (.int i2), .val (.int i3), .val (.int i4), .val (.ref ta), .val (.int ((i1 &&& (2147483647 : Int32)) % (6 : Int32))), .val (.int bo2), .val (.int ((i2 &&& (2147483647 : Int32)) % (12 : Int32))), .val (.int (nar .char (i3 &&& (255 : Int32)))), .val (.int (nar .char (i4 &&& (255 : Int32)))), .val (.ref b7), .val (.ref b19), .val (.ref b33), .val (.ref b49), .val (.ref b67), .val (.ref b87), .val (.ref b67), .unset, .unset] [(.ref b67), (.ref a267), (.ref a267)])) (fun t k => XS.aload N269.here hx rfl (hb hby at_175) rfl rfl k) ?_
              have V286 := V259.ext X285
              refine gSpecial (W := 1) (y := (⟨"java/lang/String", "<init>", "([C)V"⟩ : MethodName)) (a := a267) (argsL := [(.ref b67)]) (rest := [(.ref a267)]) rfl N269 hx hZ hown (hw _ (List.mem_of_getElem? (i := 53) rfl)) (hw _ (List.mem_of_getElem? (i := 54) rfl)) (hw _ (List.mem_of_getElem? (i := 55) rfl)) (by decide) (strNew (W := 1) (cs := [(fAt ct 0 ((i2 &&& (2147483647 : Int32)) % (12 : Int32)) (nar .char (i3 &&& (255 : Int32))) (nar .char (i4 &&& (255 : Int32)))), (fAt ct 1 ((i2 &&& (2147483647 : Int32)) % (12 : Int32)) (nar .char (i3 &&& (255 : Int32))) (nar .char (i4 &&& (255 : Int32)))), (fAt ct 2 ((i2 &&& (2147483647 : Int32)) % (12 : Int32)) (nar .char (i3 &&& (255 : Int32))) (nar .char (i4 &&& (255 : Int32)))), (fAt ct 3 ((i2 &&& (2147483647 : Int32)) % (12 : Int32)) (nar .char (i3 &&& (255 : Int32))) (nar .char (i4 &&& (255 : Int32)))), (fAt ct 4 ((i2 &&& (2147483647 : Int32)) % (12 : Int32)) (nar .char (i3 &&& (255 : Int32))) (nar .char (i4 &&& (255 : Int32)))), (fAt ct 5 ((i2 &&& (2147483647 : Int32)) % (12 : Int32)) (nar .char (i3 &&& (255 : Int32))) (nar .char (i4 &&& (255 : Int32)))), (fAt ct 6 ((i2 &&& (2147483647 : Int32)) % (12 : Int32)) (nar .char (i3 &&& (255 : Int32))) (nar .char (i4 &&& (255 : Int32)))), (fAt ct 7 ((i2 &&& (2147483647 : Int32)) % (12 : Int32)) (nar .char (i3 &&& (255 : Int32))) (nar .char (i4 &&& (255 : Int32)))), (fAt ct 8 ((i2 &&& (2147483647 : Int32)) % (12 : Int32)) (nar .char (i3 &&& (255 : Int32))) (nar .char (i4 &&& (255 : Int32))))]) hZ hw G N269.ext g279 (A271.ext (ext_refl h266)) ((D272 (Or.inr (hw _ (List.mem_of_getElem? (i := 4) rfl))) (ty := .array .byte) (by decide)).ext (ext_refl h266)) ((D272 (Or.inr (hw _ (List.mem_of_getElem? (i := 5) rfl))) (ty := .byte) (by decide)).ext (ext_refl h266)) V286 (nle rfl) (nle rfl) (hp_cons (at_ok okc okf St1.2.2.2.1) (hp_cons (at_ok okc okf St1.2.2.2.1) (hp_cons (at_ok okc okf St1.2.2.2.1) (hp_cons (at_ok okc okf St1.2.2.2.1) (hp_cons (at_ok okc okf St1.2.2.2.1) (hp_cons (at_ok okc okf St1.2.2.2.1) (hp_cons (at_ok okc okf St1.2.2.2.1) (hp_cons (at_ok okc okf St1.2.2.2.1) (hp_cons (at_ok okc okf St1.2.2.2.1) hp_nil))))))))) (nle rfl) (nle rfl)) (hb hby at_177) rfl (by rw [hml]; rfl) (lenOf (by decide +kernel : parseMethodDescriptor "([C)V" = some ⟨[(.array .char)], none⟩) rfl) (nle rfl) (nle rfl) (nle rfl) (fun _ _ _ q => q.2.2.2) ?_
              rintro _ T287 h288 L289 N290 ⟨rfl, K291, S292, -⟩
              have X293 : Ext h1 h288 := ext_keep X280 K291 g273
              have X294 : Ext h6 h288 := ext_keep X281 K291 g274
              have X295 : Ext h18 h288 := ext_keep X282 K291 g275
              have X296 : Ext h32 h288 := ext_keep X283 K291 g276
              have X297 : Ext h48 h288 := ext_keep X284 K291 g277
              have X298 : Ext h256 h288 := ext_keep X285 K291 g278
              show Ends p e below _ T287 (mkF m 180 #[.val (.int i0), .val (.int i1), .val (.int i2), .val (.int i3), .val (.int i4), .val (.ref ta), .val (.int ((i1 &&& (2147483647 : Int32)) % (6 : Int32))), .val (.int bo2), .val (.int ((i2 &&& (2147483647 : Int32)) % (12 : Int32))), .val (.int (nar .char (i3 &&& (255 : Int32)))), .val (.int (nar .char (i4 &&& (255 : Int32)))), .val (.ref b7), .val (.ref b19), .val (.ref b33), .val (.ref b49), .val (.ref b67), .val (.ref b87), .val (.ref b67), .unset, .unset] [(.ref a267)])
              refine Ends.go (f' := (mkF m 182 #[.val (.int i0), .val (.int i1), .val (.int i2), .val (.int i3), .val (.int i4), .val (.ref ta), .val (.int ((i1 &&& (2147483647 : Int32)) % (6 : Int32))), .val (.int bo2), .val (.int ((i2 &&& (2147483647 : Int32)) % (12 : Int32))), .val (.int (nar .char (i3 &&& (255 : Int32)))), .val (.int (nar .char (i4 &&& (255 : Int32)))), .val (.ref b7), .val (.ref b19), .val (.ref b33), .val (.ref b49), .val (.ref b67), .val (.ref b87), .val (.ref b67), .val (.ref a267), .unset] [])) (fun t k => XS.astore N290.here hx rfl (hb hby at_180) rfl rfl (l' := #[.val (.int i0), .val (.int i1), .val (.int i2), .val (.int i3), .val (.int i4), .val (.ref ta), .val (.int ((i1 &&& (2147483647 : Int32)) % (6 : Int32))), .val (.int bo2), .val (.int ((i2 &&& (2147483647 : Int32)) % (12 : Int32))), .val (.int (nar .char (i3 &&& (255 : Int32)))), .val (.int (nar .char (i4 &&& (255 : Int32)))), .val (.ref b7), .val (.ref b19), .val (.ref b33), .val (.ref b49), .val (.ref b67), .val (.ref b87), .val (.ref b67), .val (.ref a267), .unset]) rfl k) ?_
              exact join2 vm1 T287 h288 _ _ _ (N290.mono (nle rfl) (nle rfl)) hZ hown (wd1.ext X293) S292 (St1.ext X293) (by simp only [fillCs, if_neg k0, if_neg k1, if_neg k2, if_neg k3, if_pos k4])
            · refine Ends.go (f' := (mkF m 154 #[.val (.int i0), .val (.int i1), .val (.int i2), .val (.int i3), .val (.int i4), .val (.ref ta), .val (.int ((i1 &&& (2147483647 : Int32)) % (6 : Int32))), .val (.int bo2), .val (.int ((i2 &&& (2147483647 : Int32)) % (12 : Int32))), .val (.int (nar .char (i3 &&& (255 : Int32)))), .val (.int (nar .char (i4 &&& (255 : Int32)))), .val (.ref b7), .val (.ref b19), .val (.ref b33), .val (.ref b49), .val (.ref b67), .val (.ref b87), .unset, .unset, .unset] [])) (fun t k => XS.icmpYes N90.here hx rfl (pc0 := 146) (pc' := 154) rfl (hb hby at_146) rfl (XT.ii_ne_t k4) (by decide) (by decide) k) ?_
              refine Ends.go (f' := (mkF m 156 #[.val (.int i0), .val (.int i1), .val (.int i2), .val (.int i3), .val (.int i4), .val (.ref ta), .val (.int ((i1 &&& (2147483647 : Int32)) % (6 : Int32))), .val (.int bo2), .val (.int ((i2 &&& (2147483647 : Int32)) % (12 : Int32))), .val (.int (nar .char (i3 &&& (255 : Int32)))), .val (.int (nar .char (i4 &&& (255 : Int32)))), .val (.ref b7), .val (.ref b19), .val (.ref b33), .val (.ref b49), .val (.ref b67), .val (.ref b87), .unset, .unset, .unset] [(.ref b87)])) (fun t k => XS.aload N90.here hx rfl (hb hby at_154) rfl rfl k) ?_
              refine Ends.go (f' := (mkF m 158 #[.val (.int i0), .val (.int i1), .val (.int i2), .val (.int i3), .val (.int i4), .val (.ref ta), .val (.int ((i1 &&& (2147483647 : Int32)) % (6 : Int32))), .val (.int bo2), .val (.int ((i2 &&& (2147483647 : Int32)) % (12 : Int32))), .val (.int (nar .char (i3 &&& (255 : Int32)))), .val (.int (nar .char (i4 &&& (255 : Int32)))), .val (.ref b7), .val (.ref b19), .val (.ref b33), .val (.ref b49), .val (.ref b67), .val (.ref b87), .val (.ref b87), .unset, .unset] [])) (fun t k => XS.astore N90.here hx rfl (hb hby at_156) rfl rfl (l' := #[.val (.int i0), .val (.int i1), .val (.int i2), .val (.int i3), .val (.int i4), .val (.ref ta), .val (.int ((i1 &&& (2147483647 : Int32)) % (6 : Int32))), .val (.int bo2), .val (.int ((i2 &&& (2147483647 : Int32)) % (12 : Int32))), .val (.int (nar .char (i3 &&& (255 : Int32)))), .val (.int (nar .char (i4 &&& (255 : Int32)))), .val (.ref b7), .val (.ref b19), .val (.ref b33), .val (.ref b49), .val (.ref b67), .val (.ref b87), .val (.ref b87), .unset, .unset]) rfl k) ?_
              refine Ends.go (f' := (mkF m 160 #[.val (.int i0), .val (.int i1), .val (.int i2), .val (.int i3), .val (.int i4), .val (.ref ta), .val (.int ((i1 &&& (2147483647 : Int32)) % (6 : Int32))), .val (.int bo2), .val (.int ((i2 &&& (2147483647 : Int32)) % (12 : Int32))), .val (.int (nar .char (i3 &&& (255 : Int32)))), .val (.int (nar .char (i4 &&& (255 : Int32)))), .val (.ref b7), .val (.ref b19), .val (.ref b33), .val (.ref b49), .val (.ref b67), .val (.ref b87), .val (.ref b87), .unset, .unset] [(.ref b87)])) (fun t k => XS.aload N90.here hx rfl (hb hby at_158) rfl rfl k) ?_
              refine Ends.go (f' := (mkF m 162 #[.val (.int i0), .val (.int i1), .val (.int i2), .val (.int i3), .val (.int i4), .val (.ref ta), .val (.int ((i1 &&& (2147483647 : Int32)) % (6 : Int32))), .val (.int bo2), .val (.int ((i2 &&& (2147483647 : Int32)) % (12 : Int32))), .val (.int (nar .char (i3 &&& (255 : Int32)))), .val (.int (nar .char (i4 &&& (255 : Int32)))), .val (.ref b7), .val (.ref b19), .val (.ref b33), .val (.ref b49), .val (.ref b67), .val (.ref b87), .val (.ref b87), .unset, .unset] [(.ref ta), (.ref b87)])) (fun t k => XS.aload N90.here hx rfl (hb hby at_160) rfl rfl k) ?_
              refine Ends.go (f' := (mkF m 164 #[.val (.int i0), .val (.int i1), .val (.int i2), .val (.int i3), .val (.int i4), .val (.ref ta), .val (.int ((i1 &&& (2147483647 : Int32)) % (6 : Int32))), .val (.int bo2), .val (.int ((i2 &&& (2147483647 : Int32)) % (12 : Int32))), .val (.int (nar .char (i3 &&& (255 : Int32)))), .val (.int (nar .char (i4 &&& (255 : Int32)))), .val (.ref b7), .val (.ref b19), .val (.ref b33), .val (.ref b49), .val (.ref b67), .val (.ref b87), .val (.ref b87), .unset, .unset] [(.int ((i2 &&& (2147483647 : Int32)) % (12 : Int32))), (.ref ta), (.ref b87)])) (fun t k => XS.iload N90.here hx rfl (hb hby at_162) rfl k) ?_
              refine Ends.go (f' := (mkF m 166 #[.val (.int i0), .val (.int i1), .val (.int i2), .val (.int i3), .val (.int i4), .val (.ref ta), .val (.int ((i1 &&& (2147483647 : Int32)) % (6 : Int32))), .val (.int bo2), .val (.int ((i2 &&& (2147483647 : Int32)) % (12 : Int32))), .val (.int (nar .char (i3 &&& (255 : Int32)))), .val (.int (nar .char (i4 &&& (255 : Int32)))), .val (.ref b7), .val (.ref b19), .val (.ref b33), .val (.ref b49), .val (.ref b67), .val (.ref b87), .val (.ref b87), .unset, .unset] [(.int (nar .char (i3 &&& (255 : Int32)))), (.int ((i2 &&& (2147483647 : Int32)) % (12 : Int32))), (.ref ta), (.ref b87)])) (fun t k => XS.iload N90.here hx rfl (hb hby at_164) rfl k) ?_
              refine Ends.go (f' := (mkF m 168 #[.val (.int i0), .val (.int i1), .val (.int i2), .val (.int i3), .val (.int i4), .val (.ref ta), .val (.int ((i1 &&& (2147483647 : Int32)) % (6 : Int32))), .val (.int bo2), .val (.int ((i2 &&& (2147483647 : Int32)) % (12 : Int32))), .val (.int (nar .char (i3 &&& (255 : Int32)))), .val (.int (nar .char (i4 &&& (255 : Int32)))), .val (.ref b7), .val (.ref b19), .val (.ref b33), .val (.ref b49), .val (.ref b67), .val (.ref b87), .val (.ref b87), .unset, .unset] [(.int (nar .char (i4 &&& (255 : Int32)))), (.int (nar .char (i3 &&& (255 : Int32)))), (.int ((i2 &&& (2147483647 : Int32)) % (12 : Int32))), (.ref ta), (.ref b87)])) (fun t k => XS.iload N90.here hx rfl (hb hby at_166) rfl k) ?_
              refine gStatic (W := 0) (argsL := [(.ref b87), (.ref ta), (.int ((i2 &&& (2147483647 : Int32)) % (12 : Int32))), (.int (nar .char (i3 &&& (255 : Int32)))), (.int (nar .char (i4 &&& (255 : Int32))))]) (rest := []) N90 hx hZ hown (hw _ (List.mem_of_getElem? (i := 10) rfl)) (hw _ (List.mem_of_getElem? (i := 11) rfl)) (hw _ (List.mem_of_getElem? (i := 12) rfl)) (hw _ (List.mem_of_getElem? (i := 13) rfl)) (by decide) ((rmFill10 l Z a0 hw b87 ta kA88 ((i2 &&& (2147483647 : Int32)) % (12 : Int32)) (nar .char (i3 &&& (255 : Int32))) (nar .char (i4 &&& (255 : Int32))) ct h1 h86 N90.ext G X100 St1 g93 g99 (V106.ext (ext_refl h86)) okc okf).back (W := 0) hZ (hw _ (List.mem_of_getElem? (i := 13) rfl)) (hw _ (List.mem_of_getElem? (i := 12) rfl)) (nle rfl) (nle rfl)) (hb hby at_168) rfl (by rw [hml]; rfl) (lenOf (by decide +kernel : parseMethodDescriptor "([CLjava/lang/String;ICC)V" = some ⟨[(.array .char), (.object "java/lang/String"), .int, .char, .char], none⟩) rfl) (nle rfl) (nle rfl) (nle rfl) (fun _ _ _ q => q.2) ?_
              rintro _ T299 h300 _ N301 ⟨⟨rfl, K302, V303⟩, -⟩
              have X304 : Ext h1 h300 := ext_keep X100 K302 g93
              have X305 : Ext h6 h300 := ext_keep X101 K302 g94
              have X306 : Ext h18 h300 := ext_keep X102 K302 g95
              have X307 : Ext h32 h300 := ext_keep X103 K302 g96
              have X308 : Ext h48 h300 := ext_keep X104 K302 g97
              have X309 : Ext h66 h300 := ext_keep X105 K302 g98
              show Ends p e below _ T299 (mkF m 171 #[.val (.int i0), .val (.int i1), .val (.int i2), .val (.int i3), .val (.int i4), .val (.ref ta), .val (.int ((i1 &&& (2147483647 : Int32)) % (6 : Int32))), .val (.int bo2), .val (.int ((i2 &&& (2147483647 : Int32)) % (12 : Int32))), .val (.int (nar .char (i3 &&& (255 : Int32)))), .val (.int (nar .char (i4 &&& (255 : Int32)))), .val (.ref b7), .val (.ref b19), .val (.ref b33), .val (.ref b49), .val (.ref b67), .val (.ref b87), .val (.ref b87), .unset, .unset] [])
              refine gNew (a0 := a0) N301 hx hZ hown (hw _ (List.mem_of_getElem? (i := 52) rfl)) (hw _ (List.mem_of_getElem? (i := 2) rfl)) (hw _ (List.mem_of_getElem? (i := 1) rfl)) (hb hby at_171) (nle rfl) (nle rfl) ?_
              intro T310 h311 a312 ea313 N314 E315 A316 D317
              have g318 : h1.size ≤ a312 := by rw [ea313]; exact X304.1
              have g319 : h6.size ≤ a312 := by rw [ea313]; exact X305.1
              have g320 : h18.size ≤ a312 := by rw [ea313]; exact X306.1
              have g321 : h32.size ≤ a312 := by rw [ea313]; exact X307.1
              have g322 : h48.size ≤ a312 := by rw [ea313]; exact X308.1
              have g323 : h66.size ≤ a312 := by rw [ea313]; exact X309.1
              have g324 : h300.size ≤ a312 := by rw [ea313]; exact (ext_refl h300).1
              have g325 : Z.heap.size ≤ a312 := by rw [ea313]; exact N301.le
              have X326 : Ext h1 h311 := ext_trans X304 E315
              have X327 : Ext h6 h311 := ext_trans X305 E315
              have X328 : Ext h18 h311 := ext_trans X306 E315
              have X329 : Ext h32 h311 := ext_trans X307 E315
              have X330 : Ext h48 h311 := ext_trans X308 E315
              have X331 : Ext h66 h311 := ext_trans X309 E315
              have X332 : Ext h300 h311 := ext_trans (ext_refl h300) E315
              show Ends p e below _ T310 (mkF m 174 #[.val (.int i0), .val (.int i1), .val (.int i2), .val (.int i3), .val (.int i4), .val (.ref ta), .val (.int ((i1 &&& (2147483647 : Int32)) % (6 : Int32))), .val (.int bo2), .val (.int ((i2 &&& (2147483647 : Int32)) % (12 : Int32))), .val (.int (nar .char (i3 &&& (255 : Int32)))), .val (.int (nar .char (i4 &&& (255 : Int32)))), .val (.ref b7), .val (.ref b19), .val (.ref b33), .val (.ref b49), .val (.ref b67), .val (.ref b87), .val (.ref b87), .unset, .unset] [(.ref a312)])
              refine Ends.go (f' := (mkF m 175 #[.val (.int i0), .val (.int i1), .val (.int i2), .val (.int i3), .val (.int i4), .val (.ref ta), .val (.int ((i1 &&& (2147483647 : Int32)) % (6 : Int32))), .val (.int bo2), .val (.int ((i2 &&& (2147483647 : Int32)) % (12 : Int32))), .val (.int (nar .char (i3 &&& (255 : Int32)))), .val (.int (nar .char (i4 &&& (255 : Int32)))), .val (.ref b7), .val (.ref b19), .val (.ref b33), .val (.ref b49), .val (.ref b67), .val (.ref b87), .val (.ref b87), .unset, .unset] [(.ref a312), (.ref a312)])) (fun t k => XS.dup N314.here hx rfl (hb hby at_174) rfl rfl k) ?_
              refine Ends.go (f' := (mkF m 177 #[.val (.int i0), .val (.int i1), .val (.int i2), .val (.int i3), .val (.int i4), .val (.ref ta), .val (.int ((i1 &&& (2147483647 : Int32)) % (6 : Int32))), .val (.int bo2), .val (.int ((i2 &&& (2147483647 : Int32)) % (12 : Int32))), .val (.int (nar .char (i3 &&& (255 : Int32)))), .val (.int (nar .char (i4 &&& (255 : Int32)))), .val (.ref b7), .val (.ref b19), .val (.ref b33), .val (.ref b49), .val (.ref b67), .val (.ref b87), .val (.ref b87), .unset, .unset] [(.ref b87), (.ref a312), (.ref a312)])) (fun t k => XS.aload N314.here hx rfl (hb hby at_175) rfl rfl k) ?_
              have V333 := V303.ext X332
              refine gSpecial (W := 1) (y := (⟨"java/lang/String", "<init>", "([C)V"⟩ : MethodName)) (a := a312) (argsL := [(.ref b87)]) (rest := [(.ref a312)]) rfl N314 hx hZ hown (hw _ (List.mem_of_getElem? (i := 53) rfl)) (hw _ (List.mem_of_getElem? (i := 54) rfl)) (hw _ (List.mem_of_getElem? (i := 55) rfl)) (by decide) (strNew (W := 1) (cs := [(fAt ct 0 ((i2 &&& (2147483647 : Int32)) % (12 : Int32)) (nar .char (i3 &&& (255 : Int32))) (nar .char (i4 &&& (255 : Int32)))), (fAt ct 1 ((i2 &&& (2147483647 : Int32)) % (12 : Int32)) (nar .char (i3 &&& (255 : Int32))) (nar .char (i4 &&& (255 : Int32)))), (fAt ct 2 ((i2 &&& (2147483647 : Int32)) % (12 : Int32)) (nar .char (i3 &&& (255 : Int32))) (nar .char (i4 &&& (255 : Int32)))), (fAt ct 3 ((i2 &&& (2147483647 : Int32)) % (12 : Int32)) (nar .char (i3 &&& (255 : Int32))) (nar .char (i4 &&& (255 : Int32)))), (fAt ct 4 ((i2 &&& (2147483647 : Int32)) % (12 : Int32)) (nar .char (i3 &&& (255 : Int32))) (nar .char (i4 &&& (255 : Int32)))), (fAt ct 5 ((i2 &&& (2147483647 : Int32)) % (12 : Int32)) (nar .char (i3 &&& (255 : Int32))) (nar .char (i4 &&& (255 : Int32)))), (fAt ct 6 ((i2 &&& (2147483647 : Int32)) % (12 : Int32)) (nar .char (i3 &&& (255 : Int32))) (nar .char (i4 &&& (255 : Int32)))), (fAt ct 7 ((i2 &&& (2147483647 : Int32)) % (12 : Int32)) (nar .char (i3 &&& (255 : Int32))) (nar .char (i4 &&& (255 : Int32)))), (fAt ct 8 ((i2 &&& (2147483647 : Int32)) % (12 : Int32)) (nar .char (i3 &&& (255 : Int32))) (nar .char (i4 &&& (255 : Int32)))), (fAt ct 9 ((i2 &&& (2147483647 : Int32)) % (12 : Int32)) (nar .char (i3 &&& (255 : Int32))) (nar .char (i4 &&& (255 : Int32))))]) hZ hw G N314.ext g325 (A316.ext (ext_refl h311)) ((D317 (Or.inr (hw _ (List.mem_of_getElem? (i := 4) rfl))) (ty := .array .byte) (by decide)).ext (ext_refl h311)) ((D317 (Or.inr (hw _ (List.mem_of_getElem? (i := 5) rfl))) (ty := .byte) (by decide)).ext (ext_refl h311)) V333 (nle rfl) (nle rfl) (hp_cons (at_ok okc okf St1.2.2.2.1) (hp_cons (at_ok okc okf St1.2.2.2.1) (hp_cons (at_ok okc okf St1.2.2.2.1) (hp_cons (at_ok okc okf St1.2.2.2.1) (hp_cons (at_ok okc okf St1.2.2.2.1) (hp_cons (at_ok okc okf St1.2.2.2.1) (hp_cons (at_ok okc okf St1.2.2.2.1) (hp_cons (at_ok okc okf St1.2.2.2.1) (hp_cons (at_ok okc okf St1.2.2.2.1) (hp_cons (at_ok okc okf St1.2.2.2.1) hp_nil)))))))))) (nle rfl) (nle rfl)) (hb hby at_177) rfl (by rw [hml]; rfl) (lenOf (by decide +kernel : parseMethodDescriptor "([C)V" = some ⟨[(.array .char)], none⟩) rfl) (nle rfl) (nle rfl) (nle rfl) (fun _ _ _ q => q.2.2.2) ?_
              rintro _ T334 h335 L336 N337 ⟨rfl, K338, S339, -⟩
              have X340 : Ext h1 h335 := ext_keep X326 K338 g318
              have X341 : Ext h6 h335 := ext_keep X327 K338 g319
              have X342 : Ext h18 h335 := ext_keep X328 K338 g320
              have X343 : Ext h32 h335 := ext_keep X329 K338 g321
              have X344 : Ext h48 h335 := ext_keep X330 K338 g322
              have X345 : Ext h66 h335 := ext_keep X331 K338 g323
              have X346 : Ext h300 h335 := ext_keep X332 K338 g324
              show Ends p e below _ T334 (mkF m 180 #[.val (.int i0), .val (.int i1), .val (.int i2), .val (.int i3), .val (.int i4), .val (.ref ta), .val (.int ((i1 &&& (2147483647 : Int32)) % (6 : Int32))), .val (.int bo2), .val (.int ((i2 &&& (2147483647 : Int32)) % (12 : Int32))), .val (.int (nar .char (i3 &&& (255 : Int32)))), .val (.int (nar .char (i4 &&& (255 : Int32)))), .val (.ref b7), .val (.ref b19), .val (.ref b33), .val (.ref b49), .val (.ref b67), .val (.ref b87), .val (.ref b87), .unset, .unset] [(.ref a312)])
              refine Ends.go (f' := (mkF m 182 #[.val (.int i0), .val (.int i1), .val (.int i2), .val (.int i3), .val (.int i4), .val (.ref ta), .val (.int ((i1 &&& (2147483647 : Int32)) % (6 : Int32))), .val (.int bo2), .val (.int ((i2 &&& (2147483647 : Int32)) % (12 : Int32))), .val (.int (nar .char (i3 &&& (255 : Int32)))), .val (.int (nar .char (i4 &&& (255 : Int32)))), .val (.ref b7), .val (.ref b19), .val (.ref b33), .val (.ref b49), .val (.ref b67), .val (.ref b87), .val (.ref b87), .val (.ref a312), .unset] [])) (fun t k => XS.astore N337.here hx rfl (hb hby at_180) rfl rfl (l' := #[.val (.int i0), .val (.int i1), .val (.int i2), .val (.int i3), .val (.int i4), .val (.ref ta), .val (.int ((i1 &&& (2147483647 : Int32)) % (6 : Int32))), .val (.int bo2), .val (.int ((i2 &&& (2147483647 : Int32)) % (12 : Int32))), .val (.int (nar .char (i3 &&& (255 : Int32)))), .val (.int (nar .char (i4 &&& (255 : Int32)))), .val (.ref b7), .val (.ref b19), .val (.ref b33), .val (.ref b49), .val (.ref b67), .val (.ref b87), .val (.ref b87), .val (.ref a312), .unset]) rfl k) ?_
              exact join2 vm1 T334 h335 _ _ _ (N337.mono (nle rfl) (nle rfl)) hZ hown (wd1.ext X340) S339 (St1.ext X340) (by simp only [fillCs, if_neg k0, if_neg k1, if_neg k2, if_neg k3, if_neg k4])
  refine Ends.go (f' := (mkF m 1 #[.val (.int i0), .val (.int i1), .val (.int i2), .val (.int i3), .val (.int i4), .unset, .unset, .unset, .unset, .unset, .unset, .unset, .unset, .unset, .unset, .unset, .unset, .unset, .unset, .unset] [(.int i0)])) (fun t k => XS.iloadN N0.here hx rfl (hb hby at_0) rfl k) ?_
  refine Ends.go (f' := (mkF m 2 #[.val (.int i0), .val (.int i1), .val (.int i2), .val (.int i3), .val (.int i4), .unset, .unset, .unset, .unset, .unset, .unset, .unset, .unset, .unset, .unset, .unset, .unset, .unset, .unset, .unset] [(.int (1 : Int32)), (.int i0)])) (fun t k => XS.iconst N0.here hx rfl (hb hby at_1) k) ?_
  refine Ends.go (f' := (mkF m 3 #[.val (.int i0), .val (.int i1), .val (.int i2), .val (.int i3), .val (.int i4), .unset, .unset, .unset, .unset, .unset, .unset, .unset, .unset, .unset, .unset, .unset, .unset, .unset, .unset, .unset] [(.int (i0 &&& (1 : Int32)))])) (fun t k => XS.iand N0.here hx rfl (hb hby at_2) rfl k) ?_
  by_cases l0 : (i0 &&& (1 : Int32)) = 0
  · refine Ends.go (f' := (mkF m 11 #[.val (.int i0), .val (.int i1), .val (.int i2), .val (.int i3), .val (.int i4), .unset, .unset, .unset, .unset, .unset, .unset, .unset, .unset, .unset, .unset, .unset, .unset, .unset, .unset, .unset] [])) (fun t k => XS.ifYes N0.here hx rfl (pc0 := 3) (pc' := 11) rfl (hb hby at_3) rfl (XT.i0_eq_t l0) (by decide) (by decide) k) ?_
    refine gLdcS (cs := [(45 : Int32), (45 : Int32), (115 : Int32), (105 : Int32), (116 : Int32), (101 : Int32), (115 : Int32)]) 28 N0 hx hZ hown (hw _ (List.mem_of_getElem? (i := 0) rfl)) (satoms hw) (elw hw) (by simp [consts_1]) wd0 ⟨by decide +kernel, by decide +kernel⟩ (by decide +kernel) (nle rfl) (hb hby at_11) (nle rfl) (nle rfl) (nle rfl) (nle rfl) ?_
    intro vm347 T348 h349 a350 N351 E352 S353 hZ hown wd354 R355
    have X356 : Ext h0 h349 := ext_trans (ext_refl h0) E352
    show Ends p e below _ T348 (mkF m 13 #[.val (.int i0), .val (.int i1), .val (.int i2), .val (.int i3), .val (.int i4), .unset, .unset, .unset, .unset, .unset, .unset, .unset, .unset, .unset, .unset, .unset, .unset, .unset, .unset, .unset] [(.ref a350)])
    exact join vm347 T348 h349 _ _ (N351.mono (nle rfl) (nle rfl)) hZ hown wd354 S353 (Or.inr rfl)
  · refine Ends.go (f' := (mkF m 6 #[.val (.int i0), .val (.int i1), .val (.int i2), .val (.int i3), .val (.int i4), .unset, .unset, .unset, .unset, .unset, .unset, .unset, .unset, .unset, .unset, .unset, .unset, .unset, .unset, .unset] [])) (fun t k => XS.ifNo N0.here hx rfl (hb hby at_3) rfl (XT.i0_eq_f l0) k) ?_
    refine gLdcS (cs := [(45 : Int32), (45 : Int32), (99 : Int32), (111 : Int32), (110 : Int32), (116 : Int32), (101 : Int32), (110 : Int32), (116 : Int32)]) 36 N0 hx hZ hown (hw _ (List.mem_of_getElem? (i := 88) rfl)) (satoms hw) (elw hw) (by simp [consts_1]) wd0 ⟨by decide +kernel, by decide +kernel⟩ (by decide +kernel) (nle rfl) (hb hby at_6) (nle rfl) (nle rfl) (nle rfl) (nle rfl) ?_
    intro vm357 T358 h359 a360 N361 E362 S363 hZ hown wd364 R365
    have X366 : Ext h0 h359 := ext_trans (ext_refl h0) E362
    show Ends p e below _ T358 (mkF m 8 #[.val (.int i0), .val (.int i1), .val (.int i2), .val (.int i3), .val (.int i4), .unset, .unset, .unset, .unset, .unset, .unset, .unset, .unset, .unset, .unset, .unset, .unset, .unset, .unset, .unset] [(.ref a360)])
    refine Ends.go (f' := (mkF m 13 #[.val (.int i0), .val (.int i1), .val (.int i2), .val (.int i3), .val (.int i4), .unset, .unset, .unset, .unset, .unset, .unset, .unset, .unset, .unset, .unset, .unset, .unset, .unset, .unset, .unset] [(.ref a360)])) (fun t k => XS.goto N361.here hx rfl (pc0 := 8) (pc' := 13) rfl (hb hby at_8) (by decide) (by decide) k) ?_
    exact join vm357 T358 h359 _ _ (N361.mono (nle rfl) (nle rfl)) hZ hown wd364 S363 (Or.inl rfl)
set_option maxRecDepth 65536 in
set_option maxHeartbeats 40000000 in
theorem comes_1 {Post : Tables → Env → Array Value → State → Outcome → State → Prop} (hpost : ∀ tb e args s v u, (limb_1_1.after args s (.returned v) u = true ∧ limb_1_2.after args s (.returned v) u = true ∧ True) → ReturnedEndW s (.returned v) u (Jvm.fieldLocs frame_1_writes args s ++ Jvm.arrayLocs frame_1_arrays args s ++ Jvm.staticLocs frame_1_statics s) 40 5312 → Post tb e args s (.returned v) u) :
    ArmFor flags0 classFile x code maxLocals ret World_1 tables_1 room_1 Calls_1 rest_1 Pre_1 Post := by
  intro l hfl _ _ p e ha hc hk s m args below hf hA hF happ hP
  obtain ⟨hcalls, hrest, hpre⟩ := hP
  obtain ⟨-, -, -, hnamed, -, -, -, hat⟩ := (Spec.applies_iff hf).mp happ
  obtain ⟨hg, hn⟩ := and_e (Cond.before_iff.mp (show (Jvm.Cond.and given_1 narrow_1).before args s = true from hpre))
  obtain ⟨hct, hg0⟩ := and_e hg
  obtain ⟨ha0, hg1⟩ := and_e hg0
  obtain ⟨ha1, hg2⟩ := and_e hg1
  obtain ⟨ha2, hg3⟩ := and_e hg2
  obtain ⟨ha3, hg4⟩ := and_e hg3
  obtain ⟨w0, w1, w2, w3, w4, rfl⟩ : ∃ w0 w1 w2 w3 w4 : Value, args = #[w0, w1, w2, w3, w4] := by
    have hs : args.size = 5 := by simpa [Cond.value, given_1] using hct
    obtain ⟨L⟩ := args
    match L, hs with
    | [w0, w1, w2, w3, w4], _ => exact ⟨w0, w1, w2, w3, w4, rfl⟩
  have hw := fun d (hd : d ∈ tables_1) => atoms_spec (ws := Jvm.Cond.code x code maxLocals ret :: tables_1) hat d (List.mem_cons_of_mem _ hd)
  obtain ⟨hsets, hown0⟩ := atoms_of _ (rest_1_c_eq ▸ (show rest_1_c.before _ s = true from hrest))
  have hfit : Fit s := fun {y c} hc i hi => by
    obtain ⟨ha, rfl⟩ := Array.getElem?_eq_some_iff.mp hc
    have q := List.all_eq_true.mp ((Array.all_eq_true_iff_forall_mem.mp hF) _ (Array.getElem_mem ha)) i (List.mem_range.mpr hi)
    simpa [Array.getElem?_eq_getElem hi] using q
  obtain ⟨i0, ei0⟩ := is_v ha0
  obtain rfl : w0 = (.int i0) := Option.some.inj ei0
  obtain ⟨i1, ei1⟩ := is_v ha1
  obtain rfl : w1 = (.int i1) := Option.some.inj ei1
  obtain ⟨i2, ei2⟩ := is_v ha2
  obtain rfl : w2 = (.int i2) := Option.some.inj ei2
  obtain ⟨i3, ei3⟩ := is_v ha3
  obtain rfl : w3 = (.int i3) := Option.some.inj ei3
  obtain ⟨i4, ei4⟩ := is_v hg4
  obtain rfl : w4 = (.int i4) := Option.some.inj ei4
  have nz := not_v (Cond.before_iff.mp (hsets _ (List.mem_of_getElem? (i := 2) rfl)))
  obtain ⟨zc, ezc⟩ := is_v (Cond.before_iff.mp (hsets _ (List.mem_of_getElem? (i := 1) rfl)))
  have Sc : Sta s s.heap "java/lang/String" "COMPACT_STRINGS" "Z" (.int zc) := Sta.start ezc (Or.inl (hsets _ (List.mem_of_getElem? (i := 0) rfl)))
  obtain ⟨fm, efm, rfm⟩ := isR_v (Cond.before_iff.mp (hsets _ (List.mem_of_getElem? (i := 8) rfl)))
  have Sf : Sta s s.heap "jdk/internal/util/Preconditions" "SIOOBE_FORMATTER" "Ljava/util/function/BiFunction;" fm := Sta.start efm (Or.inl (hsets _ (List.mem_of_getElem? (i := 7) rfl)))
  have hz : ¬ (zc = (0 : Int32)) := gotF (Cond.eq_ints ezc (Term.int_eval (0))) nz
  have G : Jdk s := ⟨⟨zc, Sc, hz⟩, fm, Sf, rfm⟩
  have wd : CHv s consts_1 s.vm s.heap := CHv.start (elw hw) (fun q hq => hcalls.1 q hq) (hsets _ (List.mem_of_getElem? (i := 2) rfl)) (hw _ (List.mem_of_getElem? (i := 3) rfl)) (hw _ (List.mem_of_getElem? (i := 2) rfl))
  obtain ⟨n, o, h1, h2, h3, _, L, rfl, ⟨rfl, N⟩, hq⟩ := rmLaw l s _ hw tables_1 i0 i1 i2 i3 i4 s.heap (ext_refl _) G p e ha hc hk s m _ below hf ((Spec.applies_iff_loose hf).mp happ).1 ⟨rfl, State.Warmed39.refl s, rfl, wd⟩ trivial
  refine ⟨n, _, h1, h2, h3, hpost _ _ _ _ _ _ ⟨Cond.after_iff.mpr rfl, Cond.after_iff.mpr (eq_i res_at (Term.int_eval (1)) rfl), trivial⟩ ⟨hq.2.1, hq.2.2.1, hq.2.2.2.1, (hq.2.2.2.2.sift fun y hy => Or.inr (N y hy)).mono (by decide) (by decide)⟩⟩
theorem main_1_1 : Claimed_1_1 := comes_1 fun _ _ _ _ _ _ h hF => ⟨h.1, hF⟩
theorem main_1_2 : Claimed_1_2 := comes_1 fun _ _ _ _ _ _ h hF => ⟨h.2.1, hF⟩
end Jvm.Pilot.@@N@@
namespace Jvm.Pilot.@@N@@
open Jvm Jvm.ClassFile Sem Op Lib Jvm.Free Jvm.Stand Jvm.Pilot.@@N@@.Jvm.D
/-! MADE BY PROGRAM (witnessworld.py) out of the Statement's table words and the real class files: 20 classes; the members and pool entries that the words name. The judged class is class 1, her method 1. -/
namespace start1
open Jvm.ClassFile
def u (s : String) : CpInfo := .utf8 (stringToUtf16 s)
/-- a pool by its gaps: so many unusable entries, then the entry; so many at the end -/
def gap : Nat → List CpInfo → List CpInfo
  | 0, r => r
  | n + 1, r => .unusable :: gap n r
def poolList (es : List (Nat × CpInfo)) (last : Nat) : List CpInfo := es.foldr (fun e r => gap e.1 (e.2 :: r)) (gap last [])
def pool (es : List (Nat × CpInfo)) (last : Nat) : Array CpInfo := ⟨poolList es last⟩
def fileOf (pool : Array CpInfo) (this : Nat) (attrs : Array Attribute := #[]) (ms : Array MethodInfo := #[]) (fl : Nat := 33) (sup : Nat := 0) (ifs : Array Nat := #[]) (fds : Array FieldInfo := #[]) : ClassFile where
  minorVersion := 0
  majorVersion := 65
  constantPool := pool
  accessFlags := fl
  thisClass := this
  superClass := sup
  interfaces := ifs
  fields := fds
  methods := ms
  attributes := attrs
def plain (name : String) (sup : Option ClassId) : Class where
  name := name
  kind := .ordinary
  loader := none
  accessFlags := 33
  super := sup
  interfaces := #[]
  cf := none
  fields := #[]
  methods := #[]
  instanceTypes := #[]
  staticTypes := #[]
  resolved := #[]
  callSites := []
  init := .initialized
  statics := none
  mirror := none

def pool0 : Array CpInfo := pool [(5, u "<init>"), (0, u "()V"), (1, .class_ 10), (1, u "java/lang/Object")] 113

def k0c0 : Code := { maxStack := 0, maxLocals := 1, code := object_method_1_code, exceptionTable := #[], attributes := #[] }
def k0m0 : Method := { name := "<init>", desc := "()V", sig := { parameters := [], returnType := none }, accessFlags := 1, code := some k0c0 }
/-- java/lang/Object -/
def k0 : Class := { plain "java/lang/Object" none with
  accessFlags := 33
  interfaces := #[]
  cf := some (fileOf pool0 8 #[] #[{ accessFlags := 1, nameIndex := 5, descriptorIndex := 6, attributes := #[] }] 33 0 #[] #[])
  fields := #[]
  methods := #[k0m0]
  instanceTypes := #[]
  staticTypes := #[]
  resolved := Array.replicate 124 none
  statics := none }

def pool1 : Array CpInfo := pool [(2, .class_ 4), (1, u "java/lang/Object"), (0, u "<init>"), (0, u "()V"), (0, .string 8), (0, u "--content"), (0, .string 10), (0, u "--sites"), (0, .integer 2147483647), (0, .methodref 13 14), (0, .class_ 15), (0, .nameAndType 16 17), (0, u "com/example/waypost/waypost/cli/ContentOptionsIsContentOptionPinLaw"), (0, u "fill"), (0, u "([CLjava/lang/String;ICC)V"), (0, .class_ 19), (0, u "java/lang/String"), (0, .methodref 18 21), (0, .nameAndType 5 22), (0, u "([C)V"), (0, .methodref 18 24), (0, .nameAndType 25 26), (0, u "length"), (0, u "()I"), (0, .methodref 18 28), (0, .nameAndType 29 30), (0, u "charAt"), (0, u "(I)C"), (0, .methodref 32 33), (0, .class_ 34), (0, .nameAndType 35 36), (0, u "com/example/waypost/waypost/cli/ContentOptions"), (0, u "isContentOption"), (0, u "(Ljava/lang/String;)Z"), (0, .methodref 13 38), (0, .nameAndType 39 40), (0, u "at"), (0, u "(Ljava/lang/String;IICC)C"), (2, u "law"), (0, u "(IIIII)Z")] 5

def k1m0 : Method := { name := "<init>", desc := "()V", sig := { parameters := [], returnType := none }, accessFlags := 1, code := none }
def k1c1 : Code := { maxStack := 5, maxLocals := 20, code := code, exceptionTable := #[], attributes := #[] }
def k1m1 : Method := { name := "law", desc := "(IIIII)Z", sig := { parameters := [.int, .int, .int, .int, .int], returnType := some .boolean }, accessFlags := 9, code := some k1c1 }
def k1c2 : Code := { maxStack := 2, maxLocals := 5, code := method_3_code, exceptionTable := #[], attributes := #[] }
def k1m2 : Method := { name := "at", desc := "(Ljava/lang/String;IICC)C", sig := { parameters := [(.object "java/lang/String"), .int, .int, .char, .char], returnType := some .char }, accessFlags := 10, code := some k1c2 }
def k1c3 : Code := { maxStack := 7, maxLocals := 5, code := method_4_code, exceptionTable := #[], attributes := #[] }
def k1m3 : Method := { name := "fill", desc := "([CLjava/lang/String;ICC)V", sig := { parameters := [(.array .char), (.object "java/lang/String"), .int, .char, .char], returnType := none }, accessFlags := 10, code := some k1c3 }
/-- com/example/waypost/waypost/cli/ContentOptionsIsContentOptionPinLaw -/
def k1 : Class := { plain "com/example/waypost/waypost/cli/ContentOptionsIsContentOptionPinLaw" (some 0) with
  accessFlags := 49
  interfaces := #[]
  cf := some (fileOf pool1 13 #[] #[{ accessFlags := 1, nameIndex := 5, descriptorIndex := 6, attributes := #[] }, { accessFlags := 9, nameIndex := 43, descriptorIndex := 44, attributes := #[] }, { accessFlags := 10, nameIndex := 39, descriptorIndex := 40, attributes := #[] }, { accessFlags := 10, nameIndex := 16, descriptorIndex := 17, attributes := #[] }] 49 2 #[] #[])
  fields := #[]
  methods := #[k1m0, k1m1, k1m2, k1m3]
  instanceTypes := #[]
  staticTypes := #[]
  resolved := Array.replicate 50 none
  statics := none }

def pool2 : Array CpInfo := pool [(1, .class_ 2), (0, u "java/io/Serializable"), (0, .class_ 4), (0, u "java/lang/Object")] 2

/-- java/io/Serializable -/
def k2 : Class := { plain "java/io/Serializable" (some 0) with
  accessFlags := 1537
  interfaces := #[]
  cf := some (fileOf pool2 1 #[] #[] 1537 3 #[] #[])
  fields := #[]
  methods := #[]
  instanceTypes := #[]
  staticTypes := #[]
  resolved := Array.replicate 7 none
  statics := none }

def pool3 : Array CpInfo := pool [(1, .class_ 2), (0, u "java/lang/Comparable"), (0, .class_ 4), (0, u "java/lang/Object")] 7

/-- java/lang/Comparable -/
def k3 : Class := { plain "java/lang/Comparable" (some 0) with
  accessFlags := 1537
  interfaces := #[]
  cf := some (fileOf pool3 1 #[] #[] 1537 3 #[] #[])
  fields := #[]
  methods := #[]
  instanceTypes := #[]
  staticTypes := #[]
  resolved := Array.replicate 12 none
  statics := none }

def pool4 : Array CpInfo := pool [(2, .class_ 4), (1, u "java/lang/CharSequence"), (42, .class_ 48), (0, u "java/lang/CharSequence$1CodePointIterator"), (10, .class_ 60), (0, u "java/lang/CharSequence$1CharIterator"), (5, .class_ 67), (0, u "java/lang/Object")] 63

/-- java/lang/CharSequence -/
def k4 : Class := { plain "java/lang/CharSequence" (some 0) with
  accessFlags := 1537
  interfaces := #[]
  cf := some (fileOf pool4 2 #[.nestMembers #[47, 59]] #[] 1537 66 #[] #[])
  fields := #[]
  methods := #[]
  instanceTypes := #[]
  staticTypes := #[]
  resolved := Array.replicate 131 none
  statics := none }

def pool5 : Array CpInfo := pool [(1, .class_ 2), (0, u "java/lang/constant/Constable"), (0, .class_ 4), (0, u "java/lang/Object")] 6

/-- java/lang/constant/Constable -/
def k5 : Class := { plain "java/lang/constant/Constable" (some 0) with
  accessFlags := 1537
  interfaces := #[]
  cf := some (fileOf pool5 1 #[] #[] 1537 3 #[] #[])
  fields := #[]
  methods := #[]
  instanceTypes := #[]
  staticTypes := #[]
  resolved := Array.replicate 11 none
  statics := none }

def pool6 : Array CpInfo := pool [(1, .class_ 2), (0, u "java/lang/constant/ConstantDesc"), (0, .class_ 4), (0, u "java/lang/Object")] 32

/-- java/lang/constant/ConstantDesc -/
def k6 : Class := { plain "java/lang/constant/ConstantDesc" (some 0) with
  accessFlags := 1537
  interfaces := #[]
  cf := some (fileOf pool6 1 #[] #[] 1537 3 #[] #[])
  fields := #[]
  methods := #[]
  instanceTypes := #[]
  staticTypes := #[]
  resolved := Array.replicate 37 none
  statics := none }

def pool7 : Array CpInfo := pool [(1, .methodref 2 3), (0, .class_ 4), (0, .nameAndType 5 6), (0, u "java/lang/Object"), (0, u "<init>"), (0, u "()V"), (0, .string 8), (0, u ""), (0, .fieldref 10 11), (0, .class_ 12), (0, .nameAndType 13 14), (0, u "java/lang/String"), (0, u "value"), (0, u "[B"), (0, .fieldref 10 16), (0, .nameAndType 17 18), (0, u "coder"), (0, u "B"), (2, u "hash"), (0, u "I"), (2, u "hashIsZero"), (0, u "Z"), (0, .methodref 10 28), (0, .nameAndType 5 29), (0, u "([CIILjava/lang/Void;)V"), (8, .fieldref 10 39), (0, .nameAndType 40 26), (0, u "COMPACT_STRINGS"), (1, .class_ 44), (1, u "java/lang/StringUTF16"), (0, u "compress"), (1, .methodref 42 48), (0, .nameAndType 49 50), (0, u "coderFromArrayLen"), (0, u "([BI)B"), (56, .class_ 109), (1, u "java/lang/StringLatin1"), (32, u "()Z"), (34, .methodref 42 178), (0, .nameAndType 45 179), (0, u "([CII)[B"), (154, u "()I"), (0, .methodref 10 336), (0, .nameAndType 17 337), (0, u "()B"), (25, u "([BI)C"), (27, u "(II)V"), (35, u "(I)C"), (64, .methodref 10 493), (0, .nameAndType 494 142), (0, u "isLatin1"), (0, .methodref 107 496), (0, .nameAndType 497 363), (0, u "charAt"), (3, u "checkIndex"), (5, u "length"), (33, .methodref 107 542), (0, .nameAndType 543 544), (0, u "equals"), (0, u "([B[B)Z"), (28, u "(Ljava/lang/Object;)Z"), (1, .class_ 576), (0, u "java/lang/CharSequence"), (22, u "CASE_INSENSITIVE_ORDER"), (0, u "Ljava/util/Comparator;"), (409, u "([C)V"), (42, .fieldref 1054 1055), (0, .class_ 1056), (0, .nameAndType 1057 1058), (0, u "jdk/internal/util/Preconditions"), (0, u "SIOOBE_FORMATTER"), (0, u "Ljava/util/function/BiFunction;"), (0, .methodref 1054 1060), (0, .nameAndType 501 1061), (0, u "(IILjava/util/function/BiFunction;)I"), (39, u "serialPersistentFields"), (0, u "[Ljava/io/ObjectStreamField;"), (0, .class_ 1104), (0, u "java/lang/String$CaseInsensitiveComparator"), (1, .class_ 1107), (0, u "java/io/Serializable"), (0, .class_ 1109), (0, u "java/lang/Comparable"), (0, .class_ 1111), (0, u "java/lang/constant/Constable"), (0, .class_ 1113), (0, u "java/lang/constant/ConstantDesc"), (2, u "serialVersionUID"), (0, u "J"), (3, u "REPL"), (0, u "C"), (2, u "LATIN1"), (1, u "UTF16")] 323

def k7m0 : Method := { name := "<init>", desc := "()V", sig := { parameters := [], returnType := none }, accessFlags := 1, code := none }
def k7c1 : Code := { maxStack := 5, maxLocals := 2, code := jdk_42_method_3_code, exceptionTable := #[], attributes := #[] }
def k7m1 : Method := { name := "<init>", desc := "([C)V", sig := { parameters := [(.array .char)], returnType := none }, accessFlags := 1, code := some k7c1 }
def k7c2 : Code := { maxStack := 2, maxLocals := 1, code := jdk_42_method_54_code, exceptionTable := #[], attributes := #[] }
def k7m2 : Method := { name := "length", desc := "()I", sig := { parameters := [], returnType := some .int }, accessFlags := 1, code := some k7c2 }
def k7c3 : Code := { maxStack := 2, maxLocals := 2, code := jdk_42_method_56_code, exceptionTable := #[], attributes := #[] }
def k7m3 : Method := { name := "charAt", desc := "(I)C", sig := { parameters := [.int], returnType := some .char }, accessFlags := 1, code := some k7c3 }
def k7c4 : Code := { maxStack := 2, maxLocals := 3, code := jdk_42_method_66_code, exceptionTable := #[], attributes := #[] }
def k7m4 : Method := { name := "equals", desc := "(Ljava/lang/Object;)Z", sig := { parameters := [(.object "java/lang/Object")], returnType := some .boolean }, accessFlags := 1, code := some k7c4 }
def k7c5 : Code := { maxStack := 4, maxLocals := 6, code := jdk_42_method_149_code, exceptionTable := #[], attributes := #[] }
def k7m5 : Method := { name := "<init>", desc := "([CIILjava/lang/Void;)V", sig := { parameters := [(.array .char), .int, .int, (.object "java/lang/Void")], returnType := none }, accessFlags := 2, code := some k7c5 }
def k7c6 : Code := { maxStack := 1, maxLocals := 1, code := jdk_42_method_152_code, exceptionTable := #[], attributes := #[] }
def k7m6 : Method := { name := "coder", desc := "()B", sig := { parameters := [], returnType := some .byte }, accessFlags := 0, code := some k7c6 }
def k7c7 : Code := { maxStack := 1, maxLocals := 1, code := jdk_42_method_154_code, exceptionTable := #[], attributes := #[] }
def k7m7 : Method := { name := "isLatin1", desc := "()Z", sig := { parameters := [], returnType := some .boolean }, accessFlags := 0, code := some k7c7 }
def k7c8 : Code := { maxStack := 3, maxLocals := 2, code := jdk_42_method_155_code, exceptionTable := #[], attributes := #[] }
def k7m8 : Method := { name := "checkIndex", desc := "(II)V", sig := { parameters := [.int, .int], returnType := none }, accessFlags := 8, code := some k7c8 }
/-- java/lang/String -/
def k7 : Class := { plain "java/lang/String" (some 0) with
  accessFlags := 49
  interfaces := #[2, 3, 4, 5, 6]
  cf := some (fileOf pool7 10 #[.nestMembers #[1103]] #[{ accessFlags := 1, nameIndex := 5, descriptorIndex := 6, attributes := #[] }, { accessFlags := 1, nameIndex := 5, descriptorIndex := 1010, attributes := #[] }, { accessFlags := 1, nameIndex := 507, descriptorIndex := 334, attributes := #[] }, { accessFlags := 1, nameIndex := 497, descriptorIndex := 427, attributes := #[] }, { accessFlags := 1, nameIndex := 543, descriptorIndex := 573, attributes := #[] }, { accessFlags := 2, nameIndex := 5, descriptorIndex := 29, attributes := #[] }, { accessFlags := 0, nameIndex := 17, descriptorIndex := 337, attributes := #[] }, { accessFlags := 0, nameIndex := 494, descriptorIndex := 142, attributes := #[] }, { accessFlags := 8, nameIndex := 501, descriptorIndex := 391, attributes := #[] }] 49 2 #[1106, 1108, 575, 1110, 1112] #[{ accessFlags := 18, nameIndex := 13, descriptorIndex := 14, attributes := #[] }, { accessFlags := 18, nameIndex := 17, descriptorIndex := 18, attributes := #[] }, { accessFlags := 2, nameIndex := 21, descriptorIndex := 22, attributes := #[] }, { accessFlags := 2, nameIndex := 25, descriptorIndex := 26, attributes := #[] }, { accessFlags := 26, nameIndex := 1116, descriptorIndex := 1117, attributes := #[] }, { accessFlags := 24, nameIndex := 40, descriptorIndex := 26, attributes := #[] }, { accessFlags := 26, nameIndex := 1101, descriptorIndex := 1102, attributes := #[] }, { accessFlags := 26, nameIndex := 1121, descriptorIndex := 1122, attributes := #[] }, { accessFlags := 25, nameIndex := 599, descriptorIndex := 600, attributes := #[] }, { accessFlags := 24, nameIndex := 1125, descriptorIndex := 18, attributes := #[] }, { accessFlags := 24, nameIndex := 1127, descriptorIndex := 18, attributes := #[] }])
  fields := #[{ name := "value", type := (.array .byte), accessFlags := 18, slot := 0, constantValue := 0 }, { name := "coder", type := .byte, accessFlags := 18, slot := 1, constantValue := 0 }, { name := "hash", type := .int, accessFlags := 2, slot := 2, constantValue := 0 }, { name := "hashIsZero", type := .boolean, accessFlags := 2, slot := 3, constantValue := 0 }, { name := "serialVersionUID", type := .long, accessFlags := 26, slot := 0, constantValue := 0 }, { name := "COMPACT_STRINGS", type := .boolean, accessFlags := 24, slot := 1, constantValue := 0 }, { name := "serialPersistentFields", type := (.array (.object "java/io/ObjectStreamField")), accessFlags := 26, slot := 2, constantValue := 0 }, { name := "REPL", type := .char, accessFlags := 26, slot := 3, constantValue := 0 }, { name := "CASE_INSENSITIVE_ORDER", type := (.object "java/util/Comparator"), accessFlags := 25, slot := 4, constantValue := 0 }, { name := "LATIN1", type := .byte, accessFlags := 24, slot := 5, constantValue := 0 }, { name := "UTF16", type := .byte, accessFlags := 24, slot := 6, constantValue := 0 }]
  methods := #[k7m0, k7m1, k7m2, k7m3, k7m4, k7m5, k7m6, k7m7, k7m8]
  instanceTypes := #[(.array .byte), .byte, .int, .boolean]
  staticTypes := #[.long, .boolean, (.array (.object "java/io/ObjectStreamField")), .char, (.object "java/util/Comparator"), .byte, .byte]
  resolved := Array.replicate 1451 none
  statics := some 0 }

def pool8 : Array CpInfo := pool [(1, .class_ 2), (0, u "java/lang/String"), (1, .class_ 6), (1, u "java/lang/Object"), (0, u "<init>"), (0, u "()V"), (0, .methodref 1 10), (0, .nameAndType 11 12), (0, u "checkIndex"), (0, u "(II)V"), (1, .class_ 16), (1, u "java/lang/StringLatin1"), (36, u "([BI)C"), (67, u "$assertionsDisabled"), (0, u "Z"), (98, .class_ 223), (1, u "java/lang/StringLatin1$LinesSpliterator"), (28, u "charAt"), (28, u "equals"), (0, u "([B[B)Z"), (107, .class_ 391), (0, u "java/lang/StringLatin1$CharsSpliterator")] 3

def k8m0 : Method := { name := "<init>", desc := "()V", sig := { parameters := [], returnType := none }, accessFlags := 0, code := none }
def k8c1 : Code := { maxStack := 2, maxLocals := 2, code := jdk_43_method_2_code, exceptionTable := #[], attributes := #[] }
def k8m1 : Method := { name := "charAt", desc := "([BI)C", sig := { parameters := [(.array .byte), .int], returnType := some .char }, accessFlags := 9, code := some k8c1 }
def k8c2 : Code := { maxStack := 3, maxLocals := 3, code := jdk_43_method_13_code, exceptionTable := #[], attributes := #[] }
def k8m2 : Method := { name := "equals", desc := "([B[B)Z", sig := { parameters := [(.array .byte), (.array .byte)], returnType := some .boolean }, accessFlags := 9, code := some k8c2 }
/-- java/lang/StringLatin1 -/
def k8 : Class := { plain "java/lang/StringLatin1" (some 0) with
  accessFlags := 48
  interfaces := #[]
  cf := some (fileOf pool8 14 #[.nestMembers #[390, 221]] #[{ accessFlags := 0, nameIndex := 7, descriptorIndex := 8, attributes := #[] }, { accessFlags := 9, nameIndex := 252, descriptorIndex := 53, attributes := #[] }, { accessFlags := 9, nameIndex := 281, descriptorIndex := 282, attributes := #[] }] 48 4 #[] #[{ accessFlags := 4120, nameIndex := 121, descriptorIndex := 122, attributes := #[] }])
  fields := #[{ name := "$assertionsDisabled", type := .boolean, accessFlags := 4120, slot := 0, constantValue := 0 }]
  methods := #[k8m0, k8m1, k8m2]
  instanceTypes := #[]
  staticTypes := #[.boolean]
  resolved := Array.replicate 395 none
  statics := none }

def pool9 : Array CpInfo := pool [(2, .class_ 4), (1, u "java/lang/Object"), (0, u "<init>"), (0, u "()V"), (17, .class_ 26), (1, u "jdk/internal/util/Preconditions"), (6, u "checkIndex"), (21, .class_ 56), (0, u "jdk/internal/util/Preconditions$4"), (57, .class_ 115), (0, u "jdk/internal/util/Preconditions$1"), (7, u "SIOOBE_FORMATTER"), (0, u "Ljava/util/function/BiFunction;"), (0, .class_ 126), (0, u "jdk/internal/util/Preconditions$2"), (3, u "AIOOBE_FORMATTER"), (0, .class_ 132), (0, u "jdk/internal/util/Preconditions$3"), (3, u "IOOBE_FORMATTER"), (41, u "(IILjava/util/function/BiFunction;)I")] 15

def k9m0 : Method := { name := "<init>", desc := "()V", sig := { parameters := [], returnType := none }, accessFlags := 1, code := none }
def k9c1 : Code := { maxStack := 3, maxLocals := 3, code := jdk_41_method_11_code, exceptionTable := #[], attributes := #[] }
def k9m1 : Method := { name := "checkIndex", desc := "(IILjava/util/function/BiFunction;)I", sig := { parameters := [.int, .int, (.object "java/util/function/BiFunction")], returnType := some .int }, accessFlags := 9, code := some k9c1 }
/-- jdk/internal/util/Preconditions -/
def k9 : Class := { plain "jdk/internal/util/Preconditions" (some 0) with
  accessFlags := 33
  interfaces := #[]
  cf := some (fileOf pool9 24 #[.nestMembers #[55, 131, 125, 114]] #[{ accessFlags := 1, nameIndex := 5, descriptorIndex := 6, attributes := #[] }, { accessFlags := 9, nameIndex := 33, descriptorIndex := 178, attributes := #[] }] 33 2 #[] #[{ accessFlags := 25, nameIndex := 123, descriptorIndex := 124, attributes := #[] }, { accessFlags := 25, nameIndex := 130, descriptorIndex := 124, attributes := #[] }, { accessFlags := 25, nameIndex := 136, descriptorIndex := 124, attributes := #[] }])
  fields := #[{ name := "SIOOBE_FORMATTER", type := (.object "java/util/function/BiFunction"), accessFlags := 25, slot := 0, constantValue := 0 }, { name := "AIOOBE_FORMATTER", type := (.object "java/util/function/BiFunction"), accessFlags := 25, slot := 1, constantValue := 0 }, { name := "IOOBE_FORMATTER", type := (.object "java/util/function/BiFunction"), accessFlags := 25, slot := 2, constantValue := 0 }]
  methods := #[k9m0, k9m1]
  instanceTypes := #[]
  staticTypes := #[(.object "java/util/function/BiFunction"), (.object "java/util/function/BiFunction"), (.object "java/util/function/BiFunction")]
  resolved := Array.replicate 194 none
  statics := some 1 }

def pool10 : Array CpInfo := pool [(6, .class_ 8), (1, u "java/lang/Object"), (0, u "<init>"), (0, u "()V"), (1, .class_ 14), (1, u "java/lang/StringUTF16"), (31, u "$assertionsDisabled"), (0, u "Z"), (13, u "HI_BYTE_SHIFT"), (0, u "I"), (2, u "LO_BYTE_SHIFT"), (49, .methodref 12 116), (0, .nameAndType 117 118), (0, u "compress"), (0, u "([CI[BII)I"), (3, u "([CII)[B"), (138, u "coderFromArrayLen"), (0, u "([BI)B"), (106, .class_ 371), (1, u "java/lang/StringUTF16$LinesSpliterator"), (58, u "MAX_LENGTH"), (196, .class_ 628), (0, u "java/lang/StringUTF16$CodePointsSpliterator"), (0, .class_ 630), (0, u "java/lang/StringUTF16$CharsSpliterator")] 4

def k10m0 : Method := { name := "<init>", desc := "()V", sig := { parameters := [], returnType := none }, accessFlags := 0, code := none }
def k10c1 : Code := { maxStack := 2, maxLocals := 2, code := jdk_52_method_15_code, exceptionTable := #[], attributes := #[] }
def k10m1 : Method := { name := "coderFromArrayLen", desc := "([BI)B", sig := { parameters := [(.array .byte), .int], returnType := some .byte }, accessFlags := 8, code := some k10c1 }
def k10c2 : Code := { maxStack := 5, maxLocals := 6, code := jdk_52_method_16_code, exceptionTable := #[], attributes := #[] }
def k10m2 : Method := { name := "compress", desc := "([CII)[B", sig := { parameters := [(.array .char), .int, .int], returnType := some (.array .byte) }, accessFlags := 9, code := some k10c2 }
def k10c3 : Code := { maxStack := 3, maxLocals := 7, code := jdk_52_method_21_code, exceptionTable := #[], attributes := #[] }
def k10m3 : Method := { name := "compress", desc := "([CI[BII)I", sig := { parameters := [(.array .char), .int, (.array .byte), .int, .int], returnType := some .int }, accessFlags := 9, code := some k10c3 }
/-- java/lang/StringUTF16 -/
def k10 : Class := { plain "java/lang/StringUTF16" (some 0) with
  accessFlags := 48
  interfaces := #[]
  cf := some (fileOf pool10 12 #[.nestMembers #[627, 629, 369]] #[{ accessFlags := 0, nameIndex := 9, descriptorIndex := 10, attributes := #[] }, { accessFlags := 8, nameIndex := 261, descriptorIndex := 262, attributes := #[] }, { accessFlags := 9, nameIndex := 117, descriptorIndex := 122, attributes := #[] }, { accessFlags := 9, nameIndex := 117, descriptorIndex := 118, attributes := #[] }] 48 6 #[] #[{ accessFlags := 26, nameIndex := 61, descriptorIndex := 62, attributes := #[] }, { accessFlags := 26, nameIndex := 65, descriptorIndex := 62, attributes := #[] }, { accessFlags := 24, nameIndex := 430, descriptorIndex := 62, attributes := #[] }, { accessFlags := 4120, nameIndex := 46, descriptorIndex := 47, attributes := #[] }])
  fields := #[{ name := "HI_BYTE_SHIFT", type := .int, accessFlags := 26, slot := 0, constantValue := 0 }, { name := "LO_BYTE_SHIFT", type := .int, accessFlags := 26, slot := 1, constantValue := 0 }, { name := "MAX_LENGTH", type := .int, accessFlags := 24, slot := 2, constantValue := 0 }, { name := "$assertionsDisabled", type := .boolean, accessFlags := 4120, slot := 3, constantValue := 0 }]
  methods := #[k10m0, k10m1, k10m2, k10m3]
  instanceTypes := #[]
  staticTypes := #[.int, .int, .int, .boolean]
  resolved := Array.replicate 635 none
  statics := none }

def pool11 : Array CpInfo := pool [(1, .class_ 2), (0, u "com/example/waypost/waypost/cli/ContentOptions"), (1, .class_ 6), (1, u "java/lang/Object"), (0, u "<init>"), (0, u "()V"), (5, u "contents"), (0, u "Ljava/util/List;"), (2, u "sites"), (0, .string 20), (0, u "--content"), (0, .methodref 22 23), (0, .class_ 24), (0, .nameAndType 25 26), (0, u "java/lang/String"), (0, u "equals"), (0, u "(Ljava/lang/Object;)Z"), (0, .string 28), (0, u "--sites"), (132, u "CONTENT"), (0, u "Ljava/lang/String;"), (1, u "SITES"), (0, u "FORMS"), (2, u "USAGE"), (6, u "isContentOption"), (0, u "(Ljava/lang/String;)Z")] 38

def k11m0 : Method := { name := "<init>", desc := "()V", sig := { parameters := [], returnType := none }, accessFlags := 0, code := none }
def k11c1 : Code := { maxStack := 2, maxLocals := 1, code := prog_7_method_2_code, exceptionTable := #[], attributes := #[] }
def k11m1 : Method := { name := "isContentOption", desc := "(Ljava/lang/String;)Z", sig := { parameters := [(.object "java/lang/String")], returnType := some .boolean }, accessFlags := 8, code := some k11c1 }
/-- com/example/waypost/waypost/cli/ContentOptions -/
def k11 : Class := { plain "com/example/waypost/waypost/cli/ContentOptions" (some 0) with
  accessFlags := 48
  interfaces := #[]
  cf := some (fileOf pool11 1 #[] #[{ accessFlags := 0, nameIndex := 7, descriptorIndex := 8, attributes := #[] }, { accessFlags := 8, nameIndex := 175, descriptorIndex := 176, attributes := #[] }] 48 4 #[] #[{ accessFlags := 24, nameIndex := 161, descriptorIndex := 162, attributes := #[] }, { accessFlags := 24, nameIndex := 164, descriptorIndex := 162, attributes := #[] }, { accessFlags := 26, nameIndex := 165, descriptorIndex := 162, attributes := #[] }, { accessFlags := 24, nameIndex := 168, descriptorIndex := 162, attributes := #[] }, { accessFlags := 18, nameIndex := 14, descriptorIndex := 15, attributes := #[] }, { accessFlags := 18, nameIndex := 18, descriptorIndex := 15, attributes := #[] }])
  fields := #[{ name := "CONTENT", type := (.object "java/lang/String"), accessFlags := 24, slot := 0, constantValue := 0 }, { name := "SITES", type := (.object "java/lang/String"), accessFlags := 24, slot := 1, constantValue := 0 }, { name := "FORMS", type := (.object "java/lang/String"), accessFlags := 26, slot := 2, constantValue := 0 }, { name := "USAGE", type := (.object "java/lang/String"), accessFlags := 24, slot := 3, constantValue := 0 }, { name := "contents", type := (.object "java/util/List"), accessFlags := 18, slot := 0, constantValue := 0 }, { name := "sites", type := (.object "java/util/List"), accessFlags := 18, slot := 1, constantValue := 0 }]
  methods := #[k11m0, k11m1]
  instanceTypes := #[(.object "java/util/List"), (.object "java/util/List")]
  staticTypes := #[(.object "java/lang/String"), (.object "java/lang/String"), (.object "java/lang/String"), (.object "java/lang/String")]
  resolved := Array.replicate 215 none
  statics := none }

def pool12 : Array CpInfo := pool [(9, u "<init>"), (6, .class_ 18), (1, u "java/lang/Object"), (0, u "()V"), (1, .class_ 23), (1, u "jdk/internal/util/ArraysSupport"), (0, u "LOG2_ARRAY_LONG_INDEX_SCALE"), (0, u "I"), (2, u "U"), (0, u "Ljdk/internal/misc/Unsafe;"), (8, u "BIG_ENDIAN"), (0, u "Z"), (8, u "LOG2_BYTE_BIT_SIZE"), (4, u "LOG2_ARRAY_INT_INDEX_SCALE"), (54, u "JLA"), (0, u "Ljdk/internal/access/JavaLangAccess;"), (11, u "LOG2_ARRAY_BOOLEAN_INDEX_SCALE"), (9, u "LOG2_ARRAY_BYTE_INDEX_SCALE"), (5, u "LOG2_ARRAY_CHAR_INDEX_SCALE"), (5, u "LOG2_ARRAY_SHORT_INDEX_SCALE"), (18, u "LOG2_ARRAY_FLOAT_INDEX_SCALE"), (24, u "LOG2_ARRAY_DOUBLE_INDEX_SCALE"), (89, u "T_BOOLEAN"), (2, u "T_CHAR"), (1, u "T_FLOAT"), (1, u "T_DOUBLE"), (1, u "T_BYTE"), (1, u "T_SHORT"), (1, u "T_INT"), (1, u "T_LONG"), (1, u "SOFT_MAX_ARRAY_LENGTH")] 83

def k12m0 : Method := { name := "<init>", desc := "()V", sig := { parameters := [], returnType := none }, accessFlags := 2, code := none }
/-- jdk/internal/util/ArraysSupport -/
def k12 : Class := { plain "jdk/internal/util/ArraysSupport" (some 0) with
  accessFlags := 33
  interfaces := #[]
  cf := some (fileOf pool12 21 #[] #[{ accessFlags := 2, nameIndex := 9, descriptorIndex := 19, attributes := #[] }] 33 16 #[] #[{ accessFlags := 24, nameIndex := 28, descriptorIndex := 29, attributes := #[] }, { accessFlags := 26, nameIndex := 38, descriptorIndex := 39, attributes := #[] }, { accessFlags := 25, nameIndex := 121, descriptorIndex := 25, attributes := #[] }, { accessFlags := 25, nameIndex := 131, descriptorIndex := 25, attributes := #[] }, { accessFlags := 25, nameIndex := 137, descriptorIndex := 25, attributes := #[] }, { accessFlags := 25, nameIndex := 143, descriptorIndex := 25, attributes := #[] }, { accessFlags := 25, nameIndex := 53, descriptorIndex := 25, attributes := #[] }, { accessFlags := 25, nameIndex := 24, descriptorIndex := 25, attributes := #[] }, { accessFlags := 25, nameIndex := 162, descriptorIndex := 25, attributes := #[] }, { accessFlags := 25, nameIndex := 187, descriptorIndex := 25, attributes := #[] }, { accessFlags := 26, nameIndex := 48, descriptorIndex := 25, attributes := #[] }, { accessFlags := 25, nameIndex := 277, descriptorIndex := 25, attributes := #[] }, { accessFlags := 25, nameIndex := 280, descriptorIndex := 25, attributes := #[] }, { accessFlags := 25, nameIndex := 282, descriptorIndex := 25, attributes := #[] }, { accessFlags := 25, nameIndex := 284, descriptorIndex := 25, attributes := #[] }, { accessFlags := 25, nameIndex := 286, descriptorIndex := 25, attributes := #[] }, { accessFlags := 25, nameIndex := 288, descriptorIndex := 25, attributes := #[] }, { accessFlags := 25, nameIndex := 290, descriptorIndex := 25, attributes := #[] }, { accessFlags := 25, nameIndex := 292, descriptorIndex := 25, attributes := #[] }, { accessFlags := 26, nameIndex := 108, descriptorIndex := 109, attributes := #[] }, { accessFlags := 25, nameIndex := 294, descriptorIndex := 25, attributes := #[] }])
  fields := #[{ name := "U", type := (.object "jdk/internal/misc/Unsafe"), accessFlags := 24, slot := 0, constantValue := 0 }, { name := "BIG_ENDIAN", type := .boolean, accessFlags := 26, slot := 1, constantValue := 0 }, { name := "LOG2_ARRAY_BOOLEAN_INDEX_SCALE", type := .int, accessFlags := 25, slot := 2, constantValue := 0 }, { name := "LOG2_ARRAY_BYTE_INDEX_SCALE", type := .int, accessFlags := 25, slot := 3, constantValue := 0 }, { name := "LOG2_ARRAY_CHAR_INDEX_SCALE", type := .int, accessFlags := 25, slot := 4, constantValue := 0 }, { name := "LOG2_ARRAY_SHORT_INDEX_SCALE", type := .int, accessFlags := 25, slot := 5, constantValue := 0 }, { name := "LOG2_ARRAY_INT_INDEX_SCALE", type := .int, accessFlags := 25, slot := 6, constantValue := 0 }, { name := "LOG2_ARRAY_LONG_INDEX_SCALE", type := .int, accessFlags := 25, slot := 7, constantValue := 0 }, { name := "LOG2_ARRAY_FLOAT_INDEX_SCALE", type := .int, accessFlags := 25, slot := 8, constantValue := 0 }, { name := "LOG2_ARRAY_DOUBLE_INDEX_SCALE", type := .int, accessFlags := 25, slot := 9, constantValue := 0 }, { name := "LOG2_BYTE_BIT_SIZE", type := .int, accessFlags := 26, slot := 10, constantValue := 0 }, { name := "T_BOOLEAN", type := .int, accessFlags := 25, slot := 11, constantValue := 0 }, { name := "T_CHAR", type := .int, accessFlags := 25, slot := 12, constantValue := 0 }, { name := "T_FLOAT", type := .int, accessFlags := 25, slot := 13, constantValue := 0 }, { name := "T_DOUBLE", type := .int, accessFlags := 25, slot := 14, constantValue := 0 }, { name := "T_BYTE", type := .int, accessFlags := 25, slot := 15, constantValue := 0 }, { name := "T_SHORT", type := .int, accessFlags := 25, slot := 16, constantValue := 0 }, { name := "T_INT", type := .int, accessFlags := 25, slot := 17, constantValue := 0 }, { name := "T_LONG", type := .int, accessFlags := 25, slot := 18, constantValue := 0 }, { name := "JLA", type := (.object "jdk/internal/access/JavaLangAccess"), accessFlags := 26, slot := 19, constantValue := 0 }, { name := "SOFT_MAX_ARRAY_LENGTH", type := .int, accessFlags := 25, slot := 20, constantValue := 0 }]
  methods := #[k12m0]
  instanceTypes := #[]
  staticTypes := #[(.object "jdk/internal/misc/Unsafe"), .boolean, .int, .int, .int, .int, .int, .int, .int, .int, .int, .int, .int, .int, .int, .int, .int, .int, .int, (.object "jdk/internal/access/JavaLangAccess"), .int]
  resolved := Array.replicate 378 none
  statics := none }

def pool13 : Array CpInfo := pool [(1, u "java/lang/Cloneable"), (0, .class_ 1), (0, u "java/lang/Object"), (0, .class_ 3)] 3

/-- java/lang/Cloneable -/
def k13 : Class := { plain "java/lang/Cloneable" (some 0) with
  accessFlags := 1537
  interfaces := #[]
  cf := some (fileOf pool13 2 #[] #[] 1537 4 #[] #[])
  fields := #[]
  methods := #[]
  instanceTypes := #[]
  staticTypes := #[]
  resolved := Array.replicate 8 none
  statics := none }

/-- the primitive byte -/
def k14 : Class := { plain "byte" none with kind := .primitive 'B', accessFlags := 0x411 }
/-- [B -/
def k15 : Class := { plain "[B" (some 0) with kind := .array 14 .byte, interfaces := #[13, 2], accessFlags := 1041 }

/-- the primitive char -/
def k16 : Class := { plain "char" none with kind := .primitive 'C', accessFlags := 0x411 }
/-- [C -/
def k17 : Class := { plain "[C" (some 0) with kind := .array 16 .char, interfaces := #[13, 2], accessFlags := 1041 }

/-- the primitive int -/
def k18 : Class := { plain "int" none with kind := .primitive 'I', accessFlags := 0x411 }
/-- [I -/
def k19 : Class := { plain "[I" (some 0) with kind := .array 18 .int, interfaces := #[13, 2], accessFlags := 1041 }

def heap : Heap := #[{ cls := 7, slots := #[.long 0, .int 1, .null, .int 0, .null, .int 0, .int 0], vm := .statics 7 },
  { cls := 9, slots := #[.null, .null, .null], vm := .statics 9 }]
def classes : Array Class := #[k0, k1, k2, k3, k4, k5, k6, k7, k8, k9, k10, k11, k12, k13, k14, k15, k16, k17, k18, k19]
def interned : List (Array UInt16 × Addr) := []
def slotsUsed : Nat := 10
def theMethod : MethodId := ⟨1, 1⟩
def args0 : Array Value := #[.int 1, .int 4, .int 3, .int 99, .int 7]
def aboutOver (below : List Frame) : State where
  vm := { classes := classes, interned := interned.toArray }
  heap := heap
  slotsUsed := slotsUsed
  threads := #[{ frames := .invoking theMethod args0 :: below }]
def below0 : List Frame := [.native { method := ⟨0, 0⟩, args := #[] }]
def about1 : State := aboutOver below0
def p0 : Program := .bare "" "" ""
def e0 : Env := launch0.env 0 0 0
theorem w_frames : about1.frames = Frame.invoking theMethod args0 :: below0 := rfl
set_option maxRecDepth 65536 in
theorem w_args : argsFit about1.vm theMethod args0 = true := by decide +kernel
set_option maxRecDepth 65536 in
theorem w_heap : heapFits about1 = true := by decide +kernel
set_option maxRecDepth 65536 in
theorem w_runnable : about1.curStatus? = some .runnable := by decide +kernel
set_option maxRecDepth 65536 in
theorem w_alone : about1.alone = true := by decide +kernel
set_option maxRecDepth 65536 in
theorem w_named : about1.methodNamed? x = some theMethod := by decide +kernel
set_option maxRecDepth 65536 in
theorem w_hears : about1.hears theMethod below0 = true := by decide +kernel
set_option maxRecDepth 65536 in
theorem w_ripe : about1.ripe theMethod args0 below0 = true := by decide +kernel
theorem w_running : about1.status = .running := rfl
set_option maxRecDepth 65536 in
theorem w_room : about1.hasRoom e0.platform room_1 = true :=
  launch0.hasRoom_least _ room_1 (by decide +kernel) (by decide +kernel) (by decide +kernel) (by decide +kernel) (by decide +kernel) (by decide +kernel)
theorem allAtoms_all (ts : List Jvm.Cond) (a : Array Jvm.Value) (st : Jvm.State) : (allAtoms ts).before a st = ts.all (fun c => c.before a st) := by
  induction ts with
  | nil => rfl
  | cons c t ih =>
    show (Jvm.Cond.and c (allAtoms t)).before a st = _
    rw [Jvm.Cond.before_and, ih, List.all_cons]
def words1 : List Jvm.Cond := Jvm.Cond.code x code maxLocals ret :: tables_1
/-- a 'code' word, met by the world's own term for the bytes: nothing is compared byte by byte -/
theorem code_word {y : MethodName} {bytes : ByteArray} {mx : Nat} {rt : Option FieldType} {a : Array Value} {s : State} {m : MethodId} {meth : Method} {c : Code} (h1 : s.methodNamed? y = some m) (h2 : s.vm.method? m = some meth) (h3 : meth.code = some c) (h4 : c.code = bytes)
    (h5 : (c.maxLocals == mx && c.exceptionTable.isEmpty && decide (c.maxStack ≤ mostOperands) && decide (meth.sig.returnType = rt) && !meth.locks && decide (parseMethodDescriptor y.desc = some meth.sig)) = true) : (Jvm.Cond.code y bytes mx rt).before a s = true := by
  simp only [Bool.and_eq_true, beq_iff_eq, Bool.not_eq_true', decide_eq_true_eq] at h5
  obtain ⟨⟨⟨⟨⟨g1, g2⟩, g3⟩, g4⟩, g5⟩, g6⟩ := h5
  simp [Cond.before, Cond.holds, Cond.value, h1, h2, h3, h4, g1, g2, g3, g4, g5, g6]
def isCode : Jvm.Cond → Bool
  | .code _ _ _ _ => true
  | _ => false
theorem all_split {L : List Jvm.Cond} {P : Jvm.Cond → Bool} (h1 : L.all (fun c => isCode c || P c) = true) (h2 : ∀ c ∈ L.filter isCode, P c = true) : L.all P = true := by
  refine List.all_eq_true.mpr fun c hc => ?_
  have h := List.all_eq_true.mp h1 c hc
  rcases Bool.eq_false_or_eq_true (isCode c) with hi | hi
  · exact h2 c (List.mem_filter.mpr ⟨hc, hi⟩)
  · simpa [hi] using h
set_option maxRecDepth 65536 in
theorem w_c0 : (Jvm.Cond.code x code maxLocals ret).before args0 about1 = true := code_word (m := ⟨1, 1⟩) (meth := k1m1) (c := k1c1) (by decide +kernel) rfl rfl rfl (by decide +kernel)
set_option maxRecDepth 65536 in
theorem w_c1 : (Jvm.Cond.code ({ cls := "com/example/waypost/waypost/cli/ContentOptionsIsContentOptionPinLaw", name := "fill", desc := "([CLjava/lang/String;ICC)V" } : Jvm.MethodName) method_4_code (5 : Nat) (Option.none : Option Jvm.ClassFile.FieldType)).before args0 about1 = true := code_word (m := ⟨1, 3⟩) (meth := k1m3) (c := k1c3) (by decide +kernel) rfl rfl rfl (by decide +kernel)
set_option maxRecDepth 65536 in
theorem w_c2 : (Jvm.Cond.code ({ cls := "com/example/waypost/waypost/cli/ContentOptionsIsContentOptionPinLaw", name := "at", desc := "(Ljava/lang/String;IICC)C" } : Jvm.MethodName) method_3_code (5 : Nat) (Option.some Jvm.ClassFile.FieldType.char)).before args0 about1 = true := code_word (m := ⟨1, 2⟩) (meth := k1m2) (c := k1c2) (by decide +kernel) rfl rfl rfl (by decide +kernel)
set_option maxRecDepth 65536 in
theorem w_c3 : (Jvm.Cond.code ({ cls := "java/lang/String", name := "length", desc := "()I" } : Jvm.MethodName) jdk_42_method_54_code (1 : Nat) (Option.some Jvm.ClassFile.FieldType.int)).before args0 about1 = true := code_word (m := ⟨7, 2⟩) (meth := k7m2) (c := k7c2) (by decide +kernel) rfl rfl rfl (by decide +kernel)
set_option maxRecDepth 65536 in
theorem w_c4 : (Jvm.Cond.code ({ cls := "java/lang/String", name := "coder", desc := "()B" } : Jvm.MethodName) jdk_42_method_152_code (1 : Nat) (Option.some Jvm.ClassFile.FieldType.byte)).before args0 about1 = true := code_word (m := ⟨7, 6⟩) (meth := k7m6) (c := k7c6) (by decide +kernel) rfl rfl rfl (by decide +kernel)
set_option maxRecDepth 65536 in
theorem w_c5 : (Jvm.Cond.code ({ cls := "java/lang/String", name := "charAt", desc := "(I)C" } : Jvm.MethodName) jdk_42_method_56_code (2 : Nat) (Option.some Jvm.ClassFile.FieldType.char)).before args0 about1 = true := code_word (m := ⟨7, 3⟩) (meth := k7m3) (c := k7c3) (by decide +kernel) rfl rfl rfl (by decide +kernel)
set_option maxRecDepth 65536 in
theorem w_c6 : (Jvm.Cond.code ({ cls := "java/lang/String", name := "isLatin1", desc := "()Z" } : Jvm.MethodName) jdk_42_method_154_code (1 : Nat) (Option.some Jvm.ClassFile.FieldType.boolean)).before args0 about1 = true := code_word (m := ⟨7, 7⟩) (meth := k7m7) (c := k7c7) (by decide +kernel) rfl rfl rfl (by decide +kernel)
set_option maxRecDepth 65536 in
theorem w_c7 : (Jvm.Cond.code ({ cls := "java/lang/StringLatin1", name := "charAt", desc := "([BI)C" } : Jvm.MethodName) jdk_43_method_2_code (2 : Nat) (Option.some Jvm.ClassFile.FieldType.char)).before args0 about1 = true := code_word (m := ⟨8, 1⟩) (meth := k8m1) (c := k8c1) (by decide +kernel) rfl rfl rfl (by decide +kernel)
set_option maxRecDepth 65536 in
theorem w_c8 : (Jvm.Cond.code ({ cls := "java/lang/String", name := "checkIndex", desc := "(II)V" } : Jvm.MethodName) jdk_42_method_155_code (2 : Nat) (Option.none : Option Jvm.ClassFile.FieldType)).before args0 about1 = true := code_word (m := ⟨7, 8⟩) (meth := k7m8) (c := k7c8) (by decide +kernel) rfl rfl rfl (by decide +kernel)
set_option maxRecDepth 65536 in
theorem w_c9 : (Jvm.Cond.code ({ cls := "jdk/internal/util/Preconditions", name := "checkIndex", desc := "(IILjava/util/function/BiFunction;)I" } : Jvm.MethodName) jdk_41_method_11_code (3 : Nat) (Option.some Jvm.ClassFile.FieldType.int)).before args0 about1 = true := code_word (m := ⟨9, 1⟩) (meth := k9m1) (c := k9c1) (by decide +kernel) rfl rfl rfl (by decide +kernel)
set_option maxRecDepth 65536 in
theorem w_c10 : (Jvm.Cond.code ({ cls := "java/lang/String", name := "<init>", desc := "([C)V" } : Jvm.MethodName) jdk_42_method_3_code (2 : Nat) (Option.none : Option Jvm.ClassFile.FieldType)).before args0 about1 = true := code_word (m := ⟨7, 1⟩) (meth := k7m1) (c := k7c1) (by decide +kernel) rfl rfl rfl (by decide +kernel)
set_option maxRecDepth 65536 in
theorem w_c11 : (Jvm.Cond.code ({ cls := "java/lang/String", name := "<init>", desc := "([CIILjava/lang/Void;)V" } : Jvm.MethodName) jdk_42_method_149_code (6 : Nat) (Option.none : Option Jvm.ClassFile.FieldType)).before args0 about1 = true := code_word (m := ⟨7, 5⟩) (meth := k7m5) (c := k7c5) (by decide +kernel) rfl rfl rfl (by decide +kernel)
set_option maxRecDepth 65536 in
theorem w_c12 : (Jvm.Cond.code ({ cls := "java/lang/Object", name := "<init>", desc := "()V" } : Jvm.MethodName) object_method_1_code (1 : Nat) (Option.none : Option Jvm.ClassFile.FieldType)).before args0 about1 = true := code_word (m := ⟨0, 0⟩) (meth := k0m0) (c := k0c0) (by decide +kernel) rfl rfl rfl (by decide +kernel)
set_option maxRecDepth 65536 in
theorem w_c13 : (Jvm.Cond.code ({ cls := "java/lang/StringUTF16", name := "compress", desc := "([CII)[B" } : Jvm.MethodName) jdk_52_method_16_code (6 : Nat) (Option.some (Jvm.ClassFile.FieldType.array Jvm.ClassFile.FieldType.byte))).before args0 about1 = true := code_word (m := ⟨10, 2⟩) (meth := k10m2) (c := k10c2) (by decide +kernel) rfl rfl rfl (by decide +kernel)
set_option maxRecDepth 65536 in
theorem w_c14 : (Jvm.Cond.code ({ cls := "java/lang/StringUTF16", name := "compress", desc := "([CI[BII)I" } : Jvm.MethodName) jdk_52_method_21_code (7 : Nat) (Option.some Jvm.ClassFile.FieldType.int)).before args0 about1 = true := code_word (m := ⟨10, 3⟩) (meth := k10m3) (c := k10c3) (by decide +kernel) rfl rfl rfl (by decide +kernel)
set_option maxRecDepth 65536 in
theorem w_c15 : (Jvm.Cond.code ({ cls := "java/lang/StringUTF16", name := "coderFromArrayLen", desc := "([BI)B" } : Jvm.MethodName) jdk_52_method_15_code (2 : Nat) (Option.some Jvm.ClassFile.FieldType.byte)).before args0 about1 = true := code_word (m := ⟨10, 1⟩) (meth := k10m1) (c := k10c1) (by decide +kernel) rfl rfl rfl (by decide +kernel)
set_option maxRecDepth 65536 in
theorem w_c16 : (Jvm.Cond.code ({ cls := "com/example/waypost/waypost/cli/ContentOptions", name := "isContentOption", desc := "(Ljava/lang/String;)Z" } : Jvm.MethodName) prog_7_method_2_code (1 : Nat) (Option.some Jvm.ClassFile.FieldType.boolean)).before args0 about1 = true := code_word (m := ⟨11, 1⟩) (meth := k11m1) (c := k11c1) (by decide +kernel) rfl rfl rfl (by decide +kernel)
set_option maxRecDepth 65536 in
theorem w_c17 : (Jvm.Cond.code ({ cls := "java/lang/String", name := "equals", desc := "(Ljava/lang/Object;)Z" } : Jvm.MethodName) jdk_42_method_66_code (3 : Nat) (Option.some Jvm.ClassFile.FieldType.boolean)).before args0 about1 = true := code_word (m := ⟨7, 4⟩) (meth := k7m4) (c := k7c4) (by decide +kernel) rfl rfl rfl (by decide +kernel)
set_option maxRecDepth 65536 in
theorem w_c18 : (Jvm.Cond.code ({ cls := "java/lang/StringLatin1", name := "equals", desc := "([B[B)Z" } : Jvm.MethodName) jdk_43_method_13_code (3 : Nat) (Option.some Jvm.ClassFile.FieldType.boolean)).before args0 about1 = true := code_word (m := ⟨8, 2⟩) (meth := k8m2) (c := k8c2) (by decide +kernel) rfl rfl rfl (by decide +kernel)
def codes1 : List Jvm.Cond := [Jvm.Cond.code x code maxLocals ret, Jvm.Cond.code ({ cls := "com/example/waypost/waypost/cli/ContentOptionsIsContentOptionPinLaw", name := "fill", desc := "([CLjava/lang/String;ICC)V" } : Jvm.MethodName) method_4_code (5 : Nat) (Option.none : Option Jvm.ClassFile.FieldType), Jvm.Cond.code ({ cls := "com/example/waypost/waypost/cli/ContentOptionsIsContentOptionPinLaw", name := "at", desc := "(Ljava/lang/String;IICC)C" } : Jvm.MethodName) method_3_code (5 : Nat) (Option.some Jvm.ClassFile.FieldType.char), Jvm.Cond.code ({ cls := "java/lang/String", name := "length", desc := "()I" } : Jvm.MethodName) jdk_42_method_54_code (1 : Nat) (Option.some Jvm.ClassFile.FieldType.int), Jvm.Cond.code ({ cls := "java/lang/String", name := "coder", desc := "()B" } : Jvm.MethodName) jdk_42_method_152_code (1 : Nat) (Option.some Jvm.ClassFile.FieldType.byte), Jvm.Cond.code ({ cls := "java/lang/String", name := "charAt", desc := "(I)C" } : Jvm.MethodName) jdk_42_method_56_code (2 : Nat) (Option.some Jvm.ClassFile.FieldType.char), Jvm.Cond.code ({ cls := "java/lang/String", name := "isLatin1", desc := "()Z" } : Jvm.MethodName) jdk_42_method_154_code (1 : Nat) (Option.some Jvm.ClassFile.FieldType.boolean), Jvm.Cond.code ({ cls := "java/lang/StringLatin1", name := "charAt", desc := "([BI)C" } : Jvm.MethodName) jdk_43_method_2_code (2 : Nat) (Option.some Jvm.ClassFile.FieldType.char), Jvm.Cond.code ({ cls := "java/lang/String", name := "checkIndex", desc := "(II)V" } : Jvm.MethodName) jdk_42_method_155_code (2 : Nat) (Option.none : Option Jvm.ClassFile.FieldType), Jvm.Cond.code ({ cls := "jdk/internal/util/Preconditions", name := "checkIndex", desc := "(IILjava/util/function/BiFunction;)I" } : Jvm.MethodName) jdk_41_method_11_code (3 : Nat) (Option.some Jvm.ClassFile.FieldType.int), Jvm.Cond.code ({ cls := "java/lang/String", name := "<init>", desc := "([C)V" } : Jvm.MethodName) jdk_42_method_3_code (2 : Nat) (Option.none : Option Jvm.ClassFile.FieldType), Jvm.Cond.code ({ cls := "java/lang/String", name := "<init>", desc := "([CIILjava/lang/Void;)V" } : Jvm.MethodName) jdk_42_method_149_code (6 : Nat) (Option.none : Option Jvm.ClassFile.FieldType), Jvm.Cond.code ({ cls := "java/lang/Object", name := "<init>", desc := "()V" } : Jvm.MethodName) object_method_1_code (1 : Nat) (Option.none : Option Jvm.ClassFile.FieldType), Jvm.Cond.code ({ cls := "java/lang/StringUTF16", name := "compress", desc := "([CII)[B" } : Jvm.MethodName) jdk_52_method_16_code (6 : Nat) (Option.some (Jvm.ClassFile.FieldType.array Jvm.ClassFile.FieldType.byte)), Jvm.Cond.code ({ cls := "java/lang/StringUTF16", name := "compress", desc := "([CI[BII)I" } : Jvm.MethodName) jdk_52_method_21_code (7 : Nat) (Option.some Jvm.ClassFile.FieldType.int), Jvm.Cond.code ({ cls := "java/lang/StringUTF16", name := "coderFromArrayLen", desc := "([BI)B" } : Jvm.MethodName) jdk_52_method_15_code (2 : Nat) (Option.some Jvm.ClassFile.FieldType.byte), Jvm.Cond.code ({ cls := "com/example/waypost/waypost/cli/ContentOptions", name := "isContentOption", desc := "(Ljava/lang/String;)Z" } : Jvm.MethodName) prog_7_method_2_code (1 : Nat) (Option.some Jvm.ClassFile.FieldType.boolean), Jvm.Cond.code ({ cls := "java/lang/String", name := "equals", desc := "(Ljava/lang/Object;)Z" } : Jvm.MethodName) jdk_42_method_66_code (3 : Nat) (Option.some Jvm.ClassFile.FieldType.boolean), Jvm.Cond.code ({ cls := "java/lang/StringLatin1", name := "equals", desc := "([B[B)Z" } : Jvm.MethodName) jdk_43_method_13_code (3 : Nat) (Option.some Jvm.ClassFile.FieldType.boolean)]
set_option maxRecDepth 65536 in
theorem codes_eq : words1.filter isCode = codes1 := rfl
theorem w_codes : ∀ c ∈ words1.filter isCode, c.before args0 about1 = true := by
  rw [codes_eq]
  intro c hc
  simp only [codes1, List.mem_cons, List.not_mem_nil, or_false] at hc
  rcases hc with rfl | rfl | rfl | rfl | rfl | rfl | rfl | rfl | rfl | rfl | rfl | rfl | rfl | rfl | rfl | rfl | rfl | rfl | rfl
  · exact w_c0
  · exact w_c1
  · exact w_c2
  · exact w_c3
  · exact w_c4
  · exact w_c5
  · exact w_c6
  · exact w_c7
  · exact w_c8
  · exact w_c9
  · exact w_c10
  · exact w_c11
  · exact w_c12
  · exact w_c13
  · exact w_c14
  · exact w_c15
  · exact w_c16
  · exact w_c17
  · exact w_c18
set_option maxRecDepth 65536 in
theorem w_t1 : (words1.take 24).all (fun c => isCode c || c.before args0 about1) = true := by decide +kernel
set_option maxRecDepth 65536 in
theorem w_t2 : ((words1.drop 24).take 24).all (fun c => isCode c || c.before args0 about1) = true := by decide +kernel
set_option maxRecDepth 65536 in
theorem w_t3 : (((words1.drop 24).drop 24).take 24).all (fun c => isCode c || c.before args0 about1) = true := by decide +kernel
set_option maxRecDepth 65536 in
theorem w_t4 : (((words1.drop 24).drop 24).drop 24).all (fun c => isCode c || c.before args0 about1) = true := by decide +kernel
theorem w_tables : (allAtoms (Jvm.Cond.code x code maxLocals ret :: tables_1)).before args0 about1 = true := by
  rw [allAtoms_all]
  show words1.all (fun c => c.before args0 about1) = true
  refine all_split ?_ w_codes
  rw [← List.take_append_drop 24 words1, List.all_append, w_t1, ← List.take_append_drop 24 (words1.drop 24), List.all_append, w_t2, ← List.take_append_drop 24 ((words1.drop 24).drop 24), List.all_append, w_t3, w_t4]
  rfl
set_option maxRecDepth 65536 in
theorem w_rest : rest_1_c.before args0 about1 = true := by decide +kernel
set_option maxRecDepth 65536 in
theorem w_case : (Jvm.Cond.and given_1 narrow_1).before args0 about1 = true := by decide +kernel
set_option maxRecDepth 65536 in
theorem w_consts : constsHeld consts_1 about1 := Jvm.Lit.constsHeldB_iff.mp (by decide +kernel)
theorem w_applies : (headSpec (Jvm.Cond.code x code maxLocals ret :: tables_1) room_1).applies x e0.platform about1 = true :=
  (Spec.applies_iff w_frames).mpr ⟨w_running, w_runnable, w_alone, w_named, w_hears, w_ripe, w_room, w_tables⟩
theorem atStart : AtStart classFile x code maxLocals ret World_1 tables_1 room_1 Calls_1 rest_1 Pre_1 launch0 p0 e0 about1 theMethod args0 below0 :=
  ⟨lists_1, trivial, launch0.admits_env _ _ _, launch0.least_env, fairChoices_fair.cas, fairChoices_fair.clock, w_frames, w_args, w_heap, w_applies, ⟨w_consts, trivial⟩, w_rest, w_case⟩
end start1
theorem witness_1 : WitnessClaimed_1 := ⟨start1.p0, start1.e0, start1.about1, start1.theMethod, start1.args0, start1.below0, start1.atStart⟩
end Jvm.Pilot.@@N@@
