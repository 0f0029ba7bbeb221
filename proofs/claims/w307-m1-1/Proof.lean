import JvmDerived
import JvmDerived.Pilot.@@N@@Statement
import JvmDerived.Pilot.@@N@@Code
set_option linter.unusedVariables false
set_option linter.unusedSimpArgs false
namespace Jvm.Pilot.@@N@@
open Jvm Jvm.ClassFile Sem Op Lib Jvm.Free Jvm.Stand Jvm.LawKit Jvm.RoadKit Bundle Jvm.Pilot.@@N@@.Jvm.D
section OwnKit
variable {p : Program} {l : Launch} {e : Env} {R : Room} {s : State} {m : MethodId} {args : Array Value} {below : List Frame} {meth : Method} {c : Code} {T T' : State} {Z : State} {a0 : Array Value} {h h' h2 : Heap} {k n k' n' : Nat} {Φ : Outcome → State → Prop} {Q : Option Value → Heap → Prop}
theorem nle {a b : Nat} (h : Nat.ble a b = true) : a ≤ b := Nat.le_of_ble_eq_true h
/-- from here the run returns, and what it leaves is as Φ says -/
def Ends (p : Program) (e : Env) (below : List Frame) (Φ : Outcome → State → Prop) (T : State) (f : JFrame) : Prop :=
  ∃ s₂ o, Steps p.tables e below (T.setTop f) s₂ ∧ s₂.status = .running ∧ Ended s₂ below o ∧ Φ o s₂
theorem Ends.go {f f' : JFrame} (st : ∀ t, Steps p.tables e below (T'.setTop f') t → Steps p.tables e below (T.setTop f) t) (K : Ends p e below Φ T' f') : Ends p e below Φ T f := by
  obtain ⟨s₂, o, h1, h2⟩ := K; exact ⟨s₂, o, st _ h1, h2⟩
theorem Ends.mono {f : JFrame} {Ψ : Outcome → State → Prop} (K : Ends p e below Φ T f) (q : ∀ o u, Φ o u → Ψ o u) : Ends p e below Ψ T f := by
  obtain ⟨s₂, o, h1, h2, h3, h4⟩ := K; exact ⟨s₂, o, h1, h2, h3, q _ _ h4⟩
/-- where a walk stands -/
def Now (p : Program) (l : Launch) (e : Env) (R : Room) (s : State) (m : MethodId) (args : Array Value) (below : List Frame) (meth : Method) (c : Code) (Z : State) (T : State) (h : Heap) (k n : Nat) : Prop :=
  ∃ locs, Stand p l e R s m args below meth c T locs k n ∧ T.heap = h ∧ Fr Z.heap.size locs ∧ Ext Z.heap s.heap
theorem Now.here (N : Now p l e R s m args below meth c Z T h k n) : At T m c below := by obtain ⟨_, X, _⟩ := N; exact X.here
theorem Now.ext (N : Now p l e R s m args below meth c Z T h k n) : Ext Z.heap h := by
  obtain ⟨L, X, eT, F, q⟩ := N
  obtain ⟨-, h1, -, -, -, h2⟩ := X.same
  have h1 : s.heap.size ≤ T.heap.size := h1
  subst eT
  refine ⟨Nat.le_trans q.1 h1, fun a cl hc => ?_⟩
  have hlt : a < Z.heap.size := (Array.getElem?_eq_some_iff.mp hc).1
  obtain ⟨c', e1, e2, e3, e4⟩ := h2 a cl (q.2 a cl hc)
  have e5 : c'.slots = cl.slots := Array.ext_getElem? fun i => e4 i fun hm => absurd hlt (Nat.not_lt.mpr (F _ hm))
  have e6 : c' = cl := by rw [e2, e5]
  rw [← e6]; exact e1
theorem Now.le (N : Now p l e R s m args below meth c Z T h k n) : Z.heap.size ≤ h.size := N.ext.1
theorem Now.le0 (N : Now p l e R s m args below meth c Z T h k n) : s.heap.size ≤ h.size := by
  obtain ⟨_, X, eT, _, q⟩ := N
  have r : s.heap.size ≤ T.heap.size := X.same.2.1
  rw [eT] at r; exact r
theorem Now.mono (N : Now p l e R s m args below meth c Z T h k n) (hk : k ≤ k') (hn : n ≤ n') : Now p l e R s m args below meth c Z T h k' n' := by
  obtain ⟨L, X, r⟩ := N; exact ⟨L, X.more hk hn, r⟩
/-- what a narrow contract promises -/
def PhiN (Z s : State) (Q : Option Value → Heap → Prop) (K N : Nat) : Outcome → State → Prop := fun o u => ∃ v L, o = .returned v ∧ (Q v u.heap ∧ Fr Z.heap.size L) ∧ FrameEnd s o u L K N
def MetN (l : Launch) (Z : State) (y : MethodName) (bytes : ByteArray) (maxL : Nat) (ret : Option FieldType) (ws : List Jvm.Cond) (rm : Room) (as' : Array Value) (h : Heap) (Q : Option Value → Heap → Prop) : Prop :=
  MetFree l y (head1 (Jvm.Cond.code y bytes maxL ret :: ws) rm) (fun a U => a = as' ∧ Z.Warmed39 U.vm ∧ U.heap = h) (fun _ _ _ _ _ => True) (fun _ U o U' => ∃ v L, o = .returned v ∧ (Q v U'.heap ∧ Fr Z.heap.size L) ∧ FrameEnd U o U' L rm.cells rm.slots)
theorem metN {y : MethodName} {bytes : ByteArray} {maxL : Nat} {ret : Option FieldType} {ws : List Jvm.Cond} {rm : Room} {as' : Array Value} {Ls : Array Slot} (hpl : plainFor y = true) (hn0 : Ext Z.heap h) (ef : ∀ m, entryFrame m as' maxL = mkF m 0 Ls [])
    (walk : ∀ (p : Program) (e : Env) (s : State) (m : MethodId) (below : List Frame) (meth : Method) (c : Code) (T : State), p.tables.exec = Jvm.exec → c.code = bytes → c.maxLocals = maxL → meth.sig.returnType = ret → meth.locks = false → s.vm.findClass y.cls = some m.cls → meth.name = y.name → Z.Warmed39 s.vm →
      Now p l e rm s m as' below meth c Z T h 0 0 → Ends p e below (PhiN Z s Q rm.cells rm.slots) T (mkF m 0 Ls [])) : MetN l Z y bytes maxL ret ws rm as' h Q := by
  refine MetFree.of_bodySF hpl hisR ?_
  intro p e s m args below meth c s₁ Bd hml0 hP hK
  obtain ⟨rfl, hZ, hh⟩ := hP
  have e0 : s₁.heap = h := by rw [← hh, Bd.state]; rfl
  have W := walk p e s m below meth c s₁ Bd.exec Bd.bytes hml0 Bd.returns Bd.notSynchronized (findClass_of_methodNamed Bd.named) (name_of_methodNamed Bd.named Bd.method).1 hZ ⟨[], Stand.of_body Bd, e0, Fr.nil _, hh ▸ hn0⟩
  rw [← ef] at W
  exact W
/-- the end of a narrow walk -/
theorem endN {v : Option Value} {f : JFrame} {K M : Nat} (N : Now p l e R s m args below meth c Z T h k n) (hlocks : meth.locks = false) (hv : meth.sig.returnType = none → v = none)
    (st : ∀ (locs : List Loc), Stand p l e R s m args below meth c T locs k n → ∀ fs, (∀ (f : JFrame) (acts : List Action), f.method = m → f.locked = none → f.entered = [] → (doReturn e (T.setTop f) acts v).1 = T.setFrames fs) → Steps p.tables e below (T.setTop f) (T.setFrames fs)) (hQ : Q v h) (hk : k ≤ K) (hn : n ≤ M) :
    Ends p e below (PhiN Z s Q K M) T f := by
  obtain ⟨L, X, eT, F, _⟩ := N
  obtain ⟨fs, hr, hrun, hended, hW, hsame⟩ := X.leave hv hlocks
  refine ⟨_, _, st L X fs hr, hrun, hended, _, L, rfl, ⟨?_, F⟩, ⟨_, rfl⟩, hW, hsame.mono hk hn⟩
  show Q v T.heap
  rw [eT]; exact hQ
section Ret
variable {pc : Nat} {Ls : Array Slot} {rest : List Value} {K M : Nat}
theorem retI {z : Int32} (N : Now p l e R s m args below meth c Z T h k n) (hx : p.tables.exec = Jvm.exec) (hlocks : meth.locks = false) (hret : meth.sig.returnType = some .int) (hd : decode c.code pc = .ok (.ireturn, 1)) (hQ : Q (some (.int z)) h) (hk : k ≤ K) (hn : n ≤ M) :
    Ends p e below (PhiN Z s Q K M) T (mkF m pc Ls (.int z :: rest)) :=
  endN N hlocks (fun q => by rw [hret] at q; cases q) (fun L X fs hr => retOut X hx hret rfl (Or.inl ⟨rfl, Or.inl rfl, z, rfl⟩) hd hr) hQ hk hn
theorem retJ {z : Int64} (N : Now p l e R s m args below meth c Z T h k n) (hx : p.tables.exec = Jvm.exec) (hlocks : meth.locks = false) (hret : meth.sig.returnType = some .long) (hd : decode c.code pc = .ok (.lreturn, 1)) (hQ : Q (some (.long z)) h) (hk : k ≤ K) (hn : n ≤ M) :
    Ends p e below (PhiN Z s Q K M) T (mkF m pc Ls (.long z :: rest)) :=
  endN N hlocks (fun q => by rw [hret] at q; cases q) (fun L X fs hr => retOut X hx hret rfl (Or.inr (Or.inl ⟨rfl, rfl, z, rfl⟩)) hd hr) hQ hk hn
theorem retA {v : Value} {t : FieldType} (N : Now p l e R s m args below meth c Z T h k n) (hx : p.tables.exec = Jvm.exec) (hlocks : meth.locks = false) (hret : meth.sig.returnType = some t) (ht : t.isReference = true) (hv : v.isRef = true) (hd : decode c.code pc = .ok (.areturn, 1)) (hQ : Q (some v) h) (hk : k ≤ K) (hn : n ≤ M) :
    Ends p e below (PhiN Z s Q K M) T (mkF m pc Ls (v :: rest)) :=
  endN N hlocks (fun q => by rw [hret] at q; cases q) (fun L X fs hr => retOut X hx hret (by cases v <;> first | (cases hv; done) | (cases t <;> first | (cases ht; done) | rfl)) (Or.inr (Or.inr (Or.inr (Or.inr ⟨rfl, ht, hv⟩)))) hd hr) hQ hk hn
theorem retZ {z : Int32} {t : FieldType} (N : Now p l e R s m args below meth c Z T h k n) (hx : p.tables.exec = Jvm.exec) (hlocks : meth.locks = false) (hret : meth.sig.returnType = some t) (ht : t = .boolean ∨ t = .byte ∨ t = .char ∨ t = .short) (hd : decode c.code pc = .ok (.ireturn, 1)) (hQ : Q (some (.int (nar t z))) h) (hk : k ≤ K) (hn : n ≤ M) :
    Ends p e below (PhiN Z s Q K M) T (mkF m pc Ls (.int z :: rest)) :=
  endN N hlocks (fun q => by rw [hret] at q; cases q) (fun L X fs hr => retN X hx hret ht hd hr) hQ hk hn
theorem retV (N : Now p l e R s m args below meth c Z T h k n) (hx : p.tables.exec = Jvm.exec) (hlocks : meth.locks = false) (hret : meth.sig.returnType = none) (hd : decode c.code pc = .ok (.return_, 1)) (hQ : Q none h) (hk : k ≤ K) (hn : n ≤ M) :
    Ends p e below (PhiN Z s Q K M) T (mkF m pc Ls []) :=
  endN N hlocks (fun _ => rfl) (fun L X fs hr => X.returnOut hx hret hd hr) hQ hk hn
end Ret
section Heap
variable {pc : Nat} {Ls : Array Slot} {st rest : List Value}
theorem gIrem {x y : Int32} {t : State} (N : Now p l e R s m args below meth c Z T h k n) (hx : p.tables.exec = Jvm.exec) (hd : decode c.code pc = .ok (.irem, 1)) (hy : y ≠ 0)
    (q : Steps p.tables e below (T.setTop (mkF m (pc + 1) Ls (.int (x % y) :: rest))) t) : Steps p.tables e below (T.setTop (mkF m pc Ls (.int y :: .int x :: rest))) t := by
  obtain ⟨L, X, _⟩ := N
  exact iremM X hx (g := mkF m pc Ls (.int y :: .int x :: rest)) rfl hd rfl hy q
/-- new C -/
theorem gNew {own C : String} {index q : Nat} (N : Now p l e R s m args below meth c Z T h k n) (hx : p.tables.exec = Jvm.exec) (hZ : Z.Warmed39 s.vm) (hown : s.vm.findClass own = some m.cls)
    (w : (Jvm.Cond.classLink own index C).before a0 Z = true) (wi : (Jvm.Cond.instantiable C q).before a0 Z = true) (wz : (Jvm.Cond.initialized C).before a0 Z = true) (hd : decode c.code pc = .ok (.new index, 3)) (hc : k + 1 ≤ R.cells) (hl : n + q ≤ R.slots)
    (K : ∀ T' h' a, a = h.size → Now p l e R s m args below meth c Z T' h' (k + 1) (n + q) → Ext h h' → Exa Z h' a C → (∀ {O nm d : String} {ty : FieldType}, Laid Z a0 C O nm d → parseFieldDescriptor d = some ty → Fld Z h' a O nm d (defaultValue ty)) → Ends p e below Φ T' (mkF m (pc + 3) Ls (.ref a :: st))) :
    Ends p e below Φ T (mkF m pc Ls st) := by
  obtain ⟨L, X, eT, F, hn0⟩ := N
  obtain ⟨T1, h1, X1, e1, E1, A1, D1, -, st1⟩ := newO X hx hZ hown w wi wz eT (g := mkF m pc Ls st) rfl hd hc hl
  exact Ends.go st1 (K T1 h1 h.size rfl ⟨L, X1, e1, F, hn0⟩ E1 A1 D1)
/-- newarray -/
theorem gArr {aty : ArrayType} {z : Int32} (cap : Nat) (N : Now p l e R s m args below meth c Z T h k n) (hx : p.tables.exec = Jvm.exec) (hZ : Z.Warmed39 s.vm) (w : (Jvm.Cond.arrayClass (newarray.typeOf aty)).before a0 Z = true) (hd : decode c.code pc = .ok (.newarray aty, 2)) (hz : ¬ z < 0)
    (hcap : z.toNatClampNeg ≤ cap) (hb : cap * 8 ≤ 536870912) (hc : k + 1 ≤ R.cells) (hl : n + cap ≤ R.slots)
    (K : ∀ T' h' a kA, a = h.size → Now p l e R s m args below meth c Z T' h' (k + 1) (n + cap) → Ext h h' → Arv Z h' a kA (newarray.typeOf aty) z [] (defaultValue (newarray.typeOf aty)) → Ends p e below Φ T' (mkF m (pc + 2) Ls (.ref a :: rest))) :
    Ends p e below Φ T (mkF m pc Ls (.int z :: rest)) := by
  obtain ⟨L, X, eT, F, hn0⟩ := N
  obtain ⟨T1, h1, kA, X1, e1, E1, A1, st1⟩ := newP X hx hZ w eT (g := mkF m pc Ls (.int z :: rest)) rfl hd rfl hz hcap hb hc hl
  exact Ends.go st1 (K T1 h1 h.size kA rfl ⟨L, X1, e1, F, hn0⟩ E1 (Arv.new A1 hz))
/-- castore into a known array -/
theorem gStC {a : Addr} {kA : ClassId} {z j x : Int32} {vs : List Value} {d : Value} (i : Nat) (N : Now p l e R s m args below meth c Z T h k n) (hx : p.tables.exec = Jvm.exec) (hZ : Z.Warmed39 s.vm) (V : Arv Z h a kA .char z vs d) (ha : Z.heap.size ≤ a) (hj : ¬ j < 0 ∧ j < z) (hi : j.toNatClampNeg = i) (hil : i < vs.length) (hd : decode c.code pc = .ok (.castore, 1))
    (K : ∀ T' h', Now p l e R s m args below meth c Z T' h' k n → Wr h h' a j.toNatClampNeg (.int (nar .char x)) → Arv Z h' a kA .char z (vs.set i (.int (nar .char x))) d → Ends p e below Φ T' (mkF m (pc + 1) Ls rest)) :
    Ends p e below Φ T (mkF m pc Ls (.int x :: .int j :: .ref a :: rest)) := by
  obtain ⟨L, X, eT, F, hn0⟩ := N
  obtain ⟨cl, A, q, S, M, H, U⟩ := V
  obtain ⟨T1, h1, X1, e1, W1, st1⟩ := stC X hx hZ eT A (j := j) (x := x) (inb_of S hj) (g := mkF m pc Ls (.int x :: .int j :: .ref a :: rest)) rfl rfl hd
  exact Ends.go st1 (K T1 h1 ⟨_, X1, e1, Fr.snoc X1 F ha, hn0⟩ W1 (Arv.set A q S M H U (fits_nar_char _) W1 i hi hil))
/-- getfield -/
theorem gGet {own R0 O nm d host : String} {index : Nat} {a : Addr} {v : Value} (N : Now p l e R s m args below meth c Z T h k n) (hx : p.tables.exec = Jvm.exec) (hZ : Z.Warmed39 s.vm) (hown : s.vm.findClass own = some m.cls)
    (w : (Jvm.Cond.fieldLink own index R0 nm d).before a0 Z = true ∨ (Jvm.Cond.fieldLinkNest own index R0 nm d host).before a0 Z = true) (via : Via Z R0 O nm d) (Fv : Fld Z h a O nm d v) (hd : decode c.code pc = .ok (.getfield index, 3))
    (K : ∀ T', Now p l e R s m args below meth c Z T' h k n → Ends p e below Φ T' (mkF m (pc + 3) Ls (v :: rest))) :
    Ends p e below Φ T (mkF m pc Ls (.ref a :: rest)) := by
  obtain ⟨L, X, eT, F, hn0⟩ := N
  obtain ⟨T1, X1, e1, st1⟩ := getF X hx hZ hown w via eT Fv (g := mkF m pc Ls (.ref a :: rest)) rfl rfl hd
  exact Ends.go st1 (K T1 ⟨_, X1, e1, F, hn0⟩)
/-- putfield -/
theorem gPut {own R0 O nm d host C : String} {index kk : Nat} {ty : FieldType} {a : Addr} {v old : Value} (N : Now p l e R s m args below meth c Z T h k n) (hx : p.tables.exec = Jvm.exec) (hZ : Z.Warmed39 s.vm) (hown : s.vm.findClass own = some m.cls)
    (w : (Jvm.Cond.fieldLink own index R0 nm d).before a0 Z = true ∨ (Jvm.Cond.fieldLinkNest own index R0 nm d host).before a0 Z = true) (via : Via Z R0 O nm d) (Fv : Fld Z h a O nm d old) (E : Exa Z h a C) (ha : Z.heap.size ≤ a)
    (L0 : (Jvm.Cond.lays C O nm d).before a0 Z = true ∨ ((Jvm.Cond.laysFinal C O nm d).before a0 Z = true ∧ own = O ∧ meth.name = "<init>")) (wi : (Jvm.Cond.instantiable C kk).before a0 Z = true) (hty : parseFieldDescriptor d = some ty) (hnr : narrow ty v = v) (hf : fits ty v = true) (hd : decode c.code pc = .ok (.putfield index, 3))
    (K : ∀ T' h', Now p l e R s m args below meth c Z T' h' k n → Wr h h' a (RoadKit.slotOf Z O nm d) v → Fld Z h' a O nm d v → Exa Z h' a C → Ends p e below Φ T' (mkF m (pc + 3) Ls rest)) :
    Ends p e below Φ T (mkF m pc Ls (v :: .ref a :: rest)) := by
  obtain ⟨L, X, eT, F, hn0⟩ := N
  obtain ⟨T1, h1, X1, e1, W1, st1⟩ := putF X hx hZ hown w via eT Fv E L0 wi hty hnr hf (g := mkF m pc Ls (v :: .ref a :: rest)) rfl rfl hd
  exact Ends.go st1 (K T1 h1 ⟨_, X1, e1, Fr.snoc X1 F ha, hn0⟩ W1 (Fv.same W1) (E.wr W1))
/-- getstatic -/
theorem gSta {own R0 O nm d : String} {index : Nat} {v : Value} (N : Now p l e R s m args below meth c Z T h k n) (hx : p.tables.exec = Jvm.exec) (hZ : Z.Warmed39 s.vm) (hown : s.vm.findClass own = some m.cls)
    (w : (Jvm.Cond.fieldLink own index R0 nm d).before a0 Z = true) (via : Via Z R0 O nm d) (Fv : Sta Z h O nm d v) (hd : decode c.code pc = .ok (.getstatic index, 3))
    (K : ∀ T', Now p l e R s m args below meth c Z T' h k n → Ends p e below Φ T' (mkF m (pc + 3) Ls (v :: st))) :
    Ends p e below Φ T (mkF m pc Ls st) := by
  obtain ⟨L, X, eT, F, hn0⟩ := N
  obtain ⟨T1, X1, e1, st1⟩ := getS (host := "") X hx hZ hown w via eT Fv (g := mkF m pc Ls st) rfl hd
  exact Ends.go st1 (K T1 ⟨_, X1, e1, F, hn0⟩)
/-- Object.<init> -/
theorem gInitO {own : String} {index : Nat} {a : Addr} (W : Nat) (N : Now p l e R s m args below meth c Z T h k n) (hx : p.tables.exec = Jvm.exec) (hZ : Z.Warmed39 s.vm) (hown : s.vm.findClass own = some m.cls)
    (w1 : (Jvm.Cond.methodLink own index Lib.objectInit).before a0 Z = true) (w2 : (Jvm.Cond.instanceMethod Lib.objectInit).before a0 Z = true) (w3 : (Jvm.Cond.code Lib.objectInit ⟨#[0xb1]⟩ 1 none).before a0 Z = true) (hd : decode c.code pc = .ok (.invokespecial index, 3)) (hsize : Ls.size = c.maxLocals) (hf : 1 ≤ R.frames) (hW : (rest.map fun v => v.category).sum ≤ W) (hl : W + 12 ≤ R.locals)
    (K : ∀ T', Now p l e R s m args below meth c Z T' h k n → Ends p e below Φ T' (mkF m (pc + 3) Ls rest)) :
    Ends p e below Φ T (mkF m pc Ls (.ref a :: rest)) := by
  obtain ⟨L, X, eT, F, hn0⟩ := N
  obtain ⟨T1, X1, e1, st1⟩ := initO X hx hZ hown w1 w2 w3 eT (g := mkF m pc Ls (.ref a :: rest)) rfl hsize rfl hd hf (W := W) (by show 2 * 0 + _ ≤ _; omega) hl
  exact Ends.go st1 (K T1 ⟨_, X1, e1, F, hn0⟩)
/-- ldc of an int -/
theorem gLdcI {own : String} {index : Nat} {v : Int32} (N : Now p l e R s m args below meth c Z T h k n) (hx : p.tables.exec = Jvm.exec) (hZ : Z.Warmed39 s.vm) (hown : s.vm.findClass own = some m.cls) (w : (Jvm.Cond.constant own index v).before a0 Z = true) (hd : decode c.code pc = .ok (.ldc index, 2))
    (K : Ends p e below Φ T (mkF m (pc + 2) Ls (.int v :: st))) : Ends p e below Φ T (mkF m pc Ls st) := by
  obtain ⟨L, X, eT, F, hn0⟩ := N
  exact Ends.go (fun t q => X.ldcI hx hown (mv hZ w) (g := mkF m pc Ls st) rfl hd q) K
theorem gLdcJ {own : String} {index : Nat} {v : Int64} (N : Now p l e R s m args below meth c Z T h k n) (hx : p.tables.exec = Jvm.exec) (hZ : Z.Warmed39 s.vm) (hown : s.vm.findClass own = some m.cls) (w : (Jvm.Cond.constantLong own index v).before a0 Z = true) (hd : decode c.code pc = .ok (.ldc2_w index, 3))
    (K : Ends p e below Φ T (mkF m (pc + 3) Ls (.long v :: st))) : Ends p e below Φ T (mkF m pc Ls st) := by
  obtain ⟨L, X, eT, F, hn0⟩ := N
  exact Ends.go (fun t q => X.ldc2J hx hown (mv hZ w) (g := mkF m pc Ls st) rfl hd q) K
theorem gLdcWI {own : String} {index : Nat} {v : Int32} (N : Now p l e R s m args below meth c Z T h k n) (hx : p.tables.exec = Jvm.exec) (hZ : Z.Warmed39 s.vm) (hown : s.vm.findClass own = some m.cls) (w : (Jvm.Cond.constant own index v).before a0 Z = true) (hd : decode c.code pc = .ok (.ldc_w index, 3))
    (K : Ends p e below Φ T (mkF m (pc + 3) Ls (.int v :: st))) : Ends p e below Φ T (mkF m pc Ls st) := by
  obtain ⟨L, X, eT, F, hn0⟩ := N
  exact Ends.go (fun t q => X.ldcWI hx hown (mv hZ w) (g := mkF m pc Ls st) rfl hd q) K
/-- lastore into a known array -/
theorem gStJ {a : Addr} {kA : ClassId} {z j : Int32} {x : Int64} {vs : List Value} {d : Value} (i : Nat) (N : Now p l e R s m args below meth c Z T h k n) (hx : p.tables.exec = Jvm.exec) (hZ : Z.Warmed39 s.vm) (V : Arv Z h a kA .long z vs d) (ha : Z.heap.size ≤ a) (hj : ¬ j < 0 ∧ j < z) (hi : j.toNatClampNeg = i) (hil : i < vs.length) (hd : decode c.code pc = .ok (.lastore, 1))
    (K : ∀ T' h', Now p l e R s m args below meth c Z T' h' k n → Wr h h' a j.toNatClampNeg (.long x) → Arv Z h' a kA .long z (vs.set i (.long x)) d → Ends p e below Φ T' (mkF m (pc + 1) Ls rest)) :
    Ends p e below Φ T (mkF m pc Ls (.long x :: .int j :: .ref a :: rest)) := by
  obtain ⟨L, X, eT, F, hn0⟩ := N
  obtain ⟨cl, A, q, S, M, H, U⟩ := V
  obtain ⟨T1, h1, X1, e1, W1, st1⟩ := stJ X hx hZ eT A (j := j) (x := x) (inb_of S hj) (g := mkF m pc Ls (.long x :: .int j :: .ref a :: rest)) rfl rfl hd
  exact Ends.go st1 (K T1 h1 ⟨_, X1, e1, Fr.snoc X1 F ha, hn0⟩ W1 (Arv.set A q S M H U rfl W1 i hi hil))
/-- arraylength -/
theorem gLen {a : Addr} {kA : ClassId} {ty : FieldType} {z : Int32} {vs : List Value} {d : Value} (N : Now p l e R s m args below meth c Z T h k n) (hx : p.tables.exec = Jvm.exec) (hZ : Z.Warmed39 s.vm) (V : Arv Z h a kA ty z vs d) (hd : decode c.code pc = .ok (.arraylength, 1))
    (K : Ends p e below Φ T (mkF m (pc + 1) Ls (.int z :: rest))) : Ends p e below Φ T (mkF m pc Ls (.ref a :: rest)) := by
  obtain ⟨L, X, eT, F, hn0⟩ := N
  obtain ⟨cl, A, q, S, M, H, U⟩ := V
  rw [← len_of S M] at K
  exact Ends.go (fun t q => X.arraylength hx (by rw [eT]; exact A.1) (State.isArrayOf_alike hZ.alike A.2.1) (g := mkF m pc Ls (.ref a :: rest)) rfl rfl hd t q) K
theorem gLdC {a : Addr} {kA : ClassId} {z j : Int32} {vs : List Value} {d v : Value} (N : Now p l e R s m args below meth c Z T h k n) (hx : p.tables.exec = Jvm.exec) (hZ : Z.Warmed39 s.vm) (V : Arv Z h a kA .char z vs d) (hj : ¬ j < 0 ∧ j < z) (hv : vs.getD j.toNatClampNeg d = v) (hd : decode c.code pc = .ok (.caload, 1))
    (K : Ends p e below Φ T (mkF m (pc + 1) Ls (v :: rest))) : Ends p e below Φ T (mkF m pc Ls (.int j :: .ref a :: rest)) := by
  obtain ⟨L, X, eT, F, hn0⟩ := N
  obtain ⟨cl, A, q, S, M, H, U⟩ := V
  exact Ends.go (fun t q => X.caload hx (by rw [eT]; exact A.1) (State.isArrayOf_alike hZ.alike A.2.1) A.2.2 (inb_of S hj) (H.at (inb_of S hj) hv) (g := mkF m pc Ls (.int j :: .ref a :: rest)) rfl rfl hd t q) K
theorem gLdJ {a : Addr} {kA : ClassId} {z j : Int32} {vs : List Value} {d v : Value} (N : Now p l e R s m args below meth c Z T h k n) (hx : p.tables.exec = Jvm.exec) (hZ : Z.Warmed39 s.vm) (V : Arv Z h a kA .long z vs d) (hj : ¬ j < 0 ∧ j < z) (hv : vs.getD j.toNatClampNeg d = v) (hd : decode c.code pc = .ok (.laload, 1))
    (K : Ends p e below Φ T (mkF m (pc + 1) Ls (v :: rest))) : Ends p e below Φ T (mkF m pc Ls (.int j :: .ref a :: rest)) := by
  obtain ⟨L, X, eT, F, hn0⟩ := N
  obtain ⟨cl, A, q, S, M, H, U⟩ := V
  exact Ends.go (fun t q => X.laload hx (by rw [eT]; exact A.1) (State.isArrayOf_alike hZ.alike A.2.1) A.2.2 (inb_of S hj) (H.at (inb_of S hj) hv) (g := mkF m pc Ls (.int j :: .ref a :: rest)) rfl rfl hd t q) K
theorem gLdB {a : Addr} {kA : ClassId} {z j : Int32} {vs : List Value} {d v : Value} (N : Now p l e R s m args below meth c Z T h k n) (hx : p.tables.exec = Jvm.exec) (hZ : Z.Warmed39 s.vm) (V : Arv Z h a kA .byte z vs d) (hj : ¬ j < 0 ∧ j < z) (hv : vs.getD j.toNatClampNeg d = v) (hd : decode c.code pc = .ok (.baload, 1))
    (K : Ends p e below Φ T (mkF m (pc + 1) Ls (v :: rest))) : Ends p e below Φ T (mkF m pc Ls (.int j :: .ref a :: rest)) := by
  obtain ⟨L, X, eT, F, hn0⟩ := N
  obtain ⟨cl, A, q, S, M, H, U⟩ := V
  exact Ends.go (fun t q => X.baloadBytes hx (by rw [eT]; exact A.1) (State.isArrayOf_alike hZ.alike A.2.1) A.2.2 (inb_of S hj) (H.at (inb_of S hj) hv) (g := mkF m pc Ls (.int j :: .ref a :: rest)) rfl rfl hd t q) K
theorem gLdI {a : Addr} {kA : ClassId} {z j : Int32} {vs : List Value} {d v : Value} (N : Now p l e R s m args below meth c Z T h k n) (hx : p.tables.exec = Jvm.exec) (hZ : Z.Warmed39 s.vm) (V : Arv Z h a kA .int z vs d) (hj : ¬ j < 0 ∧ j < z) (hv : vs.getD j.toNatClampNeg d = v) (hd : decode c.code pc = .ok (.iaload, 1))
    (K : Ends p e below Φ T (mkF m (pc + 1) Ls (v :: rest))) : Ends p e below Φ T (mkF m pc Ls (.int j :: .ref a :: rest)) := by
  obtain ⟨L, X, eT, F, hn0⟩ := N
  obtain ⟨cl, A, q, S, M, H, U⟩ := V
  exact Ends.go (fun t q => X.iaload hx (by rw [eT]; exact A.1) (State.isArrayOf_alike hZ.alike A.2.1) A.2.2 (inb_of S hj) (H.at (inb_of S hj) hv) (g := mkF m pc Ls (.int j :: .ref a :: rest)) rfl rfl hd t q) K
theorem gLdA {a : Addr} {kA : ClassId} {ty : FieldType} {z j : Int32} {vs : List Value} {d v : Value} (N : Now p l e R s m args below meth c Z T h k n) (hx : p.tables.exec = Jvm.exec) (hZ : Z.Warmed39 s.vm) (V : Arv Z h a kA ty z vs d) (hty : ty.isReference = true) (hj : ¬ j < 0 ∧ j < z) (hv : vs.getD j.toNatClampNeg d = v) (hd : decode c.code pc = .ok (.aaload, 1))
    (K : Ends p e below Φ T (mkF m (pc + 1) Ls (v :: rest))) : Ends p e below Φ T (mkF m pc Ls (.int j :: .ref a :: rest)) := by
  obtain ⟨L, X, eT, F, hn0⟩ := N
  obtain ⟨cl, A, q, S, M, H, U⟩ := V
  exact Ends.go (fun t q => X.aaload hx (by rw [eT]; exact A.1) (State.isArrayOf_alike hZ.alike A.2.1) hty A.2.2 (inb_of S hj) (H.at (inb_of S hj) hv) (g := mkF m pc Ls (.int j :: .ref a :: rest)) rfl rfl hd t q) K
/-- checkcast, instanceof: yes; of null -/
theorem gCast {own K0 : String} {index : Nat} {a : Addr} (N : Now p l e R s m args below meth c Z T h k n) (hx : p.tables.exec = Jvm.exec) (hZ : Z.Warmed39 s.vm) (hown : s.vm.findClass own = some m.cls) (w : (Jvm.Cond.classLink own index K0).before a0 Z = true) (I : Ins Z h a K0 true) (hd : decode c.code pc = .ok (.checkcast index, 3))
    (K : ∀ T', Now p l e R s m args below meth c Z T' h k n → Ends p e below Φ T' (mkF m (pc + 3) Ls (.ref a :: rest))) : Ends p e below Φ T (mkF m pc Ls (.ref a :: rest)) := by
  obtain ⟨L, X, eT, F, hn0⟩ := N
  obtain ⟨T1, X1, e1, st1⟩ := castY X hx hZ hown w eT I (g := mkF m pc Ls (.ref a :: rest)) rfl rfl hd
  exact Ends.go st1 (K T1 ⟨_, X1, e1, F, hn0⟩)
theorem gInst {own K0 : String} {index : Nat} {a : Addr} (N : Now p l e R s m args below meth c Z T h k n) (hx : p.tables.exec = Jvm.exec) (hZ : Z.Warmed39 s.vm) (hown : s.vm.findClass own = some m.cls) (w : (Jvm.Cond.classLink own index K0).before a0 Z = true) (I : Ins Z h a K0 true) (hd : decode c.code pc = .ok (.instanceof index, 3))
    (K : ∀ T', Now p l e R s m args below meth c Z T' h k n → Ends p e below Φ T' (mkF m (pc + 3) Ls (.int 1 :: rest))) : Ends p e below Φ T (mkF m pc Ls (.ref a :: rest)) := by
  obtain ⟨L, X, eT, F, hn0⟩ := N
  obtain ⟨T1, X1, e1, st1⟩ := instY X hx hZ hown w eT I (g := mkF m pc Ls (.ref a :: rest)) rfl rfl hd
  exact Ends.go st1 (K T1 ⟨_, X1, e1, F, hn0⟩)
theorem gCastN {index : Nat} (N : Now p l e R s m args below meth c Z T h k n) (hx : p.tables.exec = Jvm.exec) (hd : decode c.code pc = .ok (.checkcast index, 3)) (K : Ends p e below Φ T (mkF m (pc + 3) Ls (.null :: rest))) : Ends p e below Φ T (mkF m pc Ls (.null :: rest)) := by
  obtain ⟨L, X, eT, F, hn0⟩ := N
  exact Ends.go (X.checkcastNull hx (g := mkF m pc Ls (.null :: rest)) rfl rfl hd) K
theorem gInstN {index : Nat} (N : Now p l e R s m args below meth c Z T h k n) (hx : p.tables.exec = Jvm.exec) (hd : decode c.code pc = .ok (.instanceof index, 3)) (K : Ends p e below Φ T (mkF m (pc + 3) Ls (.int 0 :: rest))) : Ends p e below Φ T (mkF m pc Ls (.null :: rest)) := by
  obtain ⟨L, X, eT, F, hn0⟩ := N
  exact Ends.go (X.instanceofNull hx (g := mkF m pc Ls (.null :: rest)) rfl rfl hd) K
end Heap
section Calls
variable {pc : Nat} {Ls : Array Slot} {st rest argsL : List Value} {own : String} {index W k1 n1 : Nat} {y : MethodName} {Pre : Pt → Array Value → Prop}
/-- what a payer gives back, as Back's Post -/
abbrev PostN (Q : Option Value → Heap → List Loc → Prop) (k1 n1 : Nat) : Pt → Array Value → Option Value → Pt → Prop := fun A _ v B => ∃ L, Q v B.U.heap L ∧ B.locs = A.locs ++ L ∧ B.cells = A.cells + k1 ∧ B.slots = A.slots + n1
abbrev PreN (R : Room) (as' : Array Value) (h : Heap) (k1 n1 : Nat) : Pt → Array Value → Prop := fun A a => a = as' ∧ A.U.heap = h ∧ A.cells + k1 ≤ R.cells ∧ A.slots + n1 ≤ R.slots
variable {Qc : Option Value → Heap → List Loc → Prop}
/-- a static call -/
theorem gStatic {bytes : ByteArray} {maxL : Nat} {ret : Option FieldType} (N : Now p l e R s m args below meth c Z T h k n) (hx : p.tables.exec = Jvm.exec) (hZ : Z.Warmed39 s.vm) (hown : s.vm.findClass own = some m.cls)
    (w1 : (Jvm.Cond.methodLink own index y).before a0 Z = true) (w2 : (Jvm.Cond.static y).before a0 Z = true) (w3 : (Jvm.Cond.initialized y.cls).before a0 Z = true) (w4 : (Jvm.Cond.code y bytes maxL ret).before a0 Z = true) (hy : y.cls ≠ "java/lang/invoke/MethodHandle" ∧ y.cls ≠ "java/lang/invoke/VarHandle")
    (B : Back l R p e below s args y 3 W (PreN R argsL.toArray h k1 n1) (PostN Qc k1 n1)) (hd : decode c.code pc = .ok (.invokestatic index, 3)) (hst : st = argsL.reverse ++ rest) (hsize : Ls.size = c.maxLocals) (hlen : ∀ sig, parseMethodDescriptor y.desc = some sig → argsL.length = sig.parameters.length) (hW : (rest.map fun v => v.category).sum ≤ W)
    (hc : k + k1 ≤ R.cells) (hs : n + n1 ≤ R.slots) (hQ : ∀ v h' L, Qc v h' L → Fr Z.heap.size L)
    (K : ∀ v T' h' L, Now p l e R s m args below meth c Z T' h' (k + k1) (n + n1) → Qc v h' L → Ends p e below Φ T' (mkF m (pc + 3) Ls (v.toList ++ rest))) :
    Ends p e below Φ T (mkF m pc Ls st) := by
  obtain ⟨L, X, eT, F, hn0⟩ := N
  obtain ⟨v, _, ⟨T1, L1, q1, q2⟩, -, X1, ⟨Lc, hq, l1, y1, z1⟩, st1⟩ := Jvm.LawKit.callS X hx (y := y) hown (mvT hZ w1) (mvT hZ w2) (mvT hZ w3) (mvT hZ w4) hy B (g := mkF m pc Ls st) rfl hsize (argsL := argsL) (rest := rest) hlen hst (by show 2 * 0 + _ ≤ _; omega) hd (fun _ _ => ⟨rfl, eT, hc, hs⟩)
  dsimp only [Pt.U, Pt.locs, Pt.cells, Pt.slots] at X1 l1 y1 z1 st1 hq
  subst l1 y1 z1
  have q := hQ _ _ _ hq
  exact Ends.go st1 (K v T1 _ Lc ⟨_, X1, rfl, Fr.app F q, hn0⟩ hq)
/-- a constructor -/
theorem gSpecial {bytes : ByteArray} {maxL : Nat} {a : Addr} (hy1 : y.name = "<init>") (N : Now p l e R s m args below meth c Z T h k n) (hx : p.tables.exec = Jvm.exec) (hZ : Z.Warmed39 s.vm) (hown : s.vm.findClass own = some m.cls)
    (w1 : (Jvm.Cond.methodLink own index y).before a0 Z = true) (w2 : (Jvm.Cond.instanceMethod y).before a0 Z = true) (w4 : (Jvm.Cond.code y bytes maxL none).before a0 Z = true) (hy : y.cls ≠ "java/lang/invoke/MethodHandle" ∧ y.cls ≠ "java/lang/invoke/VarHandle")
    (B : Back l R p e below s args y 3 W (PreN R (.ref a :: argsL).toArray h k1 n1) (PostN Qc k1 n1)) (hd : decode c.code pc = .ok (.invokespecial index, 3)) (hst : st = argsL.reverse ++ .ref a :: rest) (hsize : Ls.size = c.maxLocals) (hlen : ∀ sig, parseMethodDescriptor y.desc = some sig → argsL.length = sig.parameters.length) (hW : (rest.map fun v => v.category).sum ≤ W)
    (hc : k + k1 ≤ R.cells) (hs : n + n1 ≤ R.slots) (hQ : ∀ v h' L, Qc v h' L → Fr Z.heap.size L)
    (K : ∀ v T' h' L, Now p l e R s m args below meth c Z T' h' (k + k1) (n + n1) → Qc v h' L → Ends p e below Φ T' (mkF m (pc + 3) Ls (v.toList ++ rest))) :
    Ends p e below Φ T (mkF m pc Ls st) := by
  obtain ⟨L, X, eT, F, hn0⟩ := N
  obtain ⟨v, _, ⟨T1, L1, q1, q2⟩, -, X1, ⟨Lc, hq, l1, y1, z1⟩, st1⟩ := X.specialBack hx (y := y) hy1 hown (mvT hZ w1) (mvT hZ w2) (mvT hZ w4) hy B (g := mkF m pc Ls st) rfl hsize (Steps.refl _) (a := a) (argsL := argsL) (rest := rest) hlen hst (by show 2 * 0 + _ ≤ _; omega) hd (fun _ _ => ⟨rfl, eT, hc, hs⟩)
  dsimp only [Pt.U, Pt.locs, Pt.cells, Pt.slots] at X1 l1 y1 z1 st1 hq
  subst l1 y1 z1
  have q := hQ _ _ _ hq
  exact Ends.go (fun t r => st1.trans r) (K v T1 _ Lc ⟨_, X1, rfl, Fr.app F q, hn0⟩ hq)
/-- an instance method -/
theorem gVirtual {C : String} {z : MethodName} {b : Addr} (N : Now p l e R s m args below meth c Z T h k n) (hx : p.tables.exec = Jvm.exec) (hZ : Z.Warmed39 s.vm) (hown : s.vm.findClass own = some m.cls)
    (w1 : (Jvm.Cond.methodLink own index y).before a0 Z = true) (w2 : (Jvm.Cond.declares y).before a0 Z = true) (w3 : (Jvm.Cond.selects C y z).before a0 Z = true) (w4 : (Jvm.Cond.instanceMethod z).before a0 Z = true) (hy : y.cls ≠ "java/lang/invoke/MethodHandle" ∧ y.cls ≠ "java/lang/invoke/VarHandle")
    (hnf : NotFace s y) (E : Exa Z h b C)
    (B : Back l R p e below s args z 3 W (PreN R (.ref b :: argsL).toArray h k1 n1) (PostN Qc k1 n1)) (hd : decode c.code pc = .ok (.invokevirtual index, 3)) (hst : st = argsL.reverse ++ .ref b :: rest) (hsize : Ls.size = c.maxLocals) (hlen : ∀ sig, parseMethodDescriptor y.desc = some sig → argsL.length = sig.parameters.length) (hW : (rest.map fun v => v.category).sum ≤ W)
    (hc : k + k1 ≤ R.cells) (hs : n + n1 ≤ R.slots) (hQ : ∀ v h' L, Qc v h' L → Fr Z.heap.size L)
    (K : ∀ v T' h' L, Now p l e R s m args below meth c Z T' h' (k + k1) (n + n1) → Qc v h' L → Ends p e below Φ T' (mkF m (pc + 3) Ls (v.toList ++ rest))) :
    Ends p e below Φ T (mkF m pc Ls st) := by
  obtain ⟨L, X, eT, F, hn0⟩ := N
  obtain ⟨cq, kq, qa, qb, qc⟩ := isOf hZ eT E
  obtain ⟨v, _, ⟨T1, L1, q1, q2⟩, -, X1, ⟨Lc, hq, l1, y1, z1⟩, st1⟩ := X.virtualBack hx (y := y) (z := z) hown (mvT hZ w1) (mvT hZ w2) hnf (mvT hZ w3) (mvT hZ w4) hy B qa qc (g := mkF m pc Ls st) rfl hsize (Steps.refl _) (argsL := argsL) (rest := rest) hlen hst (by show 2 * 0 + _ ≤ _; omega) hd (fun _ _ => ⟨rfl, eT, hc, hs⟩)
  dsimp only [Pt.U, Pt.locs, Pt.cells, Pt.slots] at X1 l1 y1 z1 st1 hq
  subst l1 y1 z1
  have q := hQ _ _ _ hq
  exact Ends.go (fun t r => st1.trans r) (K v T1 _ Lc ⟨_, X1, rfl, Fr.app F q, hn0⟩ hq)
/-- a private instance method, by invokevirtual -/
theorem gPrivate {bytes : ByteArray} {maxL : Nat} {ret : Option FieldType} {b : Addr} {C : String} (N : Now p l e R s m args below meth c Z T h k n) (hx : p.tables.exec = Jvm.exec) (hZ : Z.Warmed39 s.vm) (hown : s.vm.findClass own = some m.cls)
    (w1 : (Jvm.Cond.methodLink own index y).before a0 Z = true) (w2 : (Jvm.Cond.instanceMethod y).before a0 Z = true) (w3 : (Jvm.Cond.selects y.cls y y).before a0 Z = true) (w4 : (Jvm.Cond.privateMethod y).before a0 Z = true) (w5 : (Jvm.Cond.code y bytes maxL ret).before a0 Z = true) (hy : y.cls ≠ "java/lang/invoke/MethodHandle" ∧ y.cls ≠ "java/lang/invoke/VarHandle")
    (E : Exa Z h b C)
    (B : Back l R p e below s args y 3 W (PreN R (.ref b :: argsL).toArray h k1 n1) (PostN Qc k1 n1)) (hd : decode c.code pc = .ok (.invokevirtual index, 3)) (hst : st = argsL.reverse ++ .ref b :: rest) (hsize : Ls.size = c.maxLocals) (hlen : ∀ sig, parseMethodDescriptor y.desc = some sig → argsL.length = sig.parameters.length) (hW : (rest.map fun v => v.category).sum ≤ W)
    (hc : k + k1 ≤ R.cells) (hs : n + n1 ≤ R.slots) (hQ : ∀ v h' L, Qc v h' L → Fr Z.heap.size L)
    (K : ∀ v T' h' L, Now p l e R s m args below meth c Z T' h' (k + k1) (n + n1) → Qc v h' L → Ends p e below Φ T' (mkF m (pc + 3) Ls (v.toList ++ rest))) :
    Ends p e below Φ T (mkF m pc Ls st) := by
  obtain ⟨L, X, eT, F, hn0⟩ := N
  obtain ⟨cell, hce, hob⟩ := E.cell
  obtain ⟨v, _, ⟨T1, L1, q1, q2⟩, -, X1, ⟨Lc, hq, l1, y1, z1⟩, st1⟩ := X.privateBack hx (y := y) hown (mvT hZ w1) (mvT hZ w2) (mvT hZ w3) (Cond.privateMethod_at (args := args) (mvP hZ w4)) (mvT hZ w5) hy B (g := mkF m pc Ls st) rfl hsize (Steps.refl _) (by rw [eT]; exact hce) hob (argsL := argsL) (rest := rest) hlen hst (by show 2 * 0 + _ ≤ _; omega) hd (fun _ _ => ⟨rfl, eT, hc, hs⟩)
  dsimp only [Pt.U, Pt.locs, Pt.cells, Pt.slots] at X1 l1 y1 z1 st1 hq
  subst l1 y1 z1
  have q := hQ _ _ _ hq
  exact Ends.go (fun t r => st1.trans r) (K v T1 _ Lc ⟨_, X1, rfl, Fr.app F q, hn0⟩ hq)
/-- an interface method -/
theorem gFace {C : String} {count : Nat} {z : MethodName} {b : Addr} (N : Now p l e R s m args below meth c Z T h k n) (hx : p.tables.exec = Jvm.exec) (hZ : Z.Warmed39 s.vm) (hown : s.vm.findClass own = some m.cls)
    (w1 : (Jvm.Cond.methodLink own index y).before a0 Z = true) (w2 : (Jvm.Cond.declares y).before a0 Z = true) (w3 : (Jvm.Cond.interfaceMethod y.cls y.cls y.name y.desc).before args s = true) (w4 : (Jvm.Cond.selects C y z).before a0 Z = true) (w5 : (Jvm.Cond.instanceMethod z).before a0 Z = true) (w6 : (Jvm.Cond.publicMethod z).before a0 Z = true) (w7 : (Jvm.Cond.unhidden C y.name y.desc).before a0 Z = true) (w8 : (Jvm.Cond.castable C y.cls).before a0 Z = true)
    (hy : y.cls ≠ "java/lang/invoke/MethodHandle" ∧ y.cls ≠ "java/lang/invoke/VarHandle") (E : Exa Z h b C)
    (B : Back l R p e below s args z 5 W (PreN R (.ref b :: argsL).toArray h k1 n1) (PostN Qc k1 n1)) (hd : decode c.code pc = .ok (.invokeinterface index count, 5)) (hst : st = argsL.reverse ++ .ref b :: rest) (hsize : Ls.size = c.maxLocals) (hlen : ∀ sig, parseMethodDescriptor y.desc = some sig → argsL.length = sig.parameters.length) (hW : (rest.map fun v => v.category).sum ≤ W)
    (hc : k + k1 ≤ R.cells) (hs : n + n1 ≤ R.slots) (hQ : ∀ v h' L, Qc v h' L → Fr Z.heap.size L)
    (K : ∀ v T' h' L, Now p l e R s m args below meth c Z T' h' (k + k1) (n + n1) → Qc v h' L → Ends p e below Φ T' (mkF m (pc + 5) Ls (v.toList ++ rest))) :
    Ends p e below Φ T (mkF m pc Ls st) := by
  obtain ⟨L, X, eT, F, hn0⟩ := N
  obtain ⟨cq, kq, qa, qb, qc⟩ := isOf hZ eT E
  obtain ⟨v, _, ⟨T1, L1, q1, q2⟩, -, X1, ⟨Lc, hq, l1, y1, z1⟩, st1⟩ := X.interfaceBack hx (xi := y) (y := z) hown (mvT hZ w1) (mvT hZ w2) w3 (mvT hZ w4) (mvT hZ w5) (mvT hZ w6) (mvT hZ w7) (mvT hZ w8) hy B qa qb qc (g := mkF m pc Ls st) rfl hsize (Steps.refl _) (argsL := argsL) (rest := rest) hlen hst (by show 2 * 0 + _ ≤ _; omega) hd (fun _ _ => ⟨rfl, eT, hc, hs⟩)
  dsimp only [Pt.U, Pt.locs, Pt.cells, Pt.slots] at X1 l1 y1 z1 st1 hq
  subst l1 y1 z1
  have q := hQ _ _ _ hq
  exact Ends.go (fun t r => st1.trans r) (K v T1 _ Lc ⟨_, X1, rfl, Fr.app F q, hn0⟩ hq)
/-- a contract as a payer -/
theorem MetN.back {bytes : ByteArray} {maxL : Nat} {ret : Option FieldType} {rm : Room} {len : Nat} {as' : Array Value} (hM : MetN l Z y bytes maxL ret [] rm as' h Q)
    (hZ : Z.Warmed39 s.vm) (wc : (Jvm.Cond.code y bytes maxL ret).before a0 Z = true) (wz : (Jvm.Cond.initialized y.cls).before a0 Z = true) (hf : rm.frames + 1 ≤ R.frames) (hl : W + (maxL + 11) + rm.locals ≤ R.locals) :
    Back l R p e below s args y len W (PreN R as' h rm.cells rm.slots) (PostN (fun v h' L => Q v h' ∧ Fr Z.heap.size L) rm.cells rm.slots) := backOf (Q := fun v h' L => Q v h' ∧ Fr Z.heap.size L) hM hZ wc wz hf hl
end Calls
end OwnKit
end Jvm.Pilot.@@N@@
namespace Jvm.Pilot.@@N@@
open Jvm Jvm.ClassFile Sem Op Lib Jvm.Free Jvm.Stand Jvm.LawKit Jvm.RoadKit Bundle Jvm.Pilot.@@N@@.Jvm.D
section OwnExt
variable {h h' h2 : Heap}
theorem ext_keep {x : Addr} (E : Ext h h') (K : Keep h' h2 [x]) (hx : h.size ≤ x) : Ext h h2 := ⟨Nat.le_trans E.1 K.1, fun a c q => K.2.1 a c (E.2 a c q) fun z => by
  cases List.mem_singleton.mp z
  exact absurd (Array.getElem?_eq_some_iff.mp q).1 (Nat.not_lt.mpr hx)⟩
theorem ext_keep2 {x y : Addr} (E : Ext h h') (K : Keep h' h2 [x, y]) (hx : h.size ≤ x) (hy : h.size ≤ y) : Ext h h2 := ⟨Nat.le_trans E.1 K.1, fun a c q => K.2.1 a c (E.2 a c q) fun z => by
  have hlt := (Array.getElem?_eq_some_iff.mp q).1
  rcases List.mem_cons.mp z with rfl | z
  · exact absurd hlt (Nat.not_lt.mpr hx)
  · cases List.mem_singleton.mp z
    exact absurd hlt (Nat.not_lt.mpr hy)⟩
theorem ext_wr {x : Addr} {sl : Nat} {v : Value} (E : Ext h h') (W : Wr h' h2 x sl v) (hx : h.size ≤ x) : Ext h h2 := ext_keep E (Keep.of_wr W) hx
theorem ext_trans (E : Ext h h') (F : Ext h' h2) : Ext h h2 := ⟨Nat.le_trans E.1 F.1, fun a c q => F.2 a c (E.2 a c q)⟩
theorem ext_refl (h : Heap) : Ext h h := ⟨Nat.le_refl _, fun _ _ q => q⟩
end OwnExt
theorem sn_wordsInUse_sizeIsSticky {Z : State} {a0 : Array Value} (hw : ∀ d ∈ tables_1, d.before a0 Z = true) : RoadKit.slotOf Z "java/util/BitSet" "wordsInUse" "I" ≠ RoadKit.slotOf Z "java/util/BitSet" "sizeIsSticky" "Z" := slot_ne (C := "java/util/BitSet") (t := .int) (t' := .boolean) (Or.inl (hw _ (List.mem_of_getElem? (i := 18) rfl))) (Or.inl (hw _ (List.mem_of_getElem? (i := 20) rfl))) (by decide) (by decide) (by decide)
theorem sn_wordsInUse_words {Z : State} {a0 : Array Value} (hw : ∀ d ∈ tables_1, d.before a0 Z = true) : RoadKit.slotOf Z "java/util/BitSet" "wordsInUse" "I" ≠ RoadKit.slotOf Z "java/util/BitSet" "words" "[J" := slot_ne (C := "java/util/BitSet") (t := .int) (t' := (.array .long)) (Or.inl (hw _ (List.mem_of_getElem? (i := 18) rfl))) (Or.inl (hw _ (List.mem_of_getElem? (i := 31) rfl))) (by decide) (by decide) (by decide)
theorem sn_sizeIsSticky_wordsInUse {Z : State} {a0 : Array Value} (hw : ∀ d ∈ tables_1, d.before a0 Z = true) : RoadKit.slotOf Z "java/util/BitSet" "sizeIsSticky" "Z" ≠ RoadKit.slotOf Z "java/util/BitSet" "wordsInUse" "I" := slot_ne (C := "java/util/BitSet") (t := .boolean) (t' := .int) (Or.inl (hw _ (List.mem_of_getElem? (i := 20) rfl))) (Or.inl (hw _ (List.mem_of_getElem? (i := 18) rfl))) (by decide) (by decide) (by decide)
theorem sn_sizeIsSticky_words {Z : State} {a0 : Array Value} (hw : ∀ d ∈ tables_1, d.before a0 Z = true) : RoadKit.slotOf Z "java/util/BitSet" "sizeIsSticky" "Z" ≠ RoadKit.slotOf Z "java/util/BitSet" "words" "[J" := slot_ne (C := "java/util/BitSet") (t := .boolean) (t' := (.array .long)) (Or.inl (hw _ (List.mem_of_getElem? (i := 20) rfl))) (Or.inl (hw _ (List.mem_of_getElem? (i := 31) rfl))) (by decide) (by decide) (by decide)
theorem sn_words_wordsInUse {Z : State} {a0 : Array Value} (hw : ∀ d ∈ tables_1, d.before a0 Z = true) : RoadKit.slotOf Z "java/util/BitSet" "words" "[J" ≠ RoadKit.slotOf Z "java/util/BitSet" "wordsInUse" "I" := slot_ne (C := "java/util/BitSet") (t := (.array .long)) (t' := .int) (Or.inl (hw _ (List.mem_of_getElem? (i := 31) rfl))) (Or.inl (hw _ (List.mem_of_getElem? (i := 18) rfl))) (by decide) (by decide) (by decide)
theorem sn_words_sizeIsSticky {Z : State} {a0 : Array Value} (hw : ∀ d ∈ tables_1, d.before a0 Z = true) : RoadKit.slotOf Z "java/util/BitSet" "words" "[J" ≠ RoadKit.slotOf Z "java/util/BitSet" "sizeIsSticky" "Z" := slot_ne (C := "java/util/BitSet") (t := (.array .long)) (t' := .boolean) (Or.inl (hw _ (List.mem_of_getElem? (i := 31) rfl))) (Or.inl (hw _ (List.mem_of_getElem? (i := 20) rfl))) (by decide) (by decide) (by decide)
theorem d5_0 : decode jdk_92_method_1_code 0 = .ok (.iload_n 0, 1) := by decide +kernel
theorem d5_1 : decode jdk_92_method_1_code 1 = .ok (.bipush 6, 2) := by decide +kernel
theorem d5_3 : decode jdk_92_method_1_code 3 = .ok (.ishr, 1) := by decide +kernel
theorem d5_4 : decode jdk_92_method_1_code 4 = .ok (.ireturn, 1) := by decide +kernel
def f_wi (p0 : Int32) : Int32 := (p0 >>> ((6 : Int32) &&& 31))
set_option maxRecDepth 65536 in
set_option maxHeartbeats 40000000 in
theorem rm5 (l : Launch) (Z : State) (a0 : Array Value) (hw : ∀ d ∈ tables_1, d.before a0 Z = true) (p0 : Int32) (h0 : Heap) (Z0 : Ext Z.heap h0) :
    MetN l Z (⟨"java/util/BitSet", "wordIndex", "(I)I"⟩ : MethodName) jdk_92_method_1_code 1 (some .int) [] ({ frames := 0, cells := 0, slots := 0, locals := 0 } : Room) #[(.int p0)] h0 (fun v h => v = some (.int (f_wi p0)) ∧ h = h0) := by
  refine metN (by first | exact plainFor_of_name (by first | (simp [plainName, overriddenIn]; done) | decide +kernel) | decide +kernel) Z0 (Ls := #[.val (.int p0)]) (fun m => by first | (simp [entryFrame, mkF, argsToLocals, Value.category]; done) | rfl) ?_
  intro p e s m below meth c T0 hx hby hml hret hlk hown hnm hZ N0
  refine Ends.go (f' := (mkF m 1 #[.val (.int p0)] [(.int p0)])) (fun t k => XS.iloadN N0.here hx rfl (hb hby d5_0) rfl k) ?_
  refine Ends.go (f' := (mkF m 3 #[.val (.int p0)] [(.int (6 : Int32)), (.int p0)])) (fun t k => XS.bipush N0.here hx rfl (hb hby d5_1) k) ?_
  refine Ends.go (f' := (mkF m 4 #[.val (.int p0)] [(.int (p0 >>> ((6 : Int32) &&& 31)))])) (fun t k => XT.ishr N0.here hx rfl (hb hby d5_3) rfl k) ?_
  exact retI N0 hx hlk hret (hb hby d5_4) ⟨rfl, rfl⟩ (nle rfl) (nle rfl)
theorem d13_0 : decode jdk_35_method_50_code 0 = .ok (.lload_n 0, 1) := by decide +kernel
theorem d13_1 : decode jdk_35_method_50_code 1 = .ok (.lload_n 0, 1) := by decide +kernel
theorem d13_2 : decode jdk_35_method_50_code 2 = .ok (.iconst 1, 1) := by decide +kernel
theorem d13_3 : decode jdk_35_method_50_code 3 = .ok (.lushr, 1) := by decide +kernel
theorem d13_4 : decode jdk_35_method_50_code 4 = .ok (.ldc2_w 314, 3) := by decide +kernel
theorem d13_7 : decode jdk_35_method_50_code 7 = .ok (.land, 1) := by decide +kernel
theorem d13_8 : decode jdk_35_method_50_code 8 = .ok (.lsub, 1) := by decide +kernel
theorem d13_9 : decode jdk_35_method_50_code 9 = .ok (.lstore_n 0, 1) := by decide +kernel
theorem d13_10 : decode jdk_35_method_50_code 10 = .ok (.lload_n 0, 1) := by decide +kernel
theorem d13_11 : decode jdk_35_method_50_code 11 = .ok (.ldc2_w 316, 3) := by decide +kernel
theorem d13_14 : decode jdk_35_method_50_code 14 = .ok (.land, 1) := by decide +kernel
theorem d13_15 : decode jdk_35_method_50_code 15 = .ok (.lload_n 0, 1) := by decide +kernel
theorem d13_16 : decode jdk_35_method_50_code 16 = .ok (.iconst 2, 1) := by decide +kernel
theorem d13_17 : decode jdk_35_method_50_code 17 = .ok (.lushr, 1) := by decide +kernel
theorem d13_18 : decode jdk_35_method_50_code 18 = .ok (.ldc2_w 316, 3) := by decide +kernel
theorem d13_21 : decode jdk_35_method_50_code 21 = .ok (.land, 1) := by decide +kernel
theorem d13_22 : decode jdk_35_method_50_code 22 = .ok (.ladd, 1) := by decide +kernel
theorem d13_23 : decode jdk_35_method_50_code 23 = .ok (.lstore_n 0, 1) := by decide +kernel
theorem d13_24 : decode jdk_35_method_50_code 24 = .ok (.lload_n 0, 1) := by decide +kernel
theorem d13_25 : decode jdk_35_method_50_code 25 = .ok (.lload_n 0, 1) := by decide +kernel
theorem d13_26 : decode jdk_35_method_50_code 26 = .ok (.iconst 4, 1) := by decide +kernel
theorem d13_27 : decode jdk_35_method_50_code 27 = .ok (.lushr, 1) := by decide +kernel
theorem d13_28 : decode jdk_35_method_50_code 28 = .ok (.ladd, 1) := by decide +kernel
theorem d13_29 : decode jdk_35_method_50_code 29 = .ok (.ldc2_w 318, 3) := by decide +kernel
theorem d13_32 : decode jdk_35_method_50_code 32 = .ok (.land, 1) := by decide +kernel
theorem d13_33 : decode jdk_35_method_50_code 33 = .ok (.lstore_n 0, 1) := by decide +kernel
theorem d13_34 : decode jdk_35_method_50_code 34 = .ok (.lload_n 0, 1) := by decide +kernel
theorem d13_35 : decode jdk_35_method_50_code 35 = .ok (.lload_n 0, 1) := by decide +kernel
theorem d13_36 : decode jdk_35_method_50_code 36 = .ok (.bipush 8, 2) := by decide +kernel
theorem d13_38 : decode jdk_35_method_50_code 38 = .ok (.lushr, 1) := by decide +kernel
theorem d13_39 : decode jdk_35_method_50_code 39 = .ok (.ladd, 1) := by decide +kernel
theorem d13_40 : decode jdk_35_method_50_code 40 = .ok (.lstore_n 0, 1) := by decide +kernel
theorem d13_41 : decode jdk_35_method_50_code 41 = .ok (.lload_n 0, 1) := by decide +kernel
theorem d13_42 : decode jdk_35_method_50_code 42 = .ok (.lload_n 0, 1) := by decide +kernel
theorem d13_43 : decode jdk_35_method_50_code 43 = .ok (.bipush 16, 2) := by decide +kernel
theorem d13_45 : decode jdk_35_method_50_code 45 = .ok (.lushr, 1) := by decide +kernel
theorem d13_46 : decode jdk_35_method_50_code 46 = .ok (.ladd, 1) := by decide +kernel
theorem d13_47 : decode jdk_35_method_50_code 47 = .ok (.lstore_n 0, 1) := by decide +kernel
theorem d13_48 : decode jdk_35_method_50_code 48 = .ok (.lload_n 0, 1) := by decide +kernel
theorem d13_49 : decode jdk_35_method_50_code 49 = .ok (.lload_n 0, 1) := by decide +kernel
theorem d13_50 : decode jdk_35_method_50_code 50 = .ok (.bipush 32, 2) := by decide +kernel
theorem d13_52 : decode jdk_35_method_50_code 52 = .ok (.lushr, 1) := by decide +kernel
theorem d13_53 : decode jdk_35_method_50_code 53 = .ok (.ladd, 1) := by decide +kernel
theorem d13_54 : decode jdk_35_method_50_code 54 = .ok (.lstore_n 0, 1) := by decide +kernel
theorem d13_55 : decode jdk_35_method_50_code 55 = .ok (.lload_n 0, 1) := by decide +kernel
theorem d13_56 : decode jdk_35_method_50_code 56 = .ok (.l2i, 1) := by decide +kernel
theorem d13_57 : decode jdk_35_method_50_code 57 = .ok (.bipush 127, 2) := by decide +kernel
theorem d13_59 : decode jdk_35_method_50_code 59 = .ok (.iand, 1) := by decide +kernel
theorem d13_60 : decode jdk_35_method_50_code 60 = .ok (.ireturn, 1) := by decide +kernel
def f_bc (p0 : Int64) : Int32 := (((((((((((p0 - ((XT.ushrL p0 (1 : Int32)) &&& (6148914691236517205 : Int64))) &&& (3689348814741910323 : Int64)) + ((XT.ushrL (p0 - ((XT.ushrL p0 (1 : Int32)) &&& (6148914691236517205 : Int64))) (2 : Int32)) &&& (3689348814741910323 : Int64))) + (XT.ushrL (((p0 - ((XT.ushrL p0 (1 : Int32)) &&& (6148914691236517205 : Int64))) &&& (3689348814741910323 : Int64)) + ((XT.ushrL (p0 - ((XT.ushrL p0 (1 : Int32)) &&& (6148914691236517205 : Int64))) (2 : Int32)) &&& (3689348814741910323 : Int64))) (4 : Int32))) &&& (1085102592571150095 : Int64)) + (XT.ushrL (((((p0 - ((XT.ushrL p0 (1 : Int32)) &&& (6148914691236517205 : Int64))) &&& (3689348814741910323 : Int64)) + ((XT.ushrL (p0 - ((XT.ushrL p0 (1 : Int32)) &&& (6148914691236517205 : Int64))) (2 : Int32)) &&& (3689348814741910323 : Int64))) + (XT.ushrL (((p0 - ((XT.ushrL p0 (1 : Int32)) &&& (6148914691236517205 : Int64))) &&& (3689348814741910323 : Int64)) + ((XT.ushrL (p0 - ((XT.ushrL p0 (1 : Int32)) &&& (6148914691236517205 : Int64))) (2 : Int32)) &&& (3689348814741910323 : Int64))) (4 : Int32))) &&& (1085102592571150095 : Int64)) (8 : Int32))) + (XT.ushrL ((((((p0 - ((XT.ushrL p0 (1 : Int32)) &&& (6148914691236517205 : Int64))) &&& (3689348814741910323 : Int64)) + ((XT.ushrL (p0 - ((XT.ushrL p0 (1 : Int32)) &&& (6148914691236517205 : Int64))) (2 : Int32)) &&& (3689348814741910323 : Int64))) + (XT.ushrL (((p0 - ((XT.ushrL p0 (1 : Int32)) &&& (6148914691236517205 : Int64))) &&& (3689348814741910323 : Int64)) + ((XT.ushrL (p0 - ((XT.ushrL p0 (1 : Int32)) &&& (6148914691236517205 : Int64))) (2 : Int32)) &&& (3689348814741910323 : Int64))) (4 : Int32))) &&& (1085102592571150095 : Int64)) + (XT.ushrL (((((p0 - ((XT.ushrL p0 (1 : Int32)) &&& (6148914691236517205 : Int64))) &&& (3689348814741910323 : Int64)) + ((XT.ushrL (p0 - ((XT.ushrL p0 (1 : Int32)) &&& (6148914691236517205 : Int64))) (2 : Int32)) &&& (3689348814741910323 : Int64))) + (XT.ushrL (((p0 - ((XT.ushrL p0 (1 : Int32)) &&& (6148914691236517205 : Int64))) &&& (3689348814741910323 : Int64)) + ((XT.ushrL (p0 - ((XT.ushrL p0 (1 : Int32)) &&& (6148914691236517205 : Int64))) (2 : Int32)) &&& (3689348814741910323 : Int64))) (4 : Int32))) &&& (1085102592571150095 : Int64)) (8 : Int32))) (16 : Int32))) + (XT.ushrL (((((((p0 - ((XT.ushrL p0 (1 : Int32)) &&& (6148914691236517205 : Int64))) &&& (3689348814741910323 : Int64)) + ((XT.ushrL (p0 - ((XT.ushrL p0 (1 : Int32)) &&& (6148914691236517205 : Int64))) (2 : Int32)) &&& (3689348814741910323 : Int64))) + (XT.ushrL (((p0 - ((XT.ushrL p0 (1 : Int32)) &&& (6148914691236517205 : Int64))) &&& (3689348814741910323 : Int64)) + ((XT.ushrL (p0 - ((XT.ushrL p0 (1 : Int32)) &&& (6148914691236517205 : Int64))) (2 : Int32)) &&& (3689348814741910323 : Int64))) (4 : Int32))) &&& (1085102592571150095 : Int64)) + (XT.ushrL (((((p0 - ((XT.ushrL p0 (1 : Int32)) &&& (6148914691236517205 : Int64))) &&& (3689348814741910323 : Int64)) + ((XT.ushrL (p0 - ((XT.ushrL p0 (1 : Int32)) &&& (6148914691236517205 : Int64))) (2 : Int32)) &&& (3689348814741910323 : Int64))) + (XT.ushrL (((p0 - ((XT.ushrL p0 (1 : Int32)) &&& (6148914691236517205 : Int64))) &&& (3689348814741910323 : Int64)) + ((XT.ushrL (p0 - ((XT.ushrL p0 (1 : Int32)) &&& (6148914691236517205 : Int64))) (2 : Int32)) &&& (3689348814741910323 : Int64))) (4 : Int32))) &&& (1085102592571150095 : Int64)) (8 : Int32))) + (XT.ushrL ((((((p0 - ((XT.ushrL p0 (1 : Int32)) &&& (6148914691236517205 : Int64))) &&& (3689348814741910323 : Int64)) + ((XT.ushrL (p0 - ((XT.ushrL p0 (1 : Int32)) &&& (6148914691236517205 : Int64))) (2 : Int32)) &&& (3689348814741910323 : Int64))) + (XT.ushrL (((p0 - ((XT.ushrL p0 (1 : Int32)) &&& (6148914691236517205 : Int64))) &&& (3689348814741910323 : Int64)) + ((XT.ushrL (p0 - ((XT.ushrL p0 (1 : Int32)) &&& (6148914691236517205 : Int64))) (2 : Int32)) &&& (3689348814741910323 : Int64))) (4 : Int32))) &&& (1085102592571150095 : Int64)) + (XT.ushrL (((((p0 - ((XT.ushrL p0 (1 : Int32)) &&& (6148914691236517205 : Int64))) &&& (3689348814741910323 : Int64)) + ((XT.ushrL (p0 - ((XT.ushrL p0 (1 : Int32)) &&& (6148914691236517205 : Int64))) (2 : Int32)) &&& (3689348814741910323 : Int64))) + (XT.ushrL (((p0 - ((XT.ushrL p0 (1 : Int32)) &&& (6148914691236517205 : Int64))) &&& (3689348814741910323 : Int64)) + ((XT.ushrL (p0 - ((XT.ushrL p0 (1 : Int32)) &&& (6148914691236517205 : Int64))) (2 : Int32)) &&& (3689348814741910323 : Int64))) (4 : Int32))) &&& (1085102592571150095 : Int64)) (8 : Int32))) (16 : Int32))) (32 : Int32)))).toInt32) &&& (127 : Int32))
set_option maxRecDepth 65536 in
set_option maxHeartbeats 40000000 in
theorem rm13 (l : Launch) (Z : State) (a0 : Array Value) (hw : ∀ d ∈ tables_1, d.before a0 Z = true) (p0 : Int64) (h0 : Heap) (Z0 : Ext Z.heap h0) :
    MetN l Z (⟨"java/lang/Long", "bitCount", "(J)I"⟩ : MethodName) jdk_35_method_50_code 2 (some .int) [] ({ frames := 0, cells := 0, slots := 0, locals := 0 } : Room) #[(.long p0)] h0 (fun v h => v = some (.int (f_bc p0)) ∧ h = h0) := by
  refine metN (by first | exact plainFor_of_name (by first | (simp [plainName, overriddenIn]; done) | decide +kernel) | decide +kernel) Z0 (Ls := #[.val (.long p0), .second]) (fun m => by first | (simp [entryFrame, mkF, argsToLocals, Value.category]; done) | rfl) ?_
  intro p e s m below meth c T0 hx hby hml hret hlk hown hnm hZ N0
  refine Ends.go (f' := (mkF m 1 #[.val (.long p0), .second] [(.long p0)])) (fun t k => XT.lloadN N0.here hx rfl (hb hby d13_0) rfl k) ?_
  refine Ends.go (f' := (mkF m 2 #[.val (.long p0), .second] [(.long p0), (.long p0)])) (fun t k => XT.lloadN N0.here hx rfl (hb hby d13_1) rfl k) ?_
  refine Ends.go (f' := (mkF m 3 #[.val (.long p0), .second] [(.int (1 : Int32)), (.long p0), (.long p0)])) (fun t k => XS.iconst N0.here hx rfl (hb hby d13_2) k) ?_
  refine Ends.go (f' := (mkF m 4 #[.val (.long p0), .second] [(.long (XT.ushrL p0 (1 : Int32))), (.long p0)])) (fun t k => XT.lushr N0.here hx rfl (hb hby d13_3) rfl k) ?_
  refine gLdcJ N0 hx hZ hown (hw _ (List.mem_of_getElem? (i := 71) rfl)) (hb hby d13_4) ?_
  show Ends p e below _ T0 (mkF m 7 #[.val (.long p0), .second] [(.long (6148914691236517205 : Int64)), (.long (XT.ushrL p0 (1 : Int32))), (.long p0)])
  refine Ends.go (f' := (mkF m 8 #[.val (.long p0), .second] [(.long ((XT.ushrL p0 (1 : Int32)) &&& (6148914691236517205 : Int64))), (.long p0)])) (fun t k => XT.land N0.here hx rfl (hb hby d13_7) rfl k) ?_
  refine Ends.go (f' := (mkF m 9 #[.val (.long p0), .second] [(.long (p0 - ((XT.ushrL p0 (1 : Int32)) &&& (6148914691236517205 : Int64))))])) (fun t k => XT.lsub N0.here hx rfl (hb hby d13_8) rfl k) ?_
  refine Ends.go (f' := (mkF m 10 #[.val (.long (p0 - ((XT.ushrL p0 (1 : Int32)) &&& (6148914691236517205 : Int64)))), .second] [])) (fun t k => XT.lstoreN N0.here hx rfl (hb hby d13_9) rfl (l' := #[.val (.long (p0 - ((XT.ushrL p0 (1 : Int32)) &&& (6148914691236517205 : Int64)))), .second]) rfl k) ?_
  refine Ends.go (f' := (mkF m 11 #[.val (.long (p0 - ((XT.ushrL p0 (1 : Int32)) &&& (6148914691236517205 : Int64)))), .second] [(.long (p0 - ((XT.ushrL p0 (1 : Int32)) &&& (6148914691236517205 : Int64))))])) (fun t k => XT.lloadN N0.here hx rfl (hb hby d13_10) rfl k) ?_
  refine gLdcJ N0 hx hZ hown (hw _ (List.mem_of_getElem? (i := 72) rfl)) (hb hby d13_11) ?_
  show Ends p e below _ T0 (mkF m 14 #[.val (.long (p0 - ((XT.ushrL p0 (1 : Int32)) &&& (6148914691236517205 : Int64)))), .second] [(.long (3689348814741910323 : Int64)), (.long (p0 - ((XT.ushrL p0 (1 : Int32)) &&& (6148914691236517205 : Int64))))])
  refine Ends.go (f' := (mkF m 15 #[.val (.long (p0 - ((XT.ushrL p0 (1 : Int32)) &&& (6148914691236517205 : Int64)))), .second] [(.long ((p0 - ((XT.ushrL p0 (1 : Int32)) &&& (6148914691236517205 : Int64))) &&& (3689348814741910323 : Int64)))])) (fun t k => XT.land N0.here hx rfl (hb hby d13_14) rfl k) ?_
  refine Ends.go (f' := (mkF m 16 #[.val (.long (p0 - ((XT.ushrL p0 (1 : Int32)) &&& (6148914691236517205 : Int64)))), .second] [(.long (p0 - ((XT.ushrL p0 (1 : Int32)) &&& (6148914691236517205 : Int64)))), (.long ((p0 - ((XT.ushrL p0 (1 : Int32)) &&& (6148914691236517205 : Int64))) &&& (3689348814741910323 : Int64)))])) (fun t k => XT.lloadN N0.here hx rfl (hb hby d13_15) rfl k) ?_
  refine Ends.go (f' := (mkF m 17 #[.val (.long (p0 - ((XT.ushrL p0 (1 : Int32)) &&& (6148914691236517205 : Int64)))), .second] [(.int (2 : Int32)), (.long (p0 - ((XT.ushrL p0 (1 : Int32)) &&& (6148914691236517205 : Int64)))), (.long ((p0 - ((XT.ushrL p0 (1 : Int32)) &&& (6148914691236517205 : Int64))) &&& (3689348814741910323 : Int64)))])) (fun t k => XS.iconst N0.here hx rfl (hb hby d13_16) k) ?_
  refine Ends.go (f' := (mkF m 18 #[.val (.long (p0 - ((XT.ushrL p0 (1 : Int32)) &&& (6148914691236517205 : Int64)))), .second] [(.long (XT.ushrL (p0 - ((XT.ushrL p0 (1 : Int32)) &&& (6148914691236517205 : Int64))) (2 : Int32))), (.long ((p0 - ((XT.ushrL p0 (1 : Int32)) &&& (6148914691236517205 : Int64))) &&& (3689348814741910323 : Int64)))])) (fun t k => XT.lushr N0.here hx rfl (hb hby d13_17) rfl k) ?_
  refine gLdcJ N0 hx hZ hown (hw _ (List.mem_of_getElem? (i := 72) rfl)) (hb hby d13_18) ?_
  show Ends p e below _ T0 (mkF m 21 #[.val (.long (p0 - ((XT.ushrL p0 (1 : Int32)) &&& (6148914691236517205 : Int64)))), .second] [(.long (3689348814741910323 : Int64)), (.long (XT.ushrL (p0 - ((XT.ushrL p0 (1 : Int32)) &&& (6148914691236517205 : Int64))) (2 : Int32))), (.long ((p0 - ((XT.ushrL p0 (1 : Int32)) &&& (6148914691236517205 : Int64))) &&& (3689348814741910323 : Int64)))])
  refine Ends.go (f' := (mkF m 22 #[.val (.long (p0 - ((XT.ushrL p0 (1 : Int32)) &&& (6148914691236517205 : Int64)))), .second] [(.long ((XT.ushrL (p0 - ((XT.ushrL p0 (1 : Int32)) &&& (6148914691236517205 : Int64))) (2 : Int32)) &&& (3689348814741910323 : Int64))), (.long ((p0 - ((XT.ushrL p0 (1 : Int32)) &&& (6148914691236517205 : Int64))) &&& (3689348814741910323 : Int64)))])) (fun t k => XT.land N0.here hx rfl (hb hby d13_21) rfl k) ?_
  refine Ends.go (f' := (mkF m 23 #[.val (.long (p0 - ((XT.ushrL p0 (1 : Int32)) &&& (6148914691236517205 : Int64)))), .second] [(.long (((p0 - ((XT.ushrL p0 (1 : Int32)) &&& (6148914691236517205 : Int64))) &&& (3689348814741910323 : Int64)) + ((XT.ushrL (p0 - ((XT.ushrL p0 (1 : Int32)) &&& (6148914691236517205 : Int64))) (2 : Int32)) &&& (3689348814741910323 : Int64))))])) (fun t k => XT.ladd N0.here hx rfl (hb hby d13_22) rfl k) ?_
  refine Ends.go (f' := (mkF m 24 #[.val (.long (((p0 - ((XT.ushrL p0 (1 : Int32)) &&& (6148914691236517205 : Int64))) &&& (3689348814741910323 : Int64)) + ((XT.ushrL (p0 - ((XT.ushrL p0 (1 : Int32)) &&& (6148914691236517205 : Int64))) (2 : Int32)) &&& (3689348814741910323 : Int64)))), .second] [])) (fun t k => XT.lstoreN N0.here hx rfl (hb hby d13_23) rfl (l' := #[.val (.long (((p0 - ((XT.ushrL p0 (1 : Int32)) &&& (6148914691236517205 : Int64))) &&& (3689348814741910323 : Int64)) + ((XT.ushrL (p0 - ((XT.ushrL p0 (1 : Int32)) &&& (6148914691236517205 : Int64))) (2 : Int32)) &&& (3689348814741910323 : Int64)))), .second]) rfl k) ?_
  refine Ends.go (f' := (mkF m 25 #[.val (.long (((p0 - ((XT.ushrL p0 (1 : Int32)) &&& (6148914691236517205 : Int64))) &&& (3689348814741910323 : Int64)) + ((XT.ushrL (p0 - ((XT.ushrL p0 (1 : Int32)) &&& (6148914691236517205 : Int64))) (2 : Int32)) &&& (3689348814741910323 : Int64)))), .second] [(.long (((p0 - ((XT.ushrL p0 (1 : Int32)) &&& (6148914691236517205 : Int64))) &&& (3689348814741910323 : Int64)) + ((XT.ushrL (p0 - ((XT.ushrL p0 (1 : Int32)) &&& (6148914691236517205 : Int64))) (2 : Int32)) &&& (3689348814741910323 : Int64))))])) (fun t k => XT.lloadN N0.here hx rfl (hb hby d13_24) rfl k) ?_
  refine Ends.go (f' := (mkF m 26 #[.val (.long (((p0 - ((XT.ushrL p0 (1 : Int32)) &&& (6148914691236517205 : Int64))) &&& (3689348814741910323 : Int64)) + ((XT.ushrL (p0 - ((XT.ushrL p0 (1 : Int32)) &&& (6148914691236517205 : Int64))) (2 : Int32)) &&& (3689348814741910323 : Int64)))), .second] [(.long (((p0 - ((XT.ushrL p0 (1 : Int32)) &&& (6148914691236517205 : Int64))) &&& (3689348814741910323 : Int64)) + ((XT.ushrL (p0 - ((XT.ushrL p0 (1 : Int32)) &&& (6148914691236517205 : Int64))) (2 : Int32)) &&& (3689348814741910323 : Int64)))), (.long (((p0 - ((XT.ushrL p0 (1 : Int32)) &&& (6148914691236517205 : Int64))) &&& (3689348814741910323 : Int64)) + ((XT.ushrL (p0 - ((XT.ushrL p0 (1 : Int32)) &&& (6148914691236517205 : Int64))) (2 : Int32)) &&& (3689348814741910323 : Int64))))])) (fun t k => XT.lloadN N0.here hx rfl (hb hby d13_25) rfl k) ?_
  refine Ends.go (f' := (mkF m 27 #[.val (.long (((p0 - ((XT.ushrL p0 (1 : Int32)) &&& (6148914691236517205 : Int64))) &&& (3689348814741910323 : Int64)) + ((XT.ushrL (p0 - ((XT.ushrL p0 (1 : Int32)) &&& (6148914691236517205 : Int64))) (2 : Int32)) &&& (3689348814741910323 : Int64)))), .second] [(.int (4 : Int32)), (.long (((p0 - ((XT.ushrL p0 (1 : Int32)) &&& (6148914691236517205 : Int64))) &&& (3689348814741910323 : Int64)) + ((XT.ushrL (p0 - ((XT.ushrL p0 (1 : Int32)) &&& (6148914691236517205 : Int64))) (2 : Int32)) &&& (3689348814741910323 : Int64)))), (.long (((p0 - ((XT.ushrL p0 (1 : Int32)) &&& (6148914691236517205 : Int64))) &&& (3689348814741910323 : Int64)) + ((XT.ushrL (p0 - ((XT.ushrL p0 (1 : Int32)) &&& (6148914691236517205 : Int64))) (2 : Int32)) &&& (3689348814741910323 : Int64))))])) (fun t k => XS.iconst N0.here hx rfl (hb hby d13_26) k) ?_
  refine Ends.go (f' := (mkF m 28 #[.val (.long (((p0 - ((XT.ushrL p0 (1 : Int32)) &&& (6148914691236517205 : Int64))) &&& (3689348814741910323 : Int64)) + ((XT.ushrL (p0 - ((XT.ushrL p0 (1 : Int32)) &&& (6148914691236517205 : Int64))) (2 : Int32)) &&& (3689348814741910323 : Int64)))), .second] [(.long (XT.ushrL (((p0 - ((XT.ushrL p0 (1 : Int32)) &&& (6148914691236517205 : Int64))) &&& (3689348814741910323 : Int64)) + ((XT.ushrL (p0 - ((XT.ushrL p0 (1 : Int32)) &&& (6148914691236517205 : Int64))) (2 : Int32)) &&& (3689348814741910323 : Int64))) (4 : Int32))), (.long (((p0 - ((XT.ushrL p0 (1 : Int32)) &&& (6148914691236517205 : Int64))) &&& (3689348814741910323 : Int64)) + ((XT.ushrL (p0 - ((XT.ushrL p0 (1 : Int32)) &&& (6148914691236517205 : Int64))) (2 : Int32)) &&& (3689348814741910323 : Int64))))])) (fun t k => XT.lushr N0.here hx rfl (hb hby d13_27) rfl k) ?_
  refine Ends.go (f' := (mkF m 29 #[.val (.long (((p0 - ((XT.ushrL p0 (1 : Int32)) &&& (6148914691236517205 : Int64))) &&& (3689348814741910323 : Int64)) + ((XT.ushrL (p0 - ((XT.ushrL p0 (1 : Int32)) &&& (6148914691236517205 : Int64))) (2 : Int32)) &&& (3689348814741910323 : Int64)))), .second] [(.long ((((p0 - ((XT.ushrL p0 (1 : Int32)) &&& (6148914691236517205 : Int64))) &&& (3689348814741910323 : Int64)) + ((XT.ushrL (p0 - ((XT.ushrL p0 (1 : Int32)) &&& (6148914691236517205 : Int64))) (2 : Int32)) &&& (3689348814741910323 : Int64))) + (XT.ushrL (((p0 - ((XT.ushrL p0 (1 : Int32)) &&& (6148914691236517205 : Int64))) &&& (3689348814741910323 : Int64)) + ((XT.ushrL (p0 - ((XT.ushrL p0 (1 : Int32)) &&& (6148914691236517205 : Int64))) (2 : Int32)) &&& (3689348814741910323 : Int64))) (4 : Int32))))])) (fun t k => XT.ladd N0.here hx rfl (hb hby d13_28) rfl k) ?_
  refine gLdcJ N0 hx hZ hown (hw _ (List.mem_of_getElem? (i := 73) rfl)) (hb hby d13_29) ?_
  show Ends p e below _ T0 (mkF m 32 #[.val (.long (((p0 - ((XT.ushrL p0 (1 : Int32)) &&& (6148914691236517205 : Int64))) &&& (3689348814741910323 : Int64)) + ((XT.ushrL (p0 - ((XT.ushrL p0 (1 : Int32)) &&& (6148914691236517205 : Int64))) (2 : Int32)) &&& (3689348814741910323 : Int64)))), .second] [(.long (1085102592571150095 : Int64)), (.long ((((p0 - ((XT.ushrL p0 (1 : Int32)) &&& (6148914691236517205 : Int64))) &&& (3689348814741910323 : Int64)) + ((XT.ushrL (p0 - ((XT.ushrL p0 (1 : Int32)) &&& (6148914691236517205 : Int64))) (2 : Int32)) &&& (3689348814741910323 : Int64))) + (XT.ushrL (((p0 - ((XT.ushrL p0 (1 : Int32)) &&& (6148914691236517205 : Int64))) &&& (3689348814741910323 : Int64)) + ((XT.ushrL (p0 - ((XT.ushrL p0 (1 : Int32)) &&& (6148914691236517205 : Int64))) (2 : Int32)) &&& (3689348814741910323 : Int64))) (4 : Int32))))])
  refine Ends.go (f' := (mkF m 33 #[.val (.long (((p0 - ((XT.ushrL p0 (1 : Int32)) &&& (6148914691236517205 : Int64))) &&& (3689348814741910323 : Int64)) + ((XT.ushrL (p0 - ((XT.ushrL p0 (1 : Int32)) &&& (6148914691236517205 : Int64))) (2 : Int32)) &&& (3689348814741910323 : Int64)))), .second] [(.long (((((p0 - ((XT.ushrL p0 (1 : Int32)) &&& (6148914691236517205 : Int64))) &&& (3689348814741910323 : Int64)) + ((XT.ushrL (p0 - ((XT.ushrL p0 (1 : Int32)) &&& (6148914691236517205 : Int64))) (2 : Int32)) &&& (3689348814741910323 : Int64))) + (XT.ushrL (((p0 - ((XT.ushrL p0 (1 : Int32)) &&& (6148914691236517205 : Int64))) &&& (3689348814741910323 : Int64)) + ((XT.ushrL (p0 - ((XT.ushrL p0 (1 : Int32)) &&& (6148914691236517205 : Int64))) (2 : Int32)) &&& (3689348814741910323 : Int64))) (4 : Int32))) &&& (1085102592571150095 : Int64)))])) (fun t k => XT.land N0.here hx rfl (hb hby d13_32) rfl k) ?_
  refine Ends.go (f' := (mkF m 34 #[.val (.long (((((p0 - ((XT.ushrL p0 (1 : Int32)) &&& (6148914691236517205 : Int64))) &&& (3689348814741910323 : Int64)) + ((XT.ushrL (p0 - ((XT.ushrL p0 (1 : Int32)) &&& (6148914691236517205 : Int64))) (2 : Int32)) &&& (3689348814741910323 : Int64))) + (XT.ushrL (((p0 - ((XT.ushrL p0 (1 : Int32)) &&& (6148914691236517205 : Int64))) &&& (3689348814741910323 : Int64)) + ((XT.ushrL (p0 - ((XT.ushrL p0 (1 : Int32)) &&& (6148914691236517205 : Int64))) (2 : Int32)) &&& (3689348814741910323 : Int64))) (4 : Int32))) &&& (1085102592571150095 : Int64))), .second] [])) (fun t k => XT.lstoreN N0.here hx rfl (hb hby d13_33) rfl (l' := #[.val (.long (((((p0 - ((XT.ushrL p0 (1 : Int32)) &&& (6148914691236517205 : Int64))) &&& (3689348814741910323 : Int64)) + ((XT.ushrL (p0 - ((XT.ushrL p0 (1 : Int32)) &&& (6148914691236517205 : Int64))) (2 : Int32)) &&& (3689348814741910323 : Int64))) + (XT.ushrL (((p0 - ((XT.ushrL p0 (1 : Int32)) &&& (6148914691236517205 : Int64))) &&& (3689348814741910323 : Int64)) + ((XT.ushrL (p0 - ((XT.ushrL p0 (1 : Int32)) &&& (6148914691236517205 : Int64))) (2 : Int32)) &&& (3689348814741910323 : Int64))) (4 : Int32))) &&& (1085102592571150095 : Int64))), .second]) rfl k) ?_
  refine Ends.go (f' := (mkF m 35 #[.val (.long (((((p0 - ((XT.ushrL p0 (1 : Int32)) &&& (6148914691236517205 : Int64))) &&& (3689348814741910323 : Int64)) + ((XT.ushrL (p0 - ((XT.ushrL p0 (1 : Int32)) &&& (6148914691236517205 : Int64))) (2 : Int32)) &&& (3689348814741910323 : Int64))) + (XT.ushrL (((p0 - ((XT.ushrL p0 (1 : Int32)) &&& (6148914691236517205 : Int64))) &&& (3689348814741910323 : Int64)) + ((XT.ushrL (p0 - ((XT.ushrL p0 (1 : Int32)) &&& (6148914691236517205 : Int64))) (2 : Int32)) &&& (3689348814741910323 : Int64))) (4 : Int32))) &&& (1085102592571150095 : Int64))), .second] [(.long (((((p0 - ((XT.ushrL p0 (1 : Int32)) &&& (6148914691236517205 : Int64))) &&& (3689348814741910323 : Int64)) + ((XT.ushrL (p0 - ((XT.ushrL p0 (1 : Int32)) &&& (6148914691236517205 : Int64))) (2 : Int32)) &&& (3689348814741910323 : Int64))) + (XT.ushrL (((p0 - ((XT.ushrL p0 (1 : Int32)) &&& (6148914691236517205 : Int64))) &&& (3689348814741910323 : Int64)) + ((XT.ushrL (p0 - ((XT.ushrL p0 (1 : Int32)) &&& (6148914691236517205 : Int64))) (2 : Int32)) &&& (3689348814741910323 : Int64))) (4 : Int32))) &&& (1085102592571150095 : Int64)))])) (fun t k => XT.lloadN N0.here hx rfl (hb hby d13_34) rfl k) ?_
  refine Ends.go (f' := (mkF m 36 #[.val (.long (((((p0 - ((XT.ushrL p0 (1 : Int32)) &&& (6148914691236517205 : Int64))) &&& (3689348814741910323 : Int64)) + ((XT.ushrL (p0 - ((XT.ushrL p0 (1 : Int32)) &&& (6148914691236517205 : Int64))) (2 : Int32)) &&& (3689348814741910323 : Int64))) + (XT.ushrL (((p0 - ((XT.ushrL p0 (1 : Int32)) &&& (6148914691236517205 : Int64))) &&& (3689348814741910323 : Int64)) + ((XT.ushrL (p0 - ((XT.ushrL p0 (1 : Int32)) &&& (6148914691236517205 : Int64))) (2 : Int32)) &&& (3689348814741910323 : Int64))) (4 : Int32))) &&& (1085102592571150095 : Int64))), .second] [(.long (((((p0 - ((XT.ushrL p0 (1 : Int32)) &&& (6148914691236517205 : Int64))) &&& (3689348814741910323 : Int64)) + ((XT.ushrL (p0 - ((XT.ushrL p0 (1 : Int32)) &&& (6148914691236517205 : Int64))) (2 : Int32)) &&& (3689348814741910323 : Int64))) + (XT.ushrL (((p0 - ((XT.ushrL p0 (1 : Int32)) &&& (6148914691236517205 : Int64))) &&& (3689348814741910323 : Int64)) + ((XT.ushrL (p0 - ((XT.ushrL p0 (1 : Int32)) &&& (6148914691236517205 : Int64))) (2 : Int32)) &&& (3689348814741910323 : Int64))) (4 : Int32))) &&& (1085102592571150095 : Int64))), (.long (((((p0 - ((XT.ushrL p0 (1 : Int32)) &&& (6148914691236517205 : Int64))) &&& (3689348814741910323 : Int64)) + ((XT.ushrL (p0 - ((XT.ushrL p0 (1 : Int32)) &&& (6148914691236517205 : Int64))) (2 : Int32)) &&& (3689348814741910323 : Int64))) + (XT.ushrL (((p0 - ((XT.ushrL p0 (1 : Int32)) &&& (6148914691236517205 : Int64))) &&& (3689348814741910323 : Int64)) + ((XT.ushrL (p0 - ((XT.ushrL p0 (1 : Int32)) &&& (6148914691236517205 : Int64))) (2 : Int32)) &&& (3689348814741910323 : Int64))) (4 : Int32))) &&& (1085102592571150095 : Int64)))])) (fun t k => XT.lloadN N0.here hx rfl (hb hby d13_35) rfl k) ?_
  refine Ends.go (f' := (mkF m 38 #[.val (.long (((((p0 - ((XT.ushrL p0 (1 : Int32)) &&& (6148914691236517205 : Int64))) &&& (3689348814741910323 : Int64)) + ((XT.ushrL (p0 - ((XT.ushrL p0 (1 : Int32)) &&& (6148914691236517205 : Int64))) (2 : Int32)) &&& (3689348814741910323 : Int64))) + (XT.ushrL (((p0 - ((XT.ushrL p0 (1 : Int32)) &&& (6148914691236517205 : Int64))) &&& (3689348814741910323 : Int64)) + ((XT.ushrL (p0 - ((XT.ushrL p0 (1 : Int32)) &&& (6148914691236517205 : Int64))) (2 : Int32)) &&& (3689348814741910323 : Int64))) (4 : Int32))) &&& (1085102592571150095 : Int64))), .second] [(.int (8 : Int32)), (.long (((((p0 - ((XT.ushrL p0 (1 : Int32)) &&& (6148914691236517205 : Int64))) &&& (3689348814741910323 : Int64)) + ((XT.ushrL (p0 - ((XT.ushrL p0 (1 : Int32)) &&& (6148914691236517205 : Int64))) (2 : Int32)) &&& (3689348814741910323 : Int64))) + (XT.ushrL (((p0 - ((XT.ushrL p0 (1 : Int32)) &&& (6148914691236517205 : Int64))) &&& (3689348814741910323 : Int64)) + ((XT.ushrL (p0 - ((XT.ushrL p0 (1 : Int32)) &&& (6148914691236517205 : Int64))) (2 : Int32)) &&& (3689348814741910323 : Int64))) (4 : Int32))) &&& (1085102592571150095 : Int64))), (.long (((((p0 - ((XT.ushrL p0 (1 : Int32)) &&& (6148914691236517205 : Int64))) &&& (3689348814741910323 : Int64)) + ((XT.ushrL (p0 - ((XT.ushrL p0 (1 : Int32)) &&& (6148914691236517205 : Int64))) (2 : Int32)) &&& (3689348814741910323 : Int64))) + (XT.ushrL (((p0 - ((XT.ushrL p0 (1 : Int32)) &&& (6148914691236517205 : Int64))) &&& (3689348814741910323 : Int64)) + ((XT.ushrL (p0 - ((XT.ushrL p0 (1 : Int32)) &&& (6148914691236517205 : Int64))) (2 : Int32)) &&& (3689348814741910323 : Int64))) (4 : Int32))) &&& (1085102592571150095 : Int64)))])) (fun t k => XS.bipush N0.here hx rfl (hb hby d13_36) k) ?_
  refine Ends.go (f' := (mkF m 39 #[.val (.long (((((p0 - ((XT.ushrL p0 (1 : Int32)) &&& (6148914691236517205 : Int64))) &&& (3689348814741910323 : Int64)) + ((XT.ushrL (p0 - ((XT.ushrL p0 (1 : Int32)) &&& (6148914691236517205 : Int64))) (2 : Int32)) &&& (3689348814741910323 : Int64))) + (XT.ushrL (((p0 - ((XT.ushrL p0 (1 : Int32)) &&& (6148914691236517205 : Int64))) &&& (3689348814741910323 : Int64)) + ((XT.ushrL (p0 - ((XT.ushrL p0 (1 : Int32)) &&& (6148914691236517205 : Int64))) (2 : Int32)) &&& (3689348814741910323 : Int64))) (4 : Int32))) &&& (1085102592571150095 : Int64))), .second] [(.long (XT.ushrL (((((p0 - ((XT.ushrL p0 (1 : Int32)) &&& (6148914691236517205 : Int64))) &&& (3689348814741910323 : Int64)) + ((XT.ushrL (p0 - ((XT.ushrL p0 (1 : Int32)) &&& (6148914691236517205 : Int64))) (2 : Int32)) &&& (3689348814741910323 : Int64))) + (XT.ushrL (((p0 - ((XT.ushrL p0 (1 : Int32)) &&& (6148914691236517205 : Int64))) &&& (3689348814741910323 : Int64)) + ((XT.ushrL (p0 - ((XT.ushrL p0 (1 : Int32)) &&& (6148914691236517205 : Int64))) (2 : Int32)) &&& (3689348814741910323 : Int64))) (4 : Int32))) &&& (1085102592571150095 : Int64)) (8 : Int32))), (.long (((((p0 - ((XT.ushrL p0 (1 : Int32)) &&& (6148914691236517205 : Int64))) &&& (3689348814741910323 : Int64)) + ((XT.ushrL (p0 - ((XT.ushrL p0 (1 : Int32)) &&& (6148914691236517205 : Int64))) (2 : Int32)) &&& (3689348814741910323 : Int64))) + (XT.ushrL (((p0 - ((XT.ushrL p0 (1 : Int32)) &&& (6148914691236517205 : Int64))) &&& (3689348814741910323 : Int64)) + ((XT.ushrL (p0 - ((XT.ushrL p0 (1 : Int32)) &&& (6148914691236517205 : Int64))) (2 : Int32)) &&& (3689348814741910323 : Int64))) (4 : Int32))) &&& (1085102592571150095 : Int64)))])) (fun t k => XT.lushr N0.here hx rfl (hb hby d13_38) rfl k) ?_
  refine Ends.go (f' := (mkF m 40 #[.val (.long (((((p0 - ((XT.ushrL p0 (1 : Int32)) &&& (6148914691236517205 : Int64))) &&& (3689348814741910323 : Int64)) + ((XT.ushrL (p0 - ((XT.ushrL p0 (1 : Int32)) &&& (6148914691236517205 : Int64))) (2 : Int32)) &&& (3689348814741910323 : Int64))) + (XT.ushrL (((p0 - ((XT.ushrL p0 (1 : Int32)) &&& (6148914691236517205 : Int64))) &&& (3689348814741910323 : Int64)) + ((XT.ushrL (p0 - ((XT.ushrL p0 (1 : Int32)) &&& (6148914691236517205 : Int64))) (2 : Int32)) &&& (3689348814741910323 : Int64))) (4 : Int32))) &&& (1085102592571150095 : Int64))), .second] [(.long ((((((p0 - ((XT.ushrL p0 (1 : Int32)) &&& (6148914691236517205 : Int64))) &&& (3689348814741910323 : Int64)) + ((XT.ushrL (p0 - ((XT.ushrL p0 (1 : Int32)) &&& (6148914691236517205 : Int64))) (2 : Int32)) &&& (3689348814741910323 : Int64))) + (XT.ushrL (((p0 - ((XT.ushrL p0 (1 : Int32)) &&& (6148914691236517205 : Int64))) &&& (3689348814741910323 : Int64)) + ((XT.ushrL (p0 - ((XT.ushrL p0 (1 : Int32)) &&& (6148914691236517205 : Int64))) (2 : Int32)) &&& (3689348814741910323 : Int64))) (4 : Int32))) &&& (1085102592571150095 : Int64)) + (XT.ushrL (((((p0 - ((XT.ushrL p0 (1 : Int32)) &&& (6148914691236517205 : Int64))) &&& (3689348814741910323 : Int64)) + ((XT.ushrL (p0 - ((XT.ushrL p0 (1 : Int32)) &&& (6148914691236517205 : Int64))) (2 : Int32)) &&& (3689348814741910323 : Int64))) + (XT.ushrL (((p0 - ((XT.ushrL p0 (1 : Int32)) &&& (6148914691236517205 : Int64))) &&& (3689348814741910323 : Int64)) + ((XT.ushrL (p0 - ((XT.ushrL p0 (1 : Int32)) &&& (6148914691236517205 : Int64))) (2 : Int32)) &&& (3689348814741910323 : Int64))) (4 : Int32))) &&& (1085102592571150095 : Int64)) (8 : Int32))))])) (fun t k => XT.ladd N0.here hx rfl (hb hby d13_39) rfl k) ?_
  refine Ends.go (f' := (mkF m 41 #[.val (.long ((((((p0 - ((XT.ushrL p0 (1 : Int32)) &&& (6148914691236517205 : Int64))) &&& (3689348814741910323 : Int64)) + ((XT.ushrL (p0 - ((XT.ushrL p0 (1 : Int32)) &&& (6148914691236517205 : Int64))) (2 : Int32)) &&& (3689348814741910323 : Int64))) + (XT.ushrL (((p0 - ((XT.ushrL p0 (1 : Int32)) &&& (6148914691236517205 : Int64))) &&& (3689348814741910323 : Int64)) + ((XT.ushrL (p0 - ((XT.ushrL p0 (1 : Int32)) &&& (6148914691236517205 : Int64))) (2 : Int32)) &&& (3689348814741910323 : Int64))) (4 : Int32))) &&& (1085102592571150095 : Int64)) + (XT.ushrL (((((p0 - ((XT.ushrL p0 (1 : Int32)) &&& (6148914691236517205 : Int64))) &&& (3689348814741910323 : Int64)) + ((XT.ushrL (p0 - ((XT.ushrL p0 (1 : Int32)) &&& (6148914691236517205 : Int64))) (2 : Int32)) &&& (3689348814741910323 : Int64))) + (XT.ushrL (((p0 - ((XT.ushrL p0 (1 : Int32)) &&& (6148914691236517205 : Int64))) &&& (3689348814741910323 : Int64)) + ((XT.ushrL (p0 - ((XT.ushrL p0 (1 : Int32)) &&& (6148914691236517205 : Int64))) (2 : Int32)) &&& (3689348814741910323 : Int64))) (4 : Int32))) &&& (1085102592571150095 : Int64)) (8 : Int32)))), .second] [])) (fun t k => XT.lstoreN N0.here hx rfl (hb hby d13_40) rfl (l' := #[.val (.long ((((((p0 - ((XT.ushrL p0 (1 : Int32)) &&& (6148914691236517205 : Int64))) &&& (3689348814741910323 : Int64)) + ((XT.ushrL (p0 - ((XT.ushrL p0 (1 : Int32)) &&& (6148914691236517205 : Int64))) (2 : Int32)) &&& (3689348814741910323 : Int64))) + (XT.ushrL (((p0 - ((XT.ushrL p0 (1 : Int32)) &&& (6148914691236517205 : Int64))) &&& (3689348814741910323 : Int64)) + ((XT.ushrL (p0 - ((XT.ushrL p0 (1 : Int32)) &&& (6148914691236517205 : Int64))) (2 : Int32)) &&& (3689348814741910323 : Int64))) (4 : Int32))) &&& (1085102592571150095 : Int64)) + (XT.ushrL (((((p0 - ((XT.ushrL p0 (1 : Int32)) &&& (6148914691236517205 : Int64))) &&& (3689348814741910323 : Int64)) + ((XT.ushrL (p0 - ((XT.ushrL p0 (1 : Int32)) &&& (6148914691236517205 : Int64))) (2 : Int32)) &&& (3689348814741910323 : Int64))) + (XT.ushrL (((p0 - ((XT.ushrL p0 (1 : Int32)) &&& (6148914691236517205 : Int64))) &&& (3689348814741910323 : Int64)) + ((XT.ushrL (p0 - ((XT.ushrL p0 (1 : Int32)) &&& (6148914691236517205 : Int64))) (2 : Int32)) &&& (3689348814741910323 : Int64))) (4 : Int32))) &&& (1085102592571150095 : Int64)) (8 : Int32)))), .second]) rfl k) ?_
  refine Ends.go (f' := (mkF m 42 #[.val (.long ((((((p0 - ((XT.ushrL p0 (1 : Int32)) &&& (6148914691236517205 : Int64))) &&& (3689348814741910323 : Int64)) + ((XT.ushrL (p0 - ((XT.ushrL p0 (1 : Int32)) &&& (6148914691236517205 : Int64))) (2 : Int32)) &&& (3689348814741910323 : Int64))) + (XT.ushrL (((p0 - ((XT.ushrL p0 (1 : Int32)) &&& (6148914691236517205 : Int64))) &&& (3689348814741910323 : Int64)) + ((XT.ushrL (p0 - ((XT.ushrL p0 (1 : Int32)) &&& (6148914691236517205 : Int64))) (2 : Int32)) &&& (3689348814741910323 : Int64))) (4 : Int32))) &&& (1085102592571150095 : Int64)) + (XT.ushrL (((((p0 - ((XT.ushrL p0 (1 : Int32)) &&& (6148914691236517205 : Int64))) &&& (3689348814741910323 : Int64)) + ((XT.ushrL (p0 - ((XT.ushrL p0 (1 : Int32)) &&& (6148914691236517205 : Int64))) (2 : Int32)) &&& (3689348814741910323 : Int64))) + (XT.ushrL (((p0 - ((XT.ushrL p0 (1 : Int32)) &&& (6148914691236517205 : Int64))) &&& (3689348814741910323 : Int64)) + ((XT.ushrL (p0 - ((XT.ushrL p0 (1 : Int32)) &&& (6148914691236517205 : Int64))) (2 : Int32)) &&& (3689348814741910323 : Int64))) (4 : Int32))) &&& (1085102592571150095 : Int64)) (8 : Int32)))), .second] [(.long ((((((p0 - ((XT.ushrL p0 (1 : Int32)) &&& (6148914691236517205 : Int64))) &&& (3689348814741910323 : Int64)) + ((XT.ushrL (p0 - ((XT.ushrL p0 (1 : Int32)) &&& (6148914691236517205 : Int64))) (2 : Int32)) &&& (3689348814741910323 : Int64))) + (XT.ushrL (((p0 - ((XT.ushrL p0 (1 : Int32)) &&& (6148914691236517205 : Int64))) &&& (3689348814741910323 : Int64)) + ((XT.ushrL (p0 - ((XT.ushrL p0 (1 : Int32)) &&& (6148914691236517205 : Int64))) (2 : Int32)) &&& (3689348814741910323 : Int64))) (4 : Int32))) &&& (1085102592571150095 : Int64)) + (XT.ushrL (((((p0 - ((XT.ushrL p0 (1 : Int32)) &&& (6148914691236517205 : Int64))) &&& (3689348814741910323 : Int64)) + ((XT.ushrL (p0 - ((XT.ushrL p0 (1 : Int32)) &&& (6148914691236517205 : Int64))) (2 : Int32)) &&& (3689348814741910323 : Int64))) + (XT.ushrL (((p0 - ((XT.ushrL p0 (1 : Int32)) &&& (6148914691236517205 : Int64))) &&& (3689348814741910323 : Int64)) + ((XT.ushrL (p0 - ((XT.ushrL p0 (1 : Int32)) &&& (6148914691236517205 : Int64))) (2 : Int32)) &&& (3689348814741910323 : Int64))) (4 : Int32))) &&& (1085102592571150095 : Int64)) (8 : Int32))))])) (fun t k => XT.lloadN N0.here hx rfl (hb hby d13_41) rfl k) ?_
  refine Ends.go (f' := (mkF m 43 #[.val (.long ((((((p0 - ((XT.ushrL p0 (1 : Int32)) &&& (6148914691236517205 : Int64))) &&& (3689348814741910323 : Int64)) + ((XT.ushrL (p0 - ((XT.ushrL p0 (1 : Int32)) &&& (6148914691236517205 : Int64))) (2 : Int32)) &&& (3689348814741910323 : Int64))) + (XT.ushrL (((p0 - ((XT.ushrL p0 (1 : Int32)) &&& (6148914691236517205 : Int64))) &&& (3689348814741910323 : Int64)) + ((XT.ushrL (p0 - ((XT.ushrL p0 (1 : Int32)) &&& (6148914691236517205 : Int64))) (2 : Int32)) &&& (3689348814741910323 : Int64))) (4 : Int32))) &&& (1085102592571150095 : Int64)) + (XT.ushrL (((((p0 - ((XT.ushrL p0 (1 : Int32)) &&& (6148914691236517205 : Int64))) &&& (3689348814741910323 : Int64)) + ((XT.ushrL (p0 - ((XT.ushrL p0 (1 : Int32)) &&& (6148914691236517205 : Int64))) (2 : Int32)) &&& (3689348814741910323 : Int64))) + (XT.ushrL (((p0 - ((XT.ushrL p0 (1 : Int32)) &&& (6148914691236517205 : Int64))) &&& (3689348814741910323 : Int64)) + ((XT.ushrL (p0 - ((XT.ushrL p0 (1 : Int32)) &&& (6148914691236517205 : Int64))) (2 : Int32)) &&& (3689348814741910323 : Int64))) (4 : Int32))) &&& (1085102592571150095 : Int64)) (8 : Int32)))), .second] [(.long ((((((p0 - ((XT.ushrL p0 (1 : Int32)) &&& (6148914691236517205 : Int64))) &&& (3689348814741910323 : Int64)) + ((XT.ushrL (p0 - ((XT.ushrL p0 (1 : Int32)) &&& (6148914691236517205 : Int64))) (2 : Int32)) &&& (3689348814741910323 : Int64))) + (XT.ushrL (((p0 - ((XT.ushrL p0 (1 : Int32)) &&& (6148914691236517205 : Int64))) &&& (3689348814741910323 : Int64)) + ((XT.ushrL (p0 - ((XT.ushrL p0 (1 : Int32)) &&& (6148914691236517205 : Int64))) (2 : Int32)) &&& (3689348814741910323 : Int64))) (4 : Int32))) &&& (1085102592571150095 : Int64)) + (XT.ushrL (((((p0 - ((XT.ushrL p0 (1 : Int32)) &&& (6148914691236517205 : Int64))) &&& (3689348814741910323 : Int64)) + ((XT.ushrL (p0 - ((XT.ushrL p0 (1 : Int32)) &&& (6148914691236517205 : Int64))) (2 : Int32)) &&& (3689348814741910323 : Int64))) + (XT.ushrL (((p0 - ((XT.ushrL p0 (1 : Int32)) &&& (6148914691236517205 : Int64))) &&& (3689348814741910323 : Int64)) + ((XT.ushrL (p0 - ((XT.ushrL p0 (1 : Int32)) &&& (6148914691236517205 : Int64))) (2 : Int32)) &&& (3689348814741910323 : Int64))) (4 : Int32))) &&& (1085102592571150095 : Int64)) (8 : Int32)))), (.long ((((((p0 - ((XT.ushrL p0 (1 : Int32)) &&& (6148914691236517205 : Int64))) &&& (3689348814741910323 : Int64)) + ((XT.ushrL (p0 - ((XT.ushrL p0 (1 : Int32)) &&& (6148914691236517205 : Int64))) (2 : Int32)) &&& (3689348814741910323 : Int64))) + (XT.ushrL (((p0 - ((XT.ushrL p0 (1 : Int32)) &&& (6148914691236517205 : Int64))) &&& (3689348814741910323 : Int64)) + ((XT.ushrL (p0 - ((XT.ushrL p0 (1 : Int32)) &&& (6148914691236517205 : Int64))) (2 : Int32)) &&& (3689348814741910323 : Int64))) (4 : Int32))) &&& (1085102592571150095 : Int64)) + (XT.ushrL (((((p0 - ((XT.ushrL p0 (1 : Int32)) &&& (6148914691236517205 : Int64))) &&& (3689348814741910323 : Int64)) + ((XT.ushrL (p0 - ((XT.ushrL p0 (1 : Int32)) &&& (6148914691236517205 : Int64))) (2 : Int32)) &&& (3689348814741910323 : Int64))) + (XT.ushrL (((p0 - ((XT.ushrL p0 (1 : Int32)) &&& (6148914691236517205 : Int64))) &&& (3689348814741910323 : Int64)) + ((XT.ushrL (p0 - ((XT.ushrL p0 (1 : Int32)) &&& (6148914691236517205 : Int64))) (2 : Int32)) &&& (3689348814741910323 : Int64))) (4 : Int32))) &&& (1085102592571150095 : Int64)) (8 : Int32))))])) (fun t k => XT.lloadN N0.here hx rfl (hb hby d13_42) rfl k) ?_
  refine Ends.go (f' := (mkF m 45 #[.val (.long ((((((p0 - ((XT.ushrL p0 (1 : Int32)) &&& (6148914691236517205 : Int64))) &&& (3689348814741910323 : Int64)) + ((XT.ushrL (p0 - ((XT.ushrL p0 (1 : Int32)) &&& (6148914691236517205 : Int64))) (2 : Int32)) &&& (3689348814741910323 : Int64))) + (XT.ushrL (((p0 - ((XT.ushrL p0 (1 : Int32)) &&& (6148914691236517205 : Int64))) &&& (3689348814741910323 : Int64)) + ((XT.ushrL (p0 - ((XT.ushrL p0 (1 : Int32)) &&& (6148914691236517205 : Int64))) (2 : Int32)) &&& (3689348814741910323 : Int64))) (4 : Int32))) &&& (1085102592571150095 : Int64)) + (XT.ushrL (((((p0 - ((XT.ushrL p0 (1 : Int32)) &&& (6148914691236517205 : Int64))) &&& (3689348814741910323 : Int64)) + ((XT.ushrL (p0 - ((XT.ushrL p0 (1 : Int32)) &&& (6148914691236517205 : Int64))) (2 : Int32)) &&& (3689348814741910323 : Int64))) + (XT.ushrL (((p0 - ((XT.ushrL p0 (1 : Int32)) &&& (6148914691236517205 : Int64))) &&& (3689348814741910323 : Int64)) + ((XT.ushrL (p0 - ((XT.ushrL p0 (1 : Int32)) &&& (6148914691236517205 : Int64))) (2 : Int32)) &&& (3689348814741910323 : Int64))) (4 : Int32))) &&& (1085102592571150095 : Int64)) (8 : Int32)))), .second] [(.int (16 : Int32)), (.long ((((((p0 - ((XT.ushrL p0 (1 : Int32)) &&& (6148914691236517205 : Int64))) &&& (3689348814741910323 : Int64)) + ((XT.ushrL (p0 - ((XT.ushrL p0 (1 : Int32)) &&& (6148914691236517205 : Int64))) (2 : Int32)) &&& (3689348814741910323 : Int64))) + (XT.ushrL (((p0 - ((XT.ushrL p0 (1 : Int32)) &&& (6148914691236517205 : Int64))) &&& (3689348814741910323 : Int64)) + ((XT.ushrL (p0 - ((XT.ushrL p0 (1 : Int32)) &&& (6148914691236517205 : Int64))) (2 : Int32)) &&& (3689348814741910323 : Int64))) (4 : Int32))) &&& (1085102592571150095 : Int64)) + (XT.ushrL (((((p0 - ((XT.ushrL p0 (1 : Int32)) &&& (6148914691236517205 : Int64))) &&& (3689348814741910323 : Int64)) + ((XT.ushrL (p0 - ((XT.ushrL p0 (1 : Int32)) &&& (6148914691236517205 : Int64))) (2 : Int32)) &&& (3689348814741910323 : Int64))) + (XT.ushrL (((p0 - ((XT.ushrL p0 (1 : Int32)) &&& (6148914691236517205 : Int64))) &&& (3689348814741910323 : Int64)) + ((XT.ushrL (p0 - ((XT.ushrL p0 (1 : Int32)) &&& (6148914691236517205 : Int64))) (2 : Int32)) &&& (3689348814741910323 : Int64))) (4 : Int32))) &&& (1085102592571150095 : Int64)) (8 : Int32)))), (.long ((((((p0 - ((XT.ushrL p0 (1 : Int32)) &&& (6148914691236517205 : Int64))) &&& (3689348814741910323 : Int64)) + ((XT.ushrL (p0 - ((XT.ushrL p0 (1 : Int32)) &&& (6148914691236517205 : Int64))) (2 : Int32)) &&& (3689348814741910323 : Int64))) + (XT.ushrL (((p0 - ((XT.ushrL p0 (1 : Int32)) &&& (6148914691236517205 : Int64))) &&& (3689348814741910323 : Int64)) + ((XT.ushrL (p0 - ((XT.ushrL p0 (1 : Int32)) &&& (6148914691236517205 : Int64))) (2 : Int32)) &&& (3689348814741910323 : Int64))) (4 : Int32))) &&& (1085102592571150095 : Int64)) + (XT.ushrL (((((p0 - ((XT.ushrL p0 (1 : Int32)) &&& (6148914691236517205 : Int64))) &&& (3689348814741910323 : Int64)) + ((XT.ushrL (p0 - ((XT.ushrL p0 (1 : Int32)) &&& (6148914691236517205 : Int64))) (2 : Int32)) &&& (3689348814741910323 : Int64))) + (XT.ushrL (((p0 - ((XT.ushrL p0 (1 : Int32)) &&& (6148914691236517205 : Int64))) &&& (3689348814741910323 : Int64)) + ((XT.ushrL (p0 - ((XT.ushrL p0 (1 : Int32)) &&& (6148914691236517205 : Int64))) (2 : Int32)) &&& (3689348814741910323 : Int64))) (4 : Int32))) &&& (1085102592571150095 : Int64)) (8 : Int32))))])) (fun t k => XS.bipush N0.here hx rfl (hb hby d13_43) k) ?_
  refine Ends.go (f' := (mkF m 46 #[.val (.long ((((((p0 - ((XT.ushrL p0 (1 : Int32)) &&& (6148914691236517205 : Int64))) &&& (3689348814741910323 : Int64)) + ((XT.ushrL (p0 - ((XT.ushrL p0 (1 : Int32)) &&& (6148914691236517205 : Int64))) (2 : Int32)) &&& (3689348814741910323 : Int64))) + (XT.ushrL (((p0 - ((XT.ushrL p0 (1 : Int32)) &&& (6148914691236517205 : Int64))) &&& (3689348814741910323 : Int64)) + ((XT.ushrL (p0 - ((XT.ushrL p0 (1 : Int32)) &&& (6148914691236517205 : Int64))) (2 : Int32)) &&& (3689348814741910323 : Int64))) (4 : Int32))) &&& (1085102592571150095 : Int64)) + (XT.ushrL (((((p0 - ((XT.ushrL p0 (1 : Int32)) &&& (6148914691236517205 : Int64))) &&& (3689348814741910323 : Int64)) + ((XT.ushrL (p0 - ((XT.ushrL p0 (1 : Int32)) &&& (6148914691236517205 : Int64))) (2 : Int32)) &&& (3689348814741910323 : Int64))) + (XT.ushrL (((p0 - ((XT.ushrL p0 (1 : Int32)) &&& (6148914691236517205 : Int64))) &&& (3689348814741910323 : Int64)) + ((XT.ushrL (p0 - ((XT.ushrL p0 (1 : Int32)) &&& (6148914691236517205 : Int64))) (2 : Int32)) &&& (3689348814741910323 : Int64))) (4 : Int32))) &&& (1085102592571150095 : Int64)) (8 : Int32)))), .second] [(.long (XT.ushrL ((((((p0 - ((XT.ushrL p0 (1 : Int32)) &&& (6148914691236517205 : Int64))) &&& (3689348814741910323 : Int64)) + ((XT.ushrL (p0 - ((XT.ushrL p0 (1 : Int32)) &&& (6148914691236517205 : Int64))) (2 : Int32)) &&& (3689348814741910323 : Int64))) + (XT.ushrL (((p0 - ((XT.ushrL p0 (1 : Int32)) &&& (6148914691236517205 : Int64))) &&& (3689348814741910323 : Int64)) + ((XT.ushrL (p0 - ((XT.ushrL p0 (1 : Int32)) &&& (6148914691236517205 : Int64))) (2 : Int32)) &&& (3689348814741910323 : Int64))) (4 : Int32))) &&& (1085102592571150095 : Int64)) + (XT.ushrL (((((p0 - ((XT.ushrL p0 (1 : Int32)) &&& (6148914691236517205 : Int64))) &&& (3689348814741910323 : Int64)) + ((XT.ushrL (p0 - ((XT.ushrL p0 (1 : Int32)) &&& (6148914691236517205 : Int64))) (2 : Int32)) &&& (3689348814741910323 : Int64))) + (XT.ushrL (((p0 - ((XT.ushrL p0 (1 : Int32)) &&& (6148914691236517205 : Int64))) &&& (3689348814741910323 : Int64)) + ((XT.ushrL (p0 - ((XT.ushrL p0 (1 : Int32)) &&& (6148914691236517205 : Int64))) (2 : Int32)) &&& (3689348814741910323 : Int64))) (4 : Int32))) &&& (1085102592571150095 : Int64)) (8 : Int32))) (16 : Int32))), (.long ((((((p0 - ((XT.ushrL p0 (1 : Int32)) &&& (6148914691236517205 : Int64))) &&& (3689348814741910323 : Int64)) + ((XT.ushrL (p0 - ((XT.ushrL p0 (1 : Int32)) &&& (6148914691236517205 : Int64))) (2 : Int32)) &&& (3689348814741910323 : Int64))) + (XT.ushrL (((p0 - ((XT.ushrL p0 (1 : Int32)) &&& (6148914691236517205 : Int64))) &&& (3689348814741910323 : Int64)) + ((XT.ushrL (p0 - ((XT.ushrL p0 (1 : Int32)) &&& (6148914691236517205 : Int64))) (2 : Int32)) &&& (3689348814741910323 : Int64))) (4 : Int32))) &&& (1085102592571150095 : Int64)) + (XT.ushrL (((((p0 - ((XT.ushrL p0 (1 : Int32)) &&& (6148914691236517205 : Int64))) &&& (3689348814741910323 : Int64)) + ((XT.ushrL (p0 - ((XT.ushrL p0 (1 : Int32)) &&& (6148914691236517205 : Int64))) (2 : Int32)) &&& (3689348814741910323 : Int64))) + (XT.ushrL (((p0 - ((XT.ushrL p0 (1 : Int32)) &&& (6148914691236517205 : Int64))) &&& (3689348814741910323 : Int64)) + ((XT.ushrL (p0 - ((XT.ushrL p0 (1 : Int32)) &&& (6148914691236517205 : Int64))) (2 : Int32)) &&& (3689348814741910323 : Int64))) (4 : Int32))) &&& (1085102592571150095 : Int64)) (8 : Int32))))])) (fun t k => XT.lushr N0.here hx rfl (hb hby d13_45) rfl k) ?_
  refine Ends.go (f' := (mkF m 47 #[.val (.long ((((((p0 - ((XT.ushrL p0 (1 : Int32)) &&& (6148914691236517205 : Int64))) &&& (3689348814741910323 : Int64)) + ((XT.ushrL (p0 - ((XT.ushrL p0 (1 : Int32)) &&& (6148914691236517205 : Int64))) (2 : Int32)) &&& (3689348814741910323 : Int64))) + (XT.ushrL (((p0 - ((XT.ushrL p0 (1 : Int32)) &&& (6148914691236517205 : Int64))) &&& (3689348814741910323 : Int64)) + ((XT.ushrL (p0 - ((XT.ushrL p0 (1 : Int32)) &&& (6148914691236517205 : Int64))) (2 : Int32)) &&& (3689348814741910323 : Int64))) (4 : Int32))) &&& (1085102592571150095 : Int64)) + (XT.ushrL (((((p0 - ((XT.ushrL p0 (1 : Int32)) &&& (6148914691236517205 : Int64))) &&& (3689348814741910323 : Int64)) + ((XT.ushrL (p0 - ((XT.ushrL p0 (1 : Int32)) &&& (6148914691236517205 : Int64))) (2 : Int32)) &&& (3689348814741910323 : Int64))) + (XT.ushrL (((p0 - ((XT.ushrL p0 (1 : Int32)) &&& (6148914691236517205 : Int64))) &&& (3689348814741910323 : Int64)) + ((XT.ushrL (p0 - ((XT.ushrL p0 (1 : Int32)) &&& (6148914691236517205 : Int64))) (2 : Int32)) &&& (3689348814741910323 : Int64))) (4 : Int32))) &&& (1085102592571150095 : Int64)) (8 : Int32)))), .second] [(.long (((((((p0 - ((XT.ushrL p0 (1 : Int32)) &&& (6148914691236517205 : Int64))) &&& (3689348814741910323 : Int64)) + ((XT.ushrL (p0 - ((XT.ushrL p0 (1 : Int32)) &&& (6148914691236517205 : Int64))) (2 : Int32)) &&& (3689348814741910323 : Int64))) + (XT.ushrL (((p0 - ((XT.ushrL p0 (1 : Int32)) &&& (6148914691236517205 : Int64))) &&& (3689348814741910323 : Int64)) + ((XT.ushrL (p0 - ((XT.ushrL p0 (1 : Int32)) &&& (6148914691236517205 : Int64))) (2 : Int32)) &&& (3689348814741910323 : Int64))) (4 : Int32))) &&& (1085102592571150095 : Int64)) + (XT.ushrL (((((p0 - ((XT.ushrL p0 (1 : Int32)) &&& (6148914691236517205 : Int64))) &&& (3689348814741910323 : Int64)) + ((XT.ushrL (p0 - ((XT.ushrL p0 (1 : Int32)) &&& (6148914691236517205 : Int64))) (2 : Int32)) &&& (3689348814741910323 : Int64))) + (XT.ushrL (((p0 - ((XT.ushrL p0 (1 : Int32)) &&& (6148914691236517205 : Int64))) &&& (3689348814741910323 : Int64)) + ((XT.ushrL (p0 - ((XT.ushrL p0 (1 : Int32)) &&& (6148914691236517205 : Int64))) (2 : Int32)) &&& (3689348814741910323 : Int64))) (4 : Int32))) &&& (1085102592571150095 : Int64)) (8 : Int32))) + (XT.ushrL ((((((p0 - ((XT.ushrL p0 (1 : Int32)) &&& (6148914691236517205 : Int64))) &&& (3689348814741910323 : Int64)) + ((XT.ushrL (p0 - ((XT.ushrL p0 (1 : Int32)) &&& (6148914691236517205 : Int64))) (2 : Int32)) &&& (3689348814741910323 : Int64))) + (XT.ushrL (((p0 - ((XT.ushrL p0 (1 : Int32)) &&& (6148914691236517205 : Int64))) &&& (3689348814741910323 : Int64)) + ((XT.ushrL (p0 - ((XT.ushrL p0 (1 : Int32)) &&& (6148914691236517205 : Int64))) (2 : Int32)) &&& (3689348814741910323 : Int64))) (4 : Int32))) &&& (1085102592571150095 : Int64)) + (XT.ushrL (((((p0 - ((XT.ushrL p0 (1 : Int32)) &&& (6148914691236517205 : Int64))) &&& (3689348814741910323 : Int64)) + ((XT.ushrL (p0 - ((XT.ushrL p0 (1 : Int32)) &&& (6148914691236517205 : Int64))) (2 : Int32)) &&& (3689348814741910323 : Int64))) + (XT.ushrL (((p0 - ((XT.ushrL p0 (1 : Int32)) &&& (6148914691236517205 : Int64))) &&& (3689348814741910323 : Int64)) + ((XT.ushrL (p0 - ((XT.ushrL p0 (1 : Int32)) &&& (6148914691236517205 : Int64))) (2 : Int32)) &&& (3689348814741910323 : Int64))) (4 : Int32))) &&& (1085102592571150095 : Int64)) (8 : Int32))) (16 : Int32))))])) (fun t k => XT.ladd N0.here hx rfl (hb hby d13_46) rfl k) ?_
  refine Ends.go (f' := (mkF m 48 #[.val (.long (((((((p0 - ((XT.ushrL p0 (1 : Int32)) &&& (6148914691236517205 : Int64))) &&& (3689348814741910323 : Int64)) + ((XT.ushrL (p0 - ((XT.ushrL p0 (1 : Int32)) &&& (6148914691236517205 : Int64))) (2 : Int32)) &&& (3689348814741910323 : Int64))) + (XT.ushrL (((p0 - ((XT.ushrL p0 (1 : Int32)) &&& (6148914691236517205 : Int64))) &&& (3689348814741910323 : Int64)) + ((XT.ushrL (p0 - ((XT.ushrL p0 (1 : Int32)) &&& (6148914691236517205 : Int64))) (2 : Int32)) &&& (3689348814741910323 : Int64))) (4 : Int32))) &&& (1085102592571150095 : Int64)) + (XT.ushrL (((((p0 - ((XT.ushrL p0 (1 : Int32)) &&& (6148914691236517205 : Int64))) &&& (3689348814741910323 : Int64)) + ((XT.ushrL (p0 - ((XT.ushrL p0 (1 : Int32)) &&& (6148914691236517205 : Int64))) (2 : Int32)) &&& (3689348814741910323 : Int64))) + (XT.ushrL (((p0 - ((XT.ushrL p0 (1 : Int32)) &&& (6148914691236517205 : Int64))) &&& (3689348814741910323 : Int64)) + ((XT.ushrL (p0 - ((XT.ushrL p0 (1 : Int32)) &&& (6148914691236517205 : Int64))) (2 : Int32)) &&& (3689348814741910323 : Int64))) (4 : Int32))) &&& (1085102592571150095 : Int64)) (8 : Int32))) + (XT.ushrL ((((((p0 - ((XT.ushrL p0 (1 : Int32)) &&& (6148914691236517205 : Int64))) &&& (3689348814741910323 : Int64)) + ((XT.ushrL (p0 - ((XT.ushrL p0 (1 : Int32)) &&& (6148914691236517205 : Int64))) (2 : Int32)) &&& (3689348814741910323 : Int64))) + (XT.ushrL (((p0 - ((XT.ushrL p0 (1 : Int32)) &&& (6148914691236517205 : Int64))) &&& (3689348814741910323 : Int64)) + ((XT.ushrL (p0 - ((XT.ushrL p0 (1 : Int32)) &&& (6148914691236517205 : Int64))) (2 : Int32)) &&& (3689348814741910323 : Int64))) (4 : Int32))) &&& (1085102592571150095 : Int64)) + (XT.ushrL (((((p0 - ((XT.ushrL p0 (1 : Int32)) &&& (6148914691236517205 : Int64))) &&& (3689348814741910323 : Int64)) + ((XT.ushrL (p0 - ((XT.ushrL p0 (1 : Int32)) &&& (6148914691236517205 : Int64))) (2 : Int32)) &&& (3689348814741910323 : Int64))) + (XT.ushrL (((p0 - ((XT.ushrL p0 (1 : Int32)) &&& (6148914691236517205 : Int64))) &&& (3689348814741910323 : Int64)) + ((XT.ushrL (p0 - ((XT.ushrL p0 (1 : Int32)) &&& (6148914691236517205 : Int64))) (2 : Int32)) &&& (3689348814741910323 : Int64))) (4 : Int32))) &&& (1085102592571150095 : Int64)) (8 : Int32))) (16 : Int32)))), .second] [])) (fun t k => XT.lstoreN N0.here hx rfl (hb hby d13_47) rfl (l' := #[.val (.long (((((((p0 - ((XT.ushrL p0 (1 : Int32)) &&& (6148914691236517205 : Int64))) &&& (3689348814741910323 : Int64)) + ((XT.ushrL (p0 - ((XT.ushrL p0 (1 : Int32)) &&& (6148914691236517205 : Int64))) (2 : Int32)) &&& (3689348814741910323 : Int64))) + (XT.ushrL (((p0 - ((XT.ushrL p0 (1 : Int32)) &&& (6148914691236517205 : Int64))) &&& (3689348814741910323 : Int64)) + ((XT.ushrL (p0 - ((XT.ushrL p0 (1 : Int32)) &&& (6148914691236517205 : Int64))) (2 : Int32)) &&& (3689348814741910323 : Int64))) (4 : Int32))) &&& (1085102592571150095 : Int64)) + (XT.ushrL (((((p0 - ((XT.ushrL p0 (1 : Int32)) &&& (6148914691236517205 : Int64))) &&& (3689348814741910323 : Int64)) + ((XT.ushrL (p0 - ((XT.ushrL p0 (1 : Int32)) &&& (6148914691236517205 : Int64))) (2 : Int32)) &&& (3689348814741910323 : Int64))) + (XT.ushrL (((p0 - ((XT.ushrL p0 (1 : Int32)) &&& (6148914691236517205 : Int64))) &&& (3689348814741910323 : Int64)) + ((XT.ushrL (p0 - ((XT.ushrL p0 (1 : Int32)) &&& (6148914691236517205 : Int64))) (2 : Int32)) &&& (3689348814741910323 : Int64))) (4 : Int32))) &&& (1085102592571150095 : Int64)) (8 : Int32))) + (XT.ushrL ((((((p0 - ((XT.ushrL p0 (1 : Int32)) &&& (6148914691236517205 : Int64))) &&& (3689348814741910323 : Int64)) + ((XT.ushrL (p0 - ((XT.ushrL p0 (1 : Int32)) &&& (6148914691236517205 : Int64))) (2 : Int32)) &&& (3689348814741910323 : Int64))) + (XT.ushrL (((p0 - ((XT.ushrL p0 (1 : Int32)) &&& (6148914691236517205 : Int64))) &&& (3689348814741910323 : Int64)) + ((XT.ushrL (p0 - ((XT.ushrL p0 (1 : Int32)) &&& (6148914691236517205 : Int64))) (2 : Int32)) &&& (3689348814741910323 : Int64))) (4 : Int32))) &&& (1085102592571150095 : Int64)) + (XT.ushrL (((((p0 - ((XT.ushrL p0 (1 : Int32)) &&& (6148914691236517205 : Int64))) &&& (3689348814741910323 : Int64)) + ((XT.ushrL (p0 - ((XT.ushrL p0 (1 : Int32)) &&& (6148914691236517205 : Int64))) (2 : Int32)) &&& (3689348814741910323 : Int64))) + (XT.ushrL (((p0 - ((XT.ushrL p0 (1 : Int32)) &&& (6148914691236517205 : Int64))) &&& (3689348814741910323 : Int64)) + ((XT.ushrL (p0 - ((XT.ushrL p0 (1 : Int32)) &&& (6148914691236517205 : Int64))) (2 : Int32)) &&& (3689348814741910323 : Int64))) (4 : Int32))) &&& (1085102592571150095 : Int64)) (8 : Int32))) (16 : Int32)))), .second]) rfl k) ?_
  refine Ends.go (f' := (mkF m 49 #[.val (.long (((((((p0 - ((XT.ushrL p0 (1 : Int32)) &&& (6148914691236517205 : Int64))) &&& (3689348814741910323 : Int64)) + ((XT.ushrL (p0 - ((XT.ushrL p0 (1 : Int32)) &&& (6148914691236517205 : Int64))) (2 : Int32)) &&& (3689348814741910323 : Int64))) + (XT.ushrL (((p0 - ((XT.ushrL p0 (1 : Int32)) &&& (6148914691236517205 : Int64))) &&& (3689348814741910323 : Int64)) + ((XT.ushrL (p0 - ((XT.ushrL p0 (1 : Int32)) &&& (6148914691236517205 : Int64))) (2 : Int32)) &&& (3689348814741910323 : Int64))) (4 : Int32))) &&& (1085102592571150095 : Int64)) + (XT.ushrL (((((p0 - ((XT.ushrL p0 (1 : Int32)) &&& (6148914691236517205 : Int64))) &&& (3689348814741910323 : Int64)) + ((XT.ushrL (p0 - ((XT.ushrL p0 (1 : Int32)) &&& (6148914691236517205 : Int64))) (2 : Int32)) &&& (3689348814741910323 : Int64))) + (XT.ushrL (((p0 - ((XT.ushrL p0 (1 : Int32)) &&& (6148914691236517205 : Int64))) &&& (3689348814741910323 : Int64)) + ((XT.ushrL (p0 - ((XT.ushrL p0 (1 : Int32)) &&& (6148914691236517205 : Int64))) (2 : Int32)) &&& (3689348814741910323 : Int64))) (4 : Int32))) &&& (1085102592571150095 : Int64)) (8 : Int32))) + (XT.ushrL ((((((p0 - ((XT.ushrL p0 (1 : Int32)) &&& (6148914691236517205 : Int64))) &&& (3689348814741910323 : Int64)) + ((XT.ushrL (p0 - ((XT.ushrL p0 (1 : Int32)) &&& (6148914691236517205 : Int64))) (2 : Int32)) &&& (3689348814741910323 : Int64))) + (XT.ushrL (((p0 - ((XT.ushrL p0 (1 : Int32)) &&& (6148914691236517205 : Int64))) &&& (3689348814741910323 : Int64)) + ((XT.ushrL (p0 - ((XT.ushrL p0 (1 : Int32)) &&& (6148914691236517205 : Int64))) (2 : Int32)) &&& (3689348814741910323 : Int64))) (4 : Int32))) &&& (1085102592571150095 : Int64)) + (XT.ushrL (((((p0 - ((XT.ushrL p0 (1 : Int32)) &&& (6148914691236517205 : Int64))) &&& (3689348814741910323 : Int64)) + ((XT.ushrL (p0 - ((XT.ushrL p0 (1 : Int32)) &&& (6148914691236517205 : Int64))) (2 : Int32)) &&& (3689348814741910323 : Int64))) + (XT.ushrL (((p0 - ((XT.ushrL p0 (1 : Int32)) &&& (6148914691236517205 : Int64))) &&& (3689348814741910323 : Int64)) + ((XT.ushrL (p0 - ((XT.ushrL p0 (1 : Int32)) &&& (6148914691236517205 : Int64))) (2 : Int32)) &&& (3689348814741910323 : Int64))) (4 : Int32))) &&& (1085102592571150095 : Int64)) (8 : Int32))) (16 : Int32)))), .second] [(.long (((((((p0 - ((XT.ushrL p0 (1 : Int32)) &&& (6148914691236517205 : Int64))) &&& (3689348814741910323 : Int64)) + ((XT.ushrL (p0 - ((XT.ushrL p0 (1 : Int32)) &&& (6148914691236517205 : Int64))) (2 : Int32)) &&& (3689348814741910323 : Int64))) + (XT.ushrL (((p0 - ((XT.ushrL p0 (1 : Int32)) &&& (6148914691236517205 : Int64))) &&& (3689348814741910323 : Int64)) + ((XT.ushrL (p0 - ((XT.ushrL p0 (1 : Int32)) &&& (6148914691236517205 : Int64))) (2 : Int32)) &&& (3689348814741910323 : Int64))) (4 : Int32))) &&& (1085102592571150095 : Int64)) + (XT.ushrL (((((p0 - ((XT.ushrL p0 (1 : Int32)) &&& (6148914691236517205 : Int64))) &&& (3689348814741910323 : Int64)) + ((XT.ushrL (p0 - ((XT.ushrL p0 (1 : Int32)) &&& (6148914691236517205 : Int64))) (2 : Int32)) &&& (3689348814741910323 : Int64))) + (XT.ushrL (((p0 - ((XT.ushrL p0 (1 : Int32)) &&& (6148914691236517205 : Int64))) &&& (3689348814741910323 : Int64)) + ((XT.ushrL (p0 - ((XT.ushrL p0 (1 : Int32)) &&& (6148914691236517205 : Int64))) (2 : Int32)) &&& (3689348814741910323 : Int64))) (4 : Int32))) &&& (1085102592571150095 : Int64)) (8 : Int32))) + (XT.ushrL ((((((p0 - ((XT.ushrL p0 (1 : Int32)) &&& (6148914691236517205 : Int64))) &&& (3689348814741910323 : Int64)) + ((XT.ushrL (p0 - ((XT.ushrL p0 (1 : Int32)) &&& (6148914691236517205 : Int64))) (2 : Int32)) &&& (3689348814741910323 : Int64))) + (XT.ushrL (((p0 - ((XT.ushrL p0 (1 : Int32)) &&& (6148914691236517205 : Int64))) &&& (3689348814741910323 : Int64)) + ((XT.ushrL (p0 - ((XT.ushrL p0 (1 : Int32)) &&& (6148914691236517205 : Int64))) (2 : Int32)) &&& (3689348814741910323 : Int64))) (4 : Int32))) &&& (1085102592571150095 : Int64)) + (XT.ushrL (((((p0 - ((XT.ushrL p0 (1 : Int32)) &&& (6148914691236517205 : Int64))) &&& (3689348814741910323 : Int64)) + ((XT.ushrL (p0 - ((XT.ushrL p0 (1 : Int32)) &&& (6148914691236517205 : Int64))) (2 : Int32)) &&& (3689348814741910323 : Int64))) + (XT.ushrL (((p0 - ((XT.ushrL p0 (1 : Int32)) &&& (6148914691236517205 : Int64))) &&& (3689348814741910323 : Int64)) + ((XT.ushrL (p0 - ((XT.ushrL p0 (1 : Int32)) &&& (6148914691236517205 : Int64))) (2 : Int32)) &&& (3689348814741910323 : Int64))) (4 : Int32))) &&& (1085102592571150095 : Int64)) (8 : Int32))) (16 : Int32))))])) (fun t k => XT.lloadN N0.here hx rfl (hb hby d13_48) rfl k) ?_
  refine Ends.go (f' := (mkF m 50 #[.val (.long (((((((p0 - ((XT.ushrL p0 (1 : Int32)) &&& (6148914691236517205 : Int64))) &&& (3689348814741910323 : Int64)) + ((XT.ushrL (p0 - ((XT.ushrL p0 (1 : Int32)) &&& (6148914691236517205 : Int64))) (2 : Int32)) &&& (3689348814741910323 : Int64))) + (XT.ushrL (((p0 - ((XT.ushrL p0 (1 : Int32)) &&& (6148914691236517205 : Int64))) &&& (3689348814741910323 : Int64)) + ((XT.ushrL (p0 - ((XT.ushrL p0 (1 : Int32)) &&& (6148914691236517205 : Int64))) (2 : Int32)) &&& (3689348814741910323 : Int64))) (4 : Int32))) &&& (1085102592571150095 : Int64)) + (XT.ushrL (((((p0 - ((XT.ushrL p0 (1 : Int32)) &&& (6148914691236517205 : Int64))) &&& (3689348814741910323 : Int64)) + ((XT.ushrL (p0 - ((XT.ushrL p0 (1 : Int32)) &&& (6148914691236517205 : Int64))) (2 : Int32)) &&& (3689348814741910323 : Int64))) + (XT.ushrL (((p0 - ((XT.ushrL p0 (1 : Int32)) &&& (6148914691236517205 : Int64))) &&& (3689348814741910323 : Int64)) + ((XT.ushrL (p0 - ((XT.ushrL p0 (1 : Int32)) &&& (6148914691236517205 : Int64))) (2 : Int32)) &&& (3689348814741910323 : Int64))) (4 : Int32))) &&& (1085102592571150095 : Int64)) (8 : Int32))) + (XT.ushrL ((((((p0 - ((XT.ushrL p0 (1 : Int32)) &&& (6148914691236517205 : Int64))) &&& (3689348814741910323 : Int64)) + ((XT.ushrL (p0 - ((XT.ushrL p0 (1 : Int32)) &&& (6148914691236517205 : Int64))) (2 : Int32)) &&& (3689348814741910323 : Int64))) + (XT.ushrL (((p0 - ((XT.ushrL p0 (1 : Int32)) &&& (6148914691236517205 : Int64))) &&& (3689348814741910323 : Int64)) + ((XT.ushrL (p0 - ((XT.ushrL p0 (1 : Int32)) &&& (6148914691236517205 : Int64))) (2 : Int32)) &&& (3689348814741910323 : Int64))) (4 : Int32))) &&& (1085102592571150095 : Int64)) + (XT.ushrL (((((p0 - ((XT.ushrL p0 (1 : Int32)) &&& (6148914691236517205 : Int64))) &&& (3689348814741910323 : Int64)) + ((XT.ushrL (p0 - ((XT.ushrL p0 (1 : Int32)) &&& (6148914691236517205 : Int64))) (2 : Int32)) &&& (3689348814741910323 : Int64))) + (XT.ushrL (((p0 - ((XT.ushrL p0 (1 : Int32)) &&& (6148914691236517205 : Int64))) &&& (3689348814741910323 : Int64)) + ((XT.ushrL (p0 - ((XT.ushrL p0 (1 : Int32)) &&& (6148914691236517205 : Int64))) (2 : Int32)) &&& (3689348814741910323 : Int64))) (4 : Int32))) &&& (1085102592571150095 : Int64)) (8 : Int32))) (16 : Int32)))), .second] [(.long (((((((p0 - ((XT.ushrL p0 (1 : Int32)) &&& (6148914691236517205 : Int64))) &&& (3689348814741910323 : Int64)) + ((XT.ushrL (p0 - ((XT.ushrL p0 (1 : Int32)) &&& (6148914691236517205 : Int64))) (2 : Int32)) &&& (3689348814741910323 : Int64))) + (XT.ushrL (((p0 - ((XT.ushrL p0 (1 : Int32)) &&& (6148914691236517205 : Int64))) &&& (3689348814741910323 : Int64)) + ((XT.ushrL (p0 - ((XT.ushrL p0 (1 : Int32)) &&& (6148914691236517205 : Int64))) (2 : Int32)) &&& (3689348814741910323 : Int64))) (4 : Int32))) &&& (1085102592571150095 : Int64)) + (XT.ushrL (((((p0 - ((XT.ushrL p0 (1 : Int32)) &&& (6148914691236517205 : Int64))) &&& (3689348814741910323 : Int64)) + ((XT.ushrL (p0 - ((XT.ushrL p0 (1 : Int32)) &&& (6148914691236517205 : Int64))) (2 : Int32)) &&& (3689348814741910323 : Int64))) + (XT.ushrL (((p0 - ((XT.ushrL p0 (1 : Int32)) &&& (6148914691236517205 : Int64))) &&& (3689348814741910323 : Int64)) + ((XT.ushrL (p0 - ((XT.ushrL p0 (1 : Int32)) &&& (6148914691236517205 : Int64))) (2 : Int32)) &&& (3689348814741910323 : Int64))) (4 : Int32))) &&& (1085102592571150095 : Int64)) (8 : Int32))) + (XT.ushrL ((((((p0 - ((XT.ushrL p0 (1 : Int32)) &&& (6148914691236517205 : Int64))) &&& (3689348814741910323 : Int64)) + ((XT.ushrL (p0 - ((XT.ushrL p0 (1 : Int32)) &&& (6148914691236517205 : Int64))) (2 : Int32)) &&& (3689348814741910323 : Int64))) + (XT.ushrL (((p0 - ((XT.ushrL p0 (1 : Int32)) &&& (6148914691236517205 : Int64))) &&& (3689348814741910323 : Int64)) + ((XT.ushrL (p0 - ((XT.ushrL p0 (1 : Int32)) &&& (6148914691236517205 : Int64))) (2 : Int32)) &&& (3689348814741910323 : Int64))) (4 : Int32))) &&& (1085102592571150095 : Int64)) + (XT.ushrL (((((p0 - ((XT.ushrL p0 (1 : Int32)) &&& (6148914691236517205 : Int64))) &&& (3689348814741910323 : Int64)) + ((XT.ushrL (p0 - ((XT.ushrL p0 (1 : Int32)) &&& (6148914691236517205 : Int64))) (2 : Int32)) &&& (3689348814741910323 : Int64))) + (XT.ushrL (((p0 - ((XT.ushrL p0 (1 : Int32)) &&& (6148914691236517205 : Int64))) &&& (3689348814741910323 : Int64)) + ((XT.ushrL (p0 - ((XT.ushrL p0 (1 : Int32)) &&& (6148914691236517205 : Int64))) (2 : Int32)) &&& (3689348814741910323 : Int64))) (4 : Int32))) &&& (1085102592571150095 : Int64)) (8 : Int32))) (16 : Int32)))), (.long (((((((p0 - ((XT.ushrL p0 (1 : Int32)) &&& (6148914691236517205 : Int64))) &&& (3689348814741910323 : Int64)) + ((XT.ushrL (p0 - ((XT.ushrL p0 (1 : Int32)) &&& (6148914691236517205 : Int64))) (2 : Int32)) &&& (3689348814741910323 : Int64))) + (XT.ushrL (((p0 - ((XT.ushrL p0 (1 : Int32)) &&& (6148914691236517205 : Int64))) &&& (3689348814741910323 : Int64)) + ((XT.ushrL (p0 - ((XT.ushrL p0 (1 : Int32)) &&& (6148914691236517205 : Int64))) (2 : Int32)) &&& (3689348814741910323 : Int64))) (4 : Int32))) &&& (1085102592571150095 : Int64)) + (XT.ushrL (((((p0 - ((XT.ushrL p0 (1 : Int32)) &&& (6148914691236517205 : Int64))) &&& (3689348814741910323 : Int64)) + ((XT.ushrL (p0 - ((XT.ushrL p0 (1 : Int32)) &&& (6148914691236517205 : Int64))) (2 : Int32)) &&& (3689348814741910323 : Int64))) + (XT.ushrL (((p0 - ((XT.ushrL p0 (1 : Int32)) &&& (6148914691236517205 : Int64))) &&& (3689348814741910323 : Int64)) + ((XT.ushrL (p0 - ((XT.ushrL p0 (1 : Int32)) &&& (6148914691236517205 : Int64))) (2 : Int32)) &&& (3689348814741910323 : Int64))) (4 : Int32))) &&& (1085102592571150095 : Int64)) (8 : Int32))) + (XT.ushrL ((((((p0 - ((XT.ushrL p0 (1 : Int32)) &&& (6148914691236517205 : Int64))) &&& (3689348814741910323 : Int64)) + ((XT.ushrL (p0 - ((XT.ushrL p0 (1 : Int32)) &&& (6148914691236517205 : Int64))) (2 : Int32)) &&& (3689348814741910323 : Int64))) + (XT.ushrL (((p0 - ((XT.ushrL p0 (1 : Int32)) &&& (6148914691236517205 : Int64))) &&& (3689348814741910323 : Int64)) + ((XT.ushrL (p0 - ((XT.ushrL p0 (1 : Int32)) &&& (6148914691236517205 : Int64))) (2 : Int32)) &&& (3689348814741910323 : Int64))) (4 : Int32))) &&& (1085102592571150095 : Int64)) + (XT.ushrL (((((p0 - ((XT.ushrL p0 (1 : Int32)) &&& (6148914691236517205 : Int64))) &&& (3689348814741910323 : Int64)) + ((XT.ushrL (p0 - ((XT.ushrL p0 (1 : Int32)) &&& (6148914691236517205 : Int64))) (2 : Int32)) &&& (3689348814741910323 : Int64))) + (XT.ushrL (((p0 - ((XT.ushrL p0 (1 : Int32)) &&& (6148914691236517205 : Int64))) &&& (3689348814741910323 : Int64)) + ((XT.ushrL (p0 - ((XT.ushrL p0 (1 : Int32)) &&& (6148914691236517205 : Int64))) (2 : Int32)) &&& (3689348814741910323 : Int64))) (4 : Int32))) &&& (1085102592571150095 : Int64)) (8 : Int32))) (16 : Int32))))])) (fun t k => XT.lloadN N0.here hx rfl (hb hby d13_49) rfl k) ?_
  refine Ends.go (f' := (mkF m 52 #[.val (.long (((((((p0 - ((XT.ushrL p0 (1 : Int32)) &&& (6148914691236517205 : Int64))) &&& (3689348814741910323 : Int64)) + ((XT.ushrL (p0 - ((XT.ushrL p0 (1 : Int32)) &&& (6148914691236517205 : Int64))) (2 : Int32)) &&& (3689348814741910323 : Int64))) + (XT.ushrL (((p0 - ((XT.ushrL p0 (1 : Int32)) &&& (6148914691236517205 : Int64))) &&& (3689348814741910323 : Int64)) + ((XT.ushrL (p0 - ((XT.ushrL p0 (1 : Int32)) &&& (6148914691236517205 : Int64))) (2 : Int32)) &&& (3689348814741910323 : Int64))) (4 : Int32))) &&& (1085102592571150095 : Int64)) + (XT.ushrL (((((p0 - ((XT.ushrL p0 (1 : Int32)) &&& (6148914691236517205 : Int64))) &&& (3689348814741910323 : Int64)) + ((XT.ushrL (p0 - ((XT.ushrL p0 (1 : Int32)) &&& (6148914691236517205 : Int64))) (2 : Int32)) &&& (3689348814741910323 : Int64))) + (XT.ushrL (((p0 - ((XT.ushrL p0 (1 : Int32)) &&& (6148914691236517205 : Int64))) &&& (3689348814741910323 : Int64)) + ((XT.ushrL (p0 - ((XT.ushrL p0 (1 : Int32)) &&& (6148914691236517205 : Int64))) (2 : Int32)) &&& (3689348814741910323 : Int64))) (4 : Int32))) &&& (1085102592571150095 : Int64)) (8 : Int32))) + (XT.ushrL ((((((p0 - ((XT.ushrL p0 (1 : Int32)) &&& (6148914691236517205 : Int64))) &&& (3689348814741910323 : Int64)) + ((XT.ushrL (p0 - ((XT.ushrL p0 (1 : Int32)) &&& (6148914691236517205 : Int64))) (2 : Int32)) &&& (3689348814741910323 : Int64))) + (XT.ushrL (((p0 - ((XT.ushrL p0 (1 : Int32)) &&& (6148914691236517205 : Int64))) &&& (3689348814741910323 : Int64)) + ((XT.ushrL (p0 - ((XT.ushrL p0 (1 : Int32)) &&& (6148914691236517205 : Int64))) (2 : Int32)) &&& (3689348814741910323 : Int64))) (4 : Int32))) &&& (1085102592571150095 : Int64)) + (XT.ushrL (((((p0 - ((XT.ushrL p0 (1 : Int32)) &&& (6148914691236517205 : Int64))) &&& (3689348814741910323 : Int64)) + ((XT.ushrL (p0 - ((XT.ushrL p0 (1 : Int32)) &&& (6148914691236517205 : Int64))) (2 : Int32)) &&& (3689348814741910323 : Int64))) + (XT.ushrL (((p0 - ((XT.ushrL p0 (1 : Int32)) &&& (6148914691236517205 : Int64))) &&& (3689348814741910323 : Int64)) + ((XT.ushrL (p0 - ((XT.ushrL p0 (1 : Int32)) &&& (6148914691236517205 : Int64))) (2 : Int32)) &&& (3689348814741910323 : Int64))) (4 : Int32))) &&& (1085102592571150095 : Int64)) (8 : Int32))) (16 : Int32)))), .second] [(.int (32 : Int32)), (.long (((((((p0 - ((XT.ushrL p0 (1 : Int32)) &&& (6148914691236517205 : Int64))) &&& (3689348814741910323 : Int64)) + ((XT.ushrL (p0 - ((XT.ushrL p0 (1 : Int32)) &&& (6148914691236517205 : Int64))) (2 : Int32)) &&& (3689348814741910323 : Int64))) + (XT.ushrL (((p0 - ((XT.ushrL p0 (1 : Int32)) &&& (6148914691236517205 : Int64))) &&& (3689348814741910323 : Int64)) + ((XT.ushrL (p0 - ((XT.ushrL p0 (1 : Int32)) &&& (6148914691236517205 : Int64))) (2 : Int32)) &&& (3689348814741910323 : Int64))) (4 : Int32))) &&& (1085102592571150095 : Int64)) + (XT.ushrL (((((p0 - ((XT.ushrL p0 (1 : Int32)) &&& (6148914691236517205 : Int64))) &&& (3689348814741910323 : Int64)) + ((XT.ushrL (p0 - ((XT.ushrL p0 (1 : Int32)) &&& (6148914691236517205 : Int64))) (2 : Int32)) &&& (3689348814741910323 : Int64))) + (XT.ushrL (((p0 - ((XT.ushrL p0 (1 : Int32)) &&& (6148914691236517205 : Int64))) &&& (3689348814741910323 : Int64)) + ((XT.ushrL (p0 - ((XT.ushrL p0 (1 : Int32)) &&& (6148914691236517205 : Int64))) (2 : Int32)) &&& (3689348814741910323 : Int64))) (4 : Int32))) &&& (1085102592571150095 : Int64)) (8 : Int32))) + (XT.ushrL ((((((p0 - ((XT.ushrL p0 (1 : Int32)) &&& (6148914691236517205 : Int64))) &&& (3689348814741910323 : Int64)) + ((XT.ushrL (p0 - ((XT.ushrL p0 (1 : Int32)) &&& (6148914691236517205 : Int64))) (2 : Int32)) &&& (3689348814741910323 : Int64))) + (XT.ushrL (((p0 - ((XT.ushrL p0 (1 : Int32)) &&& (6148914691236517205 : Int64))) &&& (3689348814741910323 : Int64)) + ((XT.ushrL (p0 - ((XT.ushrL p0 (1 : Int32)) &&& (6148914691236517205 : Int64))) (2 : Int32)) &&& (3689348814741910323 : Int64))) (4 : Int32))) &&& (1085102592571150095 : Int64)) + (XT.ushrL (((((p0 - ((XT.ushrL p0 (1 : Int32)) &&& (6148914691236517205 : Int64))) &&& (3689348814741910323 : Int64)) + ((XT.ushrL (p0 - ((XT.ushrL p0 (1 : Int32)) &&& (6148914691236517205 : Int64))) (2 : Int32)) &&& (3689348814741910323 : Int64))) + (XT.ushrL (((p0 - ((XT.ushrL p0 (1 : Int32)) &&& (6148914691236517205 : Int64))) &&& (3689348814741910323 : Int64)) + ((XT.ushrL (p0 - ((XT.ushrL p0 (1 : Int32)) &&& (6148914691236517205 : Int64))) (2 : Int32)) &&& (3689348814741910323 : Int64))) (4 : Int32))) &&& (1085102592571150095 : Int64)) (8 : Int32))) (16 : Int32)))), (.long (((((((p0 - ((XT.ushrL p0 (1 : Int32)) &&& (6148914691236517205 : Int64))) &&& (3689348814741910323 : Int64)) + ((XT.ushrL (p0 - ((XT.ushrL p0 (1 : Int32)) &&& (6148914691236517205 : Int64))) (2 : Int32)) &&& (3689348814741910323 : Int64))) + (XT.ushrL (((p0 - ((XT.ushrL p0 (1 : Int32)) &&& (6148914691236517205 : Int64))) &&& (3689348814741910323 : Int64)) + ((XT.ushrL (p0 - ((XT.ushrL p0 (1 : Int32)) &&& (6148914691236517205 : Int64))) (2 : Int32)) &&& (3689348814741910323 : Int64))) (4 : Int32))) &&& (1085102592571150095 : Int64)) + (XT.ushrL (((((p0 - ((XT.ushrL p0 (1 : Int32)) &&& (6148914691236517205 : Int64))) &&& (3689348814741910323 : Int64)) + ((XT.ushrL (p0 - ((XT.ushrL p0 (1 : Int32)) &&& (6148914691236517205 : Int64))) (2 : Int32)) &&& (3689348814741910323 : Int64))) + (XT.ushrL (((p0 - ((XT.ushrL p0 (1 : Int32)) &&& (6148914691236517205 : Int64))) &&& (3689348814741910323 : Int64)) + ((XT.ushrL (p0 - ((XT.ushrL p0 (1 : Int32)) &&& (6148914691236517205 : Int64))) (2 : Int32)) &&& (3689348814741910323 : Int64))) (4 : Int32))) &&& (1085102592571150095 : Int64)) (8 : Int32))) + (XT.ushrL ((((((p0 - ((XT.ushrL p0 (1 : Int32)) &&& (6148914691236517205 : Int64))) &&& (3689348814741910323 : Int64)) + ((XT.ushrL (p0 - ((XT.ushrL p0 (1 : Int32)) &&& (6148914691236517205 : Int64))) (2 : Int32)) &&& (3689348814741910323 : Int64))) + (XT.ushrL (((p0 - ((XT.ushrL p0 (1 : Int32)) &&& (6148914691236517205 : Int64))) &&& (3689348814741910323 : Int64)) + ((XT.ushrL (p0 - ((XT.ushrL p0 (1 : Int32)) &&& (6148914691236517205 : Int64))) (2 : Int32)) &&& (3689348814741910323 : Int64))) (4 : Int32))) &&& (1085102592571150095 : Int64)) + (XT.ushrL (((((p0 - ((XT.ushrL p0 (1 : Int32)) &&& (6148914691236517205 : Int64))) &&& (3689348814741910323 : Int64)) + ((XT.ushrL (p0 - ((XT.ushrL p0 (1 : Int32)) &&& (6148914691236517205 : Int64))) (2 : Int32)) &&& (3689348814741910323 : Int64))) + (XT.ushrL (((p0 - ((XT.ushrL p0 (1 : Int32)) &&& (6148914691236517205 : Int64))) &&& (3689348814741910323 : Int64)) + ((XT.ushrL (p0 - ((XT.ushrL p0 (1 : Int32)) &&& (6148914691236517205 : Int64))) (2 : Int32)) &&& (3689348814741910323 : Int64))) (4 : Int32))) &&& (1085102592571150095 : Int64)) (8 : Int32))) (16 : Int32))))])) (fun t k => XS.bipush N0.here hx rfl (hb hby d13_50) k) ?_
  refine Ends.go (f' := (mkF m 53 #[.val (.long (((((((p0 - ((XT.ushrL p0 (1 : Int32)) &&& (6148914691236517205 : Int64))) &&& (3689348814741910323 : Int64)) + ((XT.ushrL (p0 - ((XT.ushrL p0 (1 : Int32)) &&& (6148914691236517205 : Int64))) (2 : Int32)) &&& (3689348814741910323 : Int64))) + (XT.ushrL (((p0 - ((XT.ushrL p0 (1 : Int32)) &&& (6148914691236517205 : Int64))) &&& (3689348814741910323 : Int64)) + ((XT.ushrL (p0 - ((XT.ushrL p0 (1 : Int32)) &&& (6148914691236517205 : Int64))) (2 : Int32)) &&& (3689348814741910323 : Int64))) (4 : Int32))) &&& (1085102592571150095 : Int64)) + (XT.ushrL (((((p0 - ((XT.ushrL p0 (1 : Int32)) &&& (6148914691236517205 : Int64))) &&& (3689348814741910323 : Int64)) + ((XT.ushrL (p0 - ((XT.ushrL p0 (1 : Int32)) &&& (6148914691236517205 : Int64))) (2 : Int32)) &&& (3689348814741910323 : Int64))) + (XT.ushrL (((p0 - ((XT.ushrL p0 (1 : Int32)) &&& (6148914691236517205 : Int64))) &&& (3689348814741910323 : Int64)) + ((XT.ushrL (p0 - ((XT.ushrL p0 (1 : Int32)) &&& (6148914691236517205 : Int64))) (2 : Int32)) &&& (3689348814741910323 : Int64))) (4 : Int32))) &&& (1085102592571150095 : Int64)) (8 : Int32))) + (XT.ushrL ((((((p0 - ((XT.ushrL p0 (1 : Int32)) &&& (6148914691236517205 : Int64))) &&& (3689348814741910323 : Int64)) + ((XT.ushrL (p0 - ((XT.ushrL p0 (1 : Int32)) &&& (6148914691236517205 : Int64))) (2 : Int32)) &&& (3689348814741910323 : Int64))) + (XT.ushrL (((p0 - ((XT.ushrL p0 (1 : Int32)) &&& (6148914691236517205 : Int64))) &&& (3689348814741910323 : Int64)) + ((XT.ushrL (p0 - ((XT.ushrL p0 (1 : Int32)) &&& (6148914691236517205 : Int64))) (2 : Int32)) &&& (3689348814741910323 : Int64))) (4 : Int32))) &&& (1085102592571150095 : Int64)) + (XT.ushrL (((((p0 - ((XT.ushrL p0 (1 : Int32)) &&& (6148914691236517205 : Int64))) &&& (3689348814741910323 : Int64)) + ((XT.ushrL (p0 - ((XT.ushrL p0 (1 : Int32)) &&& (6148914691236517205 : Int64))) (2 : Int32)) &&& (3689348814741910323 : Int64))) + (XT.ushrL (((p0 - ((XT.ushrL p0 (1 : Int32)) &&& (6148914691236517205 : Int64))) &&& (3689348814741910323 : Int64)) + ((XT.ushrL (p0 - ((XT.ushrL p0 (1 : Int32)) &&& (6148914691236517205 : Int64))) (2 : Int32)) &&& (3689348814741910323 : Int64))) (4 : Int32))) &&& (1085102592571150095 : Int64)) (8 : Int32))) (16 : Int32)))), .second] [(.long (XT.ushrL (((((((p0 - ((XT.ushrL p0 (1 : Int32)) &&& (6148914691236517205 : Int64))) &&& (3689348814741910323 : Int64)) + ((XT.ushrL (p0 - ((XT.ushrL p0 (1 : Int32)) &&& (6148914691236517205 : Int64))) (2 : Int32)) &&& (3689348814741910323 : Int64))) + (XT.ushrL (((p0 - ((XT.ushrL p0 (1 : Int32)) &&& (6148914691236517205 : Int64))) &&& (3689348814741910323 : Int64)) + ((XT.ushrL (p0 - ((XT.ushrL p0 (1 : Int32)) &&& (6148914691236517205 : Int64))) (2 : Int32)) &&& (3689348814741910323 : Int64))) (4 : Int32))) &&& (1085102592571150095 : Int64)) + (XT.ushrL (((((p0 - ((XT.ushrL p0 (1 : Int32)) &&& (6148914691236517205 : Int64))) &&& (3689348814741910323 : Int64)) + ((XT.ushrL (p0 - ((XT.ushrL p0 (1 : Int32)) &&& (6148914691236517205 : Int64))) (2 : Int32)) &&& (3689348814741910323 : Int64))) + (XT.ushrL (((p0 - ((XT.ushrL p0 (1 : Int32)) &&& (6148914691236517205 : Int64))) &&& (3689348814741910323 : Int64)) + ((XT.ushrL (p0 - ((XT.ushrL p0 (1 : Int32)) &&& (6148914691236517205 : Int64))) (2 : Int32)) &&& (3689348814741910323 : Int64))) (4 : Int32))) &&& (1085102592571150095 : Int64)) (8 : Int32))) + (XT.ushrL ((((((p0 - ((XT.ushrL p0 (1 : Int32)) &&& (6148914691236517205 : Int64))) &&& (3689348814741910323 : Int64)) + ((XT.ushrL (p0 - ((XT.ushrL p0 (1 : Int32)) &&& (6148914691236517205 : Int64))) (2 : Int32)) &&& (3689348814741910323 : Int64))) + (XT.ushrL (((p0 - ((XT.ushrL p0 (1 : Int32)) &&& (6148914691236517205 : Int64))) &&& (3689348814741910323 : Int64)) + ((XT.ushrL (p0 - ((XT.ushrL p0 (1 : Int32)) &&& (6148914691236517205 : Int64))) (2 : Int32)) &&& (3689348814741910323 : Int64))) (4 : Int32))) &&& (1085102592571150095 : Int64)) + (XT.ushrL (((((p0 - ((XT.ushrL p0 (1 : Int32)) &&& (6148914691236517205 : Int64))) &&& (3689348814741910323 : Int64)) + ((XT.ushrL (p0 - ((XT.ushrL p0 (1 : Int32)) &&& (6148914691236517205 : Int64))) (2 : Int32)) &&& (3689348814741910323 : Int64))) + (XT.ushrL (((p0 - ((XT.ushrL p0 (1 : Int32)) &&& (6148914691236517205 : Int64))) &&& (3689348814741910323 : Int64)) + ((XT.ushrL (p0 - ((XT.ushrL p0 (1 : Int32)) &&& (6148914691236517205 : Int64))) (2 : Int32)) &&& (3689348814741910323 : Int64))) (4 : Int32))) &&& (1085102592571150095 : Int64)) (8 : Int32))) (16 : Int32))) (32 : Int32))), (.long (((((((p0 - ((XT.ushrL p0 (1 : Int32)) &&& (6148914691236517205 : Int64))) &&& (3689348814741910323 : Int64)) + ((XT.ushrL (p0 - ((XT.ushrL p0 (1 : Int32)) &&& (6148914691236517205 : Int64))) (2 : Int32)) &&& (3689348814741910323 : Int64))) + (XT.ushrL (((p0 - ((XT.ushrL p0 (1 : Int32)) &&& (6148914691236517205 : Int64))) &&& (3689348814741910323 : Int64)) + ((XT.ushrL (p0 - ((XT.ushrL p0 (1 : Int32)) &&& (6148914691236517205 : Int64))) (2 : Int32)) &&& (3689348814741910323 : Int64))) (4 : Int32))) &&& (1085102592571150095 : Int64)) + (XT.ushrL (((((p0 - ((XT.ushrL p0 (1 : Int32)) &&& (6148914691236517205 : Int64))) &&& (3689348814741910323 : Int64)) + ((XT.ushrL (p0 - ((XT.ushrL p0 (1 : Int32)) &&& (6148914691236517205 : Int64))) (2 : Int32)) &&& (3689348814741910323 : Int64))) + (XT.ushrL (((p0 - ((XT.ushrL p0 (1 : Int32)) &&& (6148914691236517205 : Int64))) &&& (3689348814741910323 : Int64)) + ((XT.ushrL (p0 - ((XT.ushrL p0 (1 : Int32)) &&& (6148914691236517205 : Int64))) (2 : Int32)) &&& (3689348814741910323 : Int64))) (4 : Int32))) &&& (1085102592571150095 : Int64)) (8 : Int32))) + (XT.ushrL ((((((p0 - ((XT.ushrL p0 (1 : Int32)) &&& (6148914691236517205 : Int64))) &&& (3689348814741910323 : Int64)) + ((XT.ushrL (p0 - ((XT.ushrL p0 (1 : Int32)) &&& (6148914691236517205 : Int64))) (2 : Int32)) &&& (3689348814741910323 : Int64))) + (XT.ushrL (((p0 - ((XT.ushrL p0 (1 : Int32)) &&& (6148914691236517205 : Int64))) &&& (3689348814741910323 : Int64)) + ((XT.ushrL (p0 - ((XT.ushrL p0 (1 : Int32)) &&& (6148914691236517205 : Int64))) (2 : Int32)) &&& (3689348814741910323 : Int64))) (4 : Int32))) &&& (1085102592571150095 : Int64)) + (XT.ushrL (((((p0 - ((XT.ushrL p0 (1 : Int32)) &&& (6148914691236517205 : Int64))) &&& (3689348814741910323 : Int64)) + ((XT.ushrL (p0 - ((XT.ushrL p0 (1 : Int32)) &&& (6148914691236517205 : Int64))) (2 : Int32)) &&& (3689348814741910323 : Int64))) + (XT.ushrL (((p0 - ((XT.ushrL p0 (1 : Int32)) &&& (6148914691236517205 : Int64))) &&& (3689348814741910323 : Int64)) + ((XT.ushrL (p0 - ((XT.ushrL p0 (1 : Int32)) &&& (6148914691236517205 : Int64))) (2 : Int32)) &&& (3689348814741910323 : Int64))) (4 : Int32))) &&& (1085102592571150095 : Int64)) (8 : Int32))) (16 : Int32))))])) (fun t k => XT.lushr N0.here hx rfl (hb hby d13_52) rfl k) ?_
  refine Ends.go (f' := (mkF m 54 #[.val (.long (((((((p0 - ((XT.ushrL p0 (1 : Int32)) &&& (6148914691236517205 : Int64))) &&& (3689348814741910323 : Int64)) + ((XT.ushrL (p0 - ((XT.ushrL p0 (1 : Int32)) &&& (6148914691236517205 : Int64))) (2 : Int32)) &&& (3689348814741910323 : Int64))) + (XT.ushrL (((p0 - ((XT.ushrL p0 (1 : Int32)) &&& (6148914691236517205 : Int64))) &&& (3689348814741910323 : Int64)) + ((XT.ushrL (p0 - ((XT.ushrL p0 (1 : Int32)) &&& (6148914691236517205 : Int64))) (2 : Int32)) &&& (3689348814741910323 : Int64))) (4 : Int32))) &&& (1085102592571150095 : Int64)) + (XT.ushrL (((((p0 - ((XT.ushrL p0 (1 : Int32)) &&& (6148914691236517205 : Int64))) &&& (3689348814741910323 : Int64)) + ((XT.ushrL (p0 - ((XT.ushrL p0 (1 : Int32)) &&& (6148914691236517205 : Int64))) (2 : Int32)) &&& (3689348814741910323 : Int64))) + (XT.ushrL (((p0 - ((XT.ushrL p0 (1 : Int32)) &&& (6148914691236517205 : Int64))) &&& (3689348814741910323 : Int64)) + ((XT.ushrL (p0 - ((XT.ushrL p0 (1 : Int32)) &&& (6148914691236517205 : Int64))) (2 : Int32)) &&& (3689348814741910323 : Int64))) (4 : Int32))) &&& (1085102592571150095 : Int64)) (8 : Int32))) + (XT.ushrL ((((((p0 - ((XT.ushrL p0 (1 : Int32)) &&& (6148914691236517205 : Int64))) &&& (3689348814741910323 : Int64)) + ((XT.ushrL (p0 - ((XT.ushrL p0 (1 : Int32)) &&& (6148914691236517205 : Int64))) (2 : Int32)) &&& (3689348814741910323 : Int64))) + (XT.ushrL (((p0 - ((XT.ushrL p0 (1 : Int32)) &&& (6148914691236517205 : Int64))) &&& (3689348814741910323 : Int64)) + ((XT.ushrL (p0 - ((XT.ushrL p0 (1 : Int32)) &&& (6148914691236517205 : Int64))) (2 : Int32)) &&& (3689348814741910323 : Int64))) (4 : Int32))) &&& (1085102592571150095 : Int64)) + (XT.ushrL (((((p0 - ((XT.ushrL p0 (1 : Int32)) &&& (6148914691236517205 : Int64))) &&& (3689348814741910323 : Int64)) + ((XT.ushrL (p0 - ((XT.ushrL p0 (1 : Int32)) &&& (6148914691236517205 : Int64))) (2 : Int32)) &&& (3689348814741910323 : Int64))) + (XT.ushrL (((p0 - ((XT.ushrL p0 (1 : Int32)) &&& (6148914691236517205 : Int64))) &&& (3689348814741910323 : Int64)) + ((XT.ushrL (p0 - ((XT.ushrL p0 (1 : Int32)) &&& (6148914691236517205 : Int64))) (2 : Int32)) &&& (3689348814741910323 : Int64))) (4 : Int32))) &&& (1085102592571150095 : Int64)) (8 : Int32))) (16 : Int32)))), .second] [(.long ((((((((p0 - ((XT.ushrL p0 (1 : Int32)) &&& (6148914691236517205 : Int64))) &&& (3689348814741910323 : Int64)) + ((XT.ushrL (p0 - ((XT.ushrL p0 (1 : Int32)) &&& (6148914691236517205 : Int64))) (2 : Int32)) &&& (3689348814741910323 : Int64))) + (XT.ushrL (((p0 - ((XT.ushrL p0 (1 : Int32)) &&& (6148914691236517205 : Int64))) &&& (3689348814741910323 : Int64)) + ((XT.ushrL (p0 - ((XT.ushrL p0 (1 : Int32)) &&& (6148914691236517205 : Int64))) (2 : Int32)) &&& (3689348814741910323 : Int64))) (4 : Int32))) &&& (1085102592571150095 : Int64)) + (XT.ushrL (((((p0 - ((XT.ushrL p0 (1 : Int32)) &&& (6148914691236517205 : Int64))) &&& (3689348814741910323 : Int64)) + ((XT.ushrL (p0 - ((XT.ushrL p0 (1 : Int32)) &&& (6148914691236517205 : Int64))) (2 : Int32)) &&& (3689348814741910323 : Int64))) + (XT.ushrL (((p0 - ((XT.ushrL p0 (1 : Int32)) &&& (6148914691236517205 : Int64))) &&& (3689348814741910323 : Int64)) + ((XT.ushrL (p0 - ((XT.ushrL p0 (1 : Int32)) &&& (6148914691236517205 : Int64))) (2 : Int32)) &&& (3689348814741910323 : Int64))) (4 : Int32))) &&& (1085102592571150095 : Int64)) (8 : Int32))) + (XT.ushrL ((((((p0 - ((XT.ushrL p0 (1 : Int32)) &&& (6148914691236517205 : Int64))) &&& (3689348814741910323 : Int64)) + ((XT.ushrL (p0 - ((XT.ushrL p0 (1 : Int32)) &&& (6148914691236517205 : Int64))) (2 : Int32)) &&& (3689348814741910323 : Int64))) + (XT.ushrL (((p0 - ((XT.ushrL p0 (1 : Int32)) &&& (6148914691236517205 : Int64))) &&& (3689348814741910323 : Int64)) + ((XT.ushrL (p0 - ((XT.ushrL p0 (1 : Int32)) &&& (6148914691236517205 : Int64))) (2 : Int32)) &&& (3689348814741910323 : Int64))) (4 : Int32))) &&& (1085102592571150095 : Int64)) + (XT.ushrL (((((p0 - ((XT.ushrL p0 (1 : Int32)) &&& (6148914691236517205 : Int64))) &&& (3689348814741910323 : Int64)) + ((XT.ushrL (p0 - ((XT.ushrL p0 (1 : Int32)) &&& (6148914691236517205 : Int64))) (2 : Int32)) &&& (3689348814741910323 : Int64))) + (XT.ushrL (((p0 - ((XT.ushrL p0 (1 : Int32)) &&& (6148914691236517205 : Int64))) &&& (3689348814741910323 : Int64)) + ((XT.ushrL (p0 - ((XT.ushrL p0 (1 : Int32)) &&& (6148914691236517205 : Int64))) (2 : Int32)) &&& (3689348814741910323 : Int64))) (4 : Int32))) &&& (1085102592571150095 : Int64)) (8 : Int32))) (16 : Int32))) + (XT.ushrL (((((((p0 - ((XT.ushrL p0 (1 : Int32)) &&& (6148914691236517205 : Int64))) &&& (3689348814741910323 : Int64)) + ((XT.ushrL (p0 - ((XT.ushrL p0 (1 : Int32)) &&& (6148914691236517205 : Int64))) (2 : Int32)) &&& (3689348814741910323 : Int64))) + (XT.ushrL (((p0 - ((XT.ushrL p0 (1 : Int32)) &&& (6148914691236517205 : Int64))) &&& (3689348814741910323 : Int64)) + ((XT.ushrL (p0 - ((XT.ushrL p0 (1 : Int32)) &&& (6148914691236517205 : Int64))) (2 : Int32)) &&& (3689348814741910323 : Int64))) (4 : Int32))) &&& (1085102592571150095 : Int64)) + (XT.ushrL (((((p0 - ((XT.ushrL p0 (1 : Int32)) &&& (6148914691236517205 : Int64))) &&& (3689348814741910323 : Int64)) + ((XT.ushrL (p0 - ((XT.ushrL p0 (1 : Int32)) &&& (6148914691236517205 : Int64))) (2 : Int32)) &&& (3689348814741910323 : Int64))) + (XT.ushrL (((p0 - ((XT.ushrL p0 (1 : Int32)) &&& (6148914691236517205 : Int64))) &&& (3689348814741910323 : Int64)) + ((XT.ushrL (p0 - ((XT.ushrL p0 (1 : Int32)) &&& (6148914691236517205 : Int64))) (2 : Int32)) &&& (3689348814741910323 : Int64))) (4 : Int32))) &&& (1085102592571150095 : Int64)) (8 : Int32))) + (XT.ushrL ((((((p0 - ((XT.ushrL p0 (1 : Int32)) &&& (6148914691236517205 : Int64))) &&& (3689348814741910323 : Int64)) + ((XT.ushrL (p0 - ((XT.ushrL p0 (1 : Int32)) &&& (6148914691236517205 : Int64))) (2 : Int32)) &&& (3689348814741910323 : Int64))) + (XT.ushrL (((p0 - ((XT.ushrL p0 (1 : Int32)) &&& (6148914691236517205 : Int64))) &&& (3689348814741910323 : Int64)) + ((XT.ushrL (p0 - ((XT.ushrL p0 (1 : Int32)) &&& (6148914691236517205 : Int64))) (2 : Int32)) &&& (3689348814741910323 : Int64))) (4 : Int32))) &&& (1085102592571150095 : Int64)) + (XT.ushrL (((((p0 - ((XT.ushrL p0 (1 : Int32)) &&& (6148914691236517205 : Int64))) &&& (3689348814741910323 : Int64)) + ((XT.ushrL (p0 - ((XT.ushrL p0 (1 : Int32)) &&& (6148914691236517205 : Int64))) (2 : Int32)) &&& (3689348814741910323 : Int64))) + (XT.ushrL (((p0 - ((XT.ushrL p0 (1 : Int32)) &&& (6148914691236517205 : Int64))) &&& (3689348814741910323 : Int64)) + ((XT.ushrL (p0 - ((XT.ushrL p0 (1 : Int32)) &&& (6148914691236517205 : Int64))) (2 : Int32)) &&& (3689348814741910323 : Int64))) (4 : Int32))) &&& (1085102592571150095 : Int64)) (8 : Int32))) (16 : Int32))) (32 : Int32))))])) (fun t k => XT.ladd N0.here hx rfl (hb hby d13_53) rfl k) ?_
  refine Ends.go (f' := (mkF m 55 #[.val (.long ((((((((p0 - ((XT.ushrL p0 (1 : Int32)) &&& (6148914691236517205 : Int64))) &&& (3689348814741910323 : Int64)) + ((XT.ushrL (p0 - ((XT.ushrL p0 (1 : Int32)) &&& (6148914691236517205 : Int64))) (2 : Int32)) &&& (3689348814741910323 : Int64))) + (XT.ushrL (((p0 - ((XT.ushrL p0 (1 : Int32)) &&& (6148914691236517205 : Int64))) &&& (3689348814741910323 : Int64)) + ((XT.ushrL (p0 - ((XT.ushrL p0 (1 : Int32)) &&& (6148914691236517205 : Int64))) (2 : Int32)) &&& (3689348814741910323 : Int64))) (4 : Int32))) &&& (1085102592571150095 : Int64)) + (XT.ushrL (((((p0 - ((XT.ushrL p0 (1 : Int32)) &&& (6148914691236517205 : Int64))) &&& (3689348814741910323 : Int64)) + ((XT.ushrL (p0 - ((XT.ushrL p0 (1 : Int32)) &&& (6148914691236517205 : Int64))) (2 : Int32)) &&& (3689348814741910323 : Int64))) + (XT.ushrL (((p0 - ((XT.ushrL p0 (1 : Int32)) &&& (6148914691236517205 : Int64))) &&& (3689348814741910323 : Int64)) + ((XT.ushrL (p0 - ((XT.ushrL p0 (1 : Int32)) &&& (6148914691236517205 : Int64))) (2 : Int32)) &&& (3689348814741910323 : Int64))) (4 : Int32))) &&& (1085102592571150095 : Int64)) (8 : Int32))) + (XT.ushrL ((((((p0 - ((XT.ushrL p0 (1 : Int32)) &&& (6148914691236517205 : Int64))) &&& (3689348814741910323 : Int64)) + ((XT.ushrL (p0 - ((XT.ushrL p0 (1 : Int32)) &&& (6148914691236517205 : Int64))) (2 : Int32)) &&& (3689348814741910323 : Int64))) + (XT.ushrL (((p0 - ((XT.ushrL p0 (1 : Int32)) &&& (6148914691236517205 : Int64))) &&& (3689348814741910323 : Int64)) + ((XT.ushrL (p0 - ((XT.ushrL p0 (1 : Int32)) &&& (6148914691236517205 : Int64))) (2 : Int32)) &&& (3689348814741910323 : Int64))) (4 : Int32))) &&& (1085102592571150095 : Int64)) + (XT.ushrL (((((p0 - ((XT.ushrL p0 (1 : Int32)) &&& (6148914691236517205 : Int64))) &&& (3689348814741910323 : Int64)) + ((XT.ushrL (p0 - ((XT.ushrL p0 (1 : Int32)) &&& (6148914691236517205 : Int64))) (2 : Int32)) &&& (3689348814741910323 : Int64))) + (XT.ushrL (((p0 - ((XT.ushrL p0 (1 : Int32)) &&& (6148914691236517205 : Int64))) &&& (3689348814741910323 : Int64)) + ((XT.ushrL (p0 - ((XT.ushrL p0 (1 : Int32)) &&& (6148914691236517205 : Int64))) (2 : Int32)) &&& (3689348814741910323 : Int64))) (4 : Int32))) &&& (1085102592571150095 : Int64)) (8 : Int32))) (16 : Int32))) + (XT.ushrL (((((((p0 - ((XT.ushrL p0 (1 : Int32)) &&& (6148914691236517205 : Int64))) &&& (3689348814741910323 : Int64)) + ((XT.ushrL (p0 - ((XT.ushrL p0 (1 : Int32)) &&& (6148914691236517205 : Int64))) (2 : Int32)) &&& (3689348814741910323 : Int64))) + (XT.ushrL (((p0 - ((XT.ushrL p0 (1 : Int32)) &&& (6148914691236517205 : Int64))) &&& (3689348814741910323 : Int64)) + ((XT.ushrL (p0 - ((XT.ushrL p0 (1 : Int32)) &&& (6148914691236517205 : Int64))) (2 : Int32)) &&& (3689348814741910323 : Int64))) (4 : Int32))) &&& (1085102592571150095 : Int64)) + (XT.ushrL (((((p0 - ((XT.ushrL p0 (1 : Int32)) &&& (6148914691236517205 : Int64))) &&& (3689348814741910323 : Int64)) + ((XT.ushrL (p0 - ((XT.ushrL p0 (1 : Int32)) &&& (6148914691236517205 : Int64))) (2 : Int32)) &&& (3689348814741910323 : Int64))) + (XT.ushrL (((p0 - ((XT.ushrL p0 (1 : Int32)) &&& (6148914691236517205 : Int64))) &&& (3689348814741910323 : Int64)) + ((XT.ushrL (p0 - ((XT.ushrL p0 (1 : Int32)) &&& (6148914691236517205 : Int64))) (2 : Int32)) &&& (3689348814741910323 : Int64))) (4 : Int32))) &&& (1085102592571150095 : Int64)) (8 : Int32))) + (XT.ushrL ((((((p0 - ((XT.ushrL p0 (1 : Int32)) &&& (6148914691236517205 : Int64))) &&& (3689348814741910323 : Int64)) + ((XT.ushrL (p0 - ((XT.ushrL p0 (1 : Int32)) &&& (6148914691236517205 : Int64))) (2 : Int32)) &&& (3689348814741910323 : Int64))) + (XT.ushrL (((p0 - ((XT.ushrL p0 (1 : Int32)) &&& (6148914691236517205 : Int64))) &&& (3689348814741910323 : Int64)) + ((XT.ushrL (p0 - ((XT.ushrL p0 (1 : Int32)) &&& (6148914691236517205 : Int64))) (2 : Int32)) &&& (3689348814741910323 : Int64))) (4 : Int32))) &&& (1085102592571150095 : Int64)) + (XT.ushrL (((((p0 - ((XT.ushrL p0 (1 : Int32)) &&& (6148914691236517205 : Int64))) &&& (3689348814741910323 : Int64)) + ((XT.ushrL (p0 - ((XT.ushrL p0 (1 : Int32)) &&& (6148914691236517205 : Int64))) (2 : Int32)) &&& (3689348814741910323 : Int64))) + (XT.ushrL (((p0 - ((XT.ushrL p0 (1 : Int32)) &&& (6148914691236517205 : Int64))) &&& (3689348814741910323 : Int64)) + ((XT.ushrL (p0 - ((XT.ushrL p0 (1 : Int32)) &&& (6148914691236517205 : Int64))) (2 : Int32)) &&& (3689348814741910323 : Int64))) (4 : Int32))) &&& (1085102592571150095 : Int64)) (8 : Int32))) (16 : Int32))) (32 : Int32)))), .second] [])) (fun t k => XT.lstoreN N0.here hx rfl (hb hby d13_54) rfl (l' := #[.val (.long ((((((((p0 - ((XT.ushrL p0 (1 : Int32)) &&& (6148914691236517205 : Int64))) &&& (3689348814741910323 : Int64)) + ((XT.ushrL (p0 - ((XT.ushrL p0 (1 : Int32)) &&& (6148914691236517205 : Int64))) (2 : Int32)) &&& (3689348814741910323 : Int64))) + (XT.ushrL (((p0 - ((XT.ushrL p0 (1 : Int32)) &&& (6148914691236517205 : Int64))) &&& (3689348814741910323 : Int64)) + ((XT.ushrL (p0 - ((XT.ushrL p0 (1 : Int32)) &&& (6148914691236517205 : Int64))) (2 : Int32)) &&& (3689348814741910323 : Int64))) (4 : Int32))) &&& (1085102592571150095 : Int64)) + (XT.ushrL (((((p0 - ((XT.ushrL p0 (1 : Int32)) &&& (6148914691236517205 : Int64))) &&& (3689348814741910323 : Int64)) + ((XT.ushrL (p0 - ((XT.ushrL p0 (1 : Int32)) &&& (6148914691236517205 : Int64))) (2 : Int32)) &&& (3689348814741910323 : Int64))) + (XT.ushrL (((p0 - ((XT.ushrL p0 (1 : Int32)) &&& (6148914691236517205 : Int64))) &&& (3689348814741910323 : Int64)) + ((XT.ushrL (p0 - ((XT.ushrL p0 (1 : Int32)) &&& (6148914691236517205 : Int64))) (2 : Int32)) &&& (3689348814741910323 : Int64))) (4 : Int32))) &&& (1085102592571150095 : Int64)) (8 : Int32))) + (XT.ushrL ((((((p0 - ((XT.ushrL p0 (1 : Int32)) &&& (6148914691236517205 : Int64))) &&& (3689348814741910323 : Int64)) + ((XT.ushrL (p0 - ((XT.ushrL p0 (1 : Int32)) &&& (6148914691236517205 : Int64))) (2 : Int32)) &&& (3689348814741910323 : Int64))) + (XT.ushrL (((p0 - ((XT.ushrL p0 (1 : Int32)) &&& (6148914691236517205 : Int64))) &&& (3689348814741910323 : Int64)) + ((XT.ushrL (p0 - ((XT.ushrL p0 (1 : Int32)) &&& (6148914691236517205 : Int64))) (2 : Int32)) &&& (3689348814741910323 : Int64))) (4 : Int32))) &&& (1085102592571150095 : Int64)) + (XT.ushrL (((((p0 - ((XT.ushrL p0 (1 : Int32)) &&& (6148914691236517205 : Int64))) &&& (3689348814741910323 : Int64)) + ((XT.ushrL (p0 - ((XT.ushrL p0 (1 : Int32)) &&& (6148914691236517205 : Int64))) (2 : Int32)) &&& (3689348814741910323 : Int64))) + (XT.ushrL (((p0 - ((XT.ushrL p0 (1 : Int32)) &&& (6148914691236517205 : Int64))) &&& (3689348814741910323 : Int64)) + ((XT.ushrL (p0 - ((XT.ushrL p0 (1 : Int32)) &&& (6148914691236517205 : Int64))) (2 : Int32)) &&& (3689348814741910323 : Int64))) (4 : Int32))) &&& (1085102592571150095 : Int64)) (8 : Int32))) (16 : Int32))) + (XT.ushrL (((((((p0 - ((XT.ushrL p0 (1 : Int32)) &&& (6148914691236517205 : Int64))) &&& (3689348814741910323 : Int64)) + ((XT.ushrL (p0 - ((XT.ushrL p0 (1 : Int32)) &&& (6148914691236517205 : Int64))) (2 : Int32)) &&& (3689348814741910323 : Int64))) + (XT.ushrL (((p0 - ((XT.ushrL p0 (1 : Int32)) &&& (6148914691236517205 : Int64))) &&& (3689348814741910323 : Int64)) + ((XT.ushrL (p0 - ((XT.ushrL p0 (1 : Int32)) &&& (6148914691236517205 : Int64))) (2 : Int32)) &&& (3689348814741910323 : Int64))) (4 : Int32))) &&& (1085102592571150095 : Int64)) + (XT.ushrL (((((p0 - ((XT.ushrL p0 (1 : Int32)) &&& (6148914691236517205 : Int64))) &&& (3689348814741910323 : Int64)) + ((XT.ushrL (p0 - ((XT.ushrL p0 (1 : Int32)) &&& (6148914691236517205 : Int64))) (2 : Int32)) &&& (3689348814741910323 : Int64))) + (XT.ushrL (((p0 - ((XT.ushrL p0 (1 : Int32)) &&& (6148914691236517205 : Int64))) &&& (3689348814741910323 : Int64)) + ((XT.ushrL (p0 - ((XT.ushrL p0 (1 : Int32)) &&& (6148914691236517205 : Int64))) (2 : Int32)) &&& (3689348814741910323 : Int64))) (4 : Int32))) &&& (1085102592571150095 : Int64)) (8 : Int32))) + (XT.ushrL ((((((p0 - ((XT.ushrL p0 (1 : Int32)) &&& (6148914691236517205 : Int64))) &&& (3689348814741910323 : Int64)) + ((XT.ushrL (p0 - ((XT.ushrL p0 (1 : Int32)) &&& (6148914691236517205 : Int64))) (2 : Int32)) &&& (3689348814741910323 : Int64))) + (XT.ushrL (((p0 - ((XT.ushrL p0 (1 : Int32)) &&& (6148914691236517205 : Int64))) &&& (3689348814741910323 : Int64)) + ((XT.ushrL (p0 - ((XT.ushrL p0 (1 : Int32)) &&& (6148914691236517205 : Int64))) (2 : Int32)) &&& (3689348814741910323 : Int64))) (4 : Int32))) &&& (1085102592571150095 : Int64)) + (XT.ushrL (((((p0 - ((XT.ushrL p0 (1 : Int32)) &&& (6148914691236517205 : Int64))) &&& (3689348814741910323 : Int64)) + ((XT.ushrL (p0 - ((XT.ushrL p0 (1 : Int32)) &&& (6148914691236517205 : Int64))) (2 : Int32)) &&& (3689348814741910323 : Int64))) + (XT.ushrL (((p0 - ((XT.ushrL p0 (1 : Int32)) &&& (6148914691236517205 : Int64))) &&& (3689348814741910323 : Int64)) + ((XT.ushrL (p0 - ((XT.ushrL p0 (1 : Int32)) &&& (6148914691236517205 : Int64))) (2 : Int32)) &&& (3689348814741910323 : Int64))) (4 : Int32))) &&& (1085102592571150095 : Int64)) (8 : Int32))) (16 : Int32))) (32 : Int32)))), .second]) rfl k) ?_
  refine Ends.go (f' := (mkF m 56 #[.val (.long ((((((((p0 - ((XT.ushrL p0 (1 : Int32)) &&& (6148914691236517205 : Int64))) &&& (3689348814741910323 : Int64)) + ((XT.ushrL (p0 - ((XT.ushrL p0 (1 : Int32)) &&& (6148914691236517205 : Int64))) (2 : Int32)) &&& (3689348814741910323 : Int64))) + (XT.ushrL (((p0 - ((XT.ushrL p0 (1 : Int32)) &&& (6148914691236517205 : Int64))) &&& (3689348814741910323 : Int64)) + ((XT.ushrL (p0 - ((XT.ushrL p0 (1 : Int32)) &&& (6148914691236517205 : Int64))) (2 : Int32)) &&& (3689348814741910323 : Int64))) (4 : Int32))) &&& (1085102592571150095 : Int64)) + (XT.ushrL (((((p0 - ((XT.ushrL p0 (1 : Int32)) &&& (6148914691236517205 : Int64))) &&& (3689348814741910323 : Int64)) + ((XT.ushrL (p0 - ((XT.ushrL p0 (1 : Int32)) &&& (6148914691236517205 : Int64))) (2 : Int32)) &&& (3689348814741910323 : Int64))) + (XT.ushrL (((p0 - ((XT.ushrL p0 (1 : Int32)) &&& (6148914691236517205 : Int64))) &&& (3689348814741910323 : Int64)) + ((XT.ushrL (p0 - ((XT.ushrL p0 (1 : Int32)) &&& (6148914691236517205 : Int64))) (2 : Int32)) &&& (3689348814741910323 : Int64))) (4 : Int32))) &&& (1085102592571150095 : Int64)) (8 : Int32))) + (XT.ushrL ((((((p0 - ((XT.ushrL p0 (1 : Int32)) &&& (6148914691236517205 : Int64))) &&& (3689348814741910323 : Int64)) + ((XT.ushrL (p0 - ((XT.ushrL p0 (1 : Int32)) &&& (6148914691236517205 : Int64))) (2 : Int32)) &&& (3689348814741910323 : Int64))) + (XT.ushrL (((p0 - ((XT.ushrL p0 (1 : Int32)) &&& (6148914691236517205 : Int64))) &&& (3689348814741910323 : Int64)) + ((XT.ushrL (p0 - ((XT.ushrL p0 (1 : Int32)) &&& (6148914691236517205 : Int64))) (2 : Int32)) &&& (3689348814741910323 : Int64))) (4 : Int32))) &&& (1085102592571150095 : Int64)) + (XT.ushrL (((((p0 - ((XT.ushrL p0 (1 : Int32)) &&& (6148914691236517205 : Int64))) &&& (3689348814741910323 : Int64)) + ((XT.ushrL (p0 - ((XT.ushrL p0 (1 : Int32)) &&& (6148914691236517205 : Int64))) (2 : Int32)) &&& (3689348814741910323 : Int64))) + (XT.ushrL (((p0 - ((XT.ushrL p0 (1 : Int32)) &&& (6148914691236517205 : Int64))) &&& (3689348814741910323 : Int64)) + ((XT.ushrL (p0 - ((XT.ushrL p0 (1 : Int32)) &&& (6148914691236517205 : Int64))) (2 : Int32)) &&& (3689348814741910323 : Int64))) (4 : Int32))) &&& (1085102592571150095 : Int64)) (8 : Int32))) (16 : Int32))) + (XT.ushrL (((((((p0 - ((XT.ushrL p0 (1 : Int32)) &&& (6148914691236517205 : Int64))) &&& (3689348814741910323 : Int64)) + ((XT.ushrL (p0 - ((XT.ushrL p0 (1 : Int32)) &&& (6148914691236517205 : Int64))) (2 : Int32)) &&& (3689348814741910323 : Int64))) + (XT.ushrL (((p0 - ((XT.ushrL p0 (1 : Int32)) &&& (6148914691236517205 : Int64))) &&& (3689348814741910323 : Int64)) + ((XT.ushrL (p0 - ((XT.ushrL p0 (1 : Int32)) &&& (6148914691236517205 : Int64))) (2 : Int32)) &&& (3689348814741910323 : Int64))) (4 : Int32))) &&& (1085102592571150095 : Int64)) + (XT.ushrL (((((p0 - ((XT.ushrL p0 (1 : Int32)) &&& (6148914691236517205 : Int64))) &&& (3689348814741910323 : Int64)) + ((XT.ushrL (p0 - ((XT.ushrL p0 (1 : Int32)) &&& (6148914691236517205 : Int64))) (2 : Int32)) &&& (3689348814741910323 : Int64))) + (XT.ushrL (((p0 - ((XT.ushrL p0 (1 : Int32)) &&& (6148914691236517205 : Int64))) &&& (3689348814741910323 : Int64)) + ((XT.ushrL (p0 - ((XT.ushrL p0 (1 : Int32)) &&& (6148914691236517205 : Int64))) (2 : Int32)) &&& (3689348814741910323 : Int64))) (4 : Int32))) &&& (1085102592571150095 : Int64)) (8 : Int32))) + (XT.ushrL ((((((p0 - ((XT.ushrL p0 (1 : Int32)) &&& (6148914691236517205 : Int64))) &&& (3689348814741910323 : Int64)) + ((XT.ushrL (p0 - ((XT.ushrL p0 (1 : Int32)) &&& (6148914691236517205 : Int64))) (2 : Int32)) &&& (3689348814741910323 : Int64))) + (XT.ushrL (((p0 - ((XT.ushrL p0 (1 : Int32)) &&& (6148914691236517205 : Int64))) &&& (3689348814741910323 : Int64)) + ((XT.ushrL (p0 - ((XT.ushrL p0 (1 : Int32)) &&& (6148914691236517205 : Int64))) (2 : Int32)) &&& (3689348814741910323 : Int64))) (4 : Int32))) &&& (1085102592571150095 : Int64)) + (XT.ushrL (((((p0 - ((XT.ushrL p0 (1 : Int32)) &&& (6148914691236517205 : Int64))) &&& (3689348814741910323 : Int64)) + ((XT.ushrL (p0 - ((XT.ushrL p0 (1 : Int32)) &&& (6148914691236517205 : Int64))) (2 : Int32)) &&& (3689348814741910323 : Int64))) + (XT.ushrL (((p0 - ((XT.ushrL p0 (1 : Int32)) &&& (6148914691236517205 : Int64))) &&& (3689348814741910323 : Int64)) + ((XT.ushrL (p0 - ((XT.ushrL p0 (1 : Int32)) &&& (6148914691236517205 : Int64))) (2 : Int32)) &&& (3689348814741910323 : Int64))) (4 : Int32))) &&& (1085102592571150095 : Int64)) (8 : Int32))) (16 : Int32))) (32 : Int32)))), .second] [(.long ((((((((p0 - ((XT.ushrL p0 (1 : Int32)) &&& (6148914691236517205 : Int64))) &&& (3689348814741910323 : Int64)) + ((XT.ushrL (p0 - ((XT.ushrL p0 (1 : Int32)) &&& (6148914691236517205 : Int64))) (2 : Int32)) &&& (3689348814741910323 : Int64))) + (XT.ushrL (((p0 - ((XT.ushrL p0 (1 : Int32)) &&& (6148914691236517205 : Int64))) &&& (3689348814741910323 : Int64)) + ((XT.ushrL (p0 - ((XT.ushrL p0 (1 : Int32)) &&& (6148914691236517205 : Int64))) (2 : Int32)) &&& (3689348814741910323 : Int64))) (4 : Int32))) &&& (1085102592571150095 : Int64)) + (XT.ushrL (((((p0 - ((XT.ushrL p0 (1 : Int32)) &&& (6148914691236517205 : Int64))) &&& (3689348814741910323 : Int64)) + ((XT.ushrL (p0 - ((XT.ushrL p0 (1 : Int32)) &&& (6148914691236517205 : Int64))) (2 : Int32)) &&& (3689348814741910323 : Int64))) + (XT.ushrL (((p0 - ((XT.ushrL p0 (1 : Int32)) &&& (6148914691236517205 : Int64))) &&& (3689348814741910323 : Int64)) + ((XT.ushrL (p0 - ((XT.ushrL p0 (1 : Int32)) &&& (6148914691236517205 : Int64))) (2 : Int32)) &&& (3689348814741910323 : Int64))) (4 : Int32))) &&& (1085102592571150095 : Int64)) (8 : Int32))) + (XT.ushrL ((((((p0 - ((XT.ushrL p0 (1 : Int32)) &&& (6148914691236517205 : Int64))) &&& (3689348814741910323 : Int64)) + ((XT.ushrL (p0 - ((XT.ushrL p0 (1 : Int32)) &&& (6148914691236517205 : Int64))) (2 : Int32)) &&& (3689348814741910323 : Int64))) + (XT.ushrL (((p0 - ((XT.ushrL p0 (1 : Int32)) &&& (6148914691236517205 : Int64))) &&& (3689348814741910323 : Int64)) + ((XT.ushrL (p0 - ((XT.ushrL p0 (1 : Int32)) &&& (6148914691236517205 : Int64))) (2 : Int32)) &&& (3689348814741910323 : Int64))) (4 : Int32))) &&& (1085102592571150095 : Int64)) + (XT.ushrL (((((p0 - ((XT.ushrL p0 (1 : Int32)) &&& (6148914691236517205 : Int64))) &&& (3689348814741910323 : Int64)) + ((XT.ushrL (p0 - ((XT.ushrL p0 (1 : Int32)) &&& (6148914691236517205 : Int64))) (2 : Int32)) &&& (3689348814741910323 : Int64))) + (XT.ushrL (((p0 - ((XT.ushrL p0 (1 : Int32)) &&& (6148914691236517205 : Int64))) &&& (3689348814741910323 : Int64)) + ((XT.ushrL (p0 - ((XT.ushrL p0 (1 : Int32)) &&& (6148914691236517205 : Int64))) (2 : Int32)) &&& (3689348814741910323 : Int64))) (4 : Int32))) &&& (1085102592571150095 : Int64)) (8 : Int32))) (16 : Int32))) + (XT.ushrL (((((((p0 - ((XT.ushrL p0 (1 : Int32)) &&& (6148914691236517205 : Int64))) &&& (3689348814741910323 : Int64)) + ((XT.ushrL (p0 - ((XT.ushrL p0 (1 : Int32)) &&& (6148914691236517205 : Int64))) (2 : Int32)) &&& (3689348814741910323 : Int64))) + (XT.ushrL (((p0 - ((XT.ushrL p0 (1 : Int32)) &&& (6148914691236517205 : Int64))) &&& (3689348814741910323 : Int64)) + ((XT.ushrL (p0 - ((XT.ushrL p0 (1 : Int32)) &&& (6148914691236517205 : Int64))) (2 : Int32)) &&& (3689348814741910323 : Int64))) (4 : Int32))) &&& (1085102592571150095 : Int64)) + (XT.ushrL (((((p0 - ((XT.ushrL p0 (1 : Int32)) &&& (6148914691236517205 : Int64))) &&& (3689348814741910323 : Int64)) + ((XT.ushrL (p0 - ((XT.ushrL p0 (1 : Int32)) &&& (6148914691236517205 : Int64))) (2 : Int32)) &&& (3689348814741910323 : Int64))) + (XT.ushrL (((p0 - ((XT.ushrL p0 (1 : Int32)) &&& (6148914691236517205 : Int64))) &&& (3689348814741910323 : Int64)) + ((XT.ushrL (p0 - ((XT.ushrL p0 (1 : Int32)) &&& (6148914691236517205 : Int64))) (2 : Int32)) &&& (3689348814741910323 : Int64))) (4 : Int32))) &&& (1085102592571150095 : Int64)) (8 : Int32))) + (XT.ushrL ((((((p0 - ((XT.ushrL p0 (1 : Int32)) &&& (6148914691236517205 : Int64))) &&& (3689348814741910323 : Int64)) + ((XT.ushrL (p0 - ((XT.ushrL p0 (1 : Int32)) &&& (6148914691236517205 : Int64))) (2 : Int32)) &&& (3689348814741910323 : Int64))) + (XT.ushrL (((p0 - ((XT.ushrL p0 (1 : Int32)) &&& (6148914691236517205 : Int64))) &&& (3689348814741910323 : Int64)) + ((XT.ushrL (p0 - ((XT.ushrL p0 (1 : Int32)) &&& (6148914691236517205 : Int64))) (2 : Int32)) &&& (3689348814741910323 : Int64))) (4 : Int32))) &&& (1085102592571150095 : Int64)) + (XT.ushrL (((((p0 - ((XT.ushrL p0 (1 : Int32)) &&& (6148914691236517205 : Int64))) &&& (3689348814741910323 : Int64)) + ((XT.ushrL (p0 - ((XT.ushrL p0 (1 : Int32)) &&& (6148914691236517205 : Int64))) (2 : Int32)) &&& (3689348814741910323 : Int64))) + (XT.ushrL (((p0 - ((XT.ushrL p0 (1 : Int32)) &&& (6148914691236517205 : Int64))) &&& (3689348814741910323 : Int64)) + ((XT.ushrL (p0 - ((XT.ushrL p0 (1 : Int32)) &&& (6148914691236517205 : Int64))) (2 : Int32)) &&& (3689348814741910323 : Int64))) (4 : Int32))) &&& (1085102592571150095 : Int64)) (8 : Int32))) (16 : Int32))) (32 : Int32))))])) (fun t k => XT.lloadN N0.here hx rfl (hb hby d13_55) rfl k) ?_
  refine Ends.go (f' := (mkF m 57 #[.val (.long ((((((((p0 - ((XT.ushrL p0 (1 : Int32)) &&& (6148914691236517205 : Int64))) &&& (3689348814741910323 : Int64)) + ((XT.ushrL (p0 - ((XT.ushrL p0 (1 : Int32)) &&& (6148914691236517205 : Int64))) (2 : Int32)) &&& (3689348814741910323 : Int64))) + (XT.ushrL (((p0 - ((XT.ushrL p0 (1 : Int32)) &&& (6148914691236517205 : Int64))) &&& (3689348814741910323 : Int64)) + ((XT.ushrL (p0 - ((XT.ushrL p0 (1 : Int32)) &&& (6148914691236517205 : Int64))) (2 : Int32)) &&& (3689348814741910323 : Int64))) (4 : Int32))) &&& (1085102592571150095 : Int64)) + (XT.ushrL (((((p0 - ((XT.ushrL p0 (1 : Int32)) &&& (6148914691236517205 : Int64))) &&& (3689348814741910323 : Int64)) + ((XT.ushrL (p0 - ((XT.ushrL p0 (1 : Int32)) &&& (6148914691236517205 : Int64))) (2 : Int32)) &&& (3689348814741910323 : Int64))) + (XT.ushrL (((p0 - ((XT.ushrL p0 (1 : Int32)) &&& (6148914691236517205 : Int64))) &&& (3689348814741910323 : Int64)) + ((XT.ushrL (p0 - ((XT.ushrL p0 (1 : Int32)) &&& (6148914691236517205 : Int64))) (2 : Int32)) &&& (3689348814741910323 : Int64))) (4 : Int32))) &&& (1085102592571150095 : Int64)) (8 : Int32))) + (XT.ushrL ((((((p0 - ((XT.ushrL p0 (1 : Int32)) &&& (6148914691236517205 : Int64))) &&& (3689348814741910323 : Int64)) + ((XT.ushrL (p0 - ((XT.ushrL p0 (1 : Int32)) &&& (6148914691236517205 : Int64))) (2 : Int32)) &&& (3689348814741910323 : Int64))) + (XT.ushrL (((p0 - ((XT.ushrL p0 (1 : Int32)) &&& (6148914691236517205 : Int64))) &&& (3689348814741910323 : Int64)) + ((XT.ushrL (p0 - ((XT.ushrL p0 (1 : Int32)) &&& (6148914691236517205 : Int64))) (2 : Int32)) &&& (3689348814741910323 : Int64))) (4 : Int32))) &&& (1085102592571150095 : Int64)) + (XT.ushrL (((((p0 - ((XT.ushrL p0 (1 : Int32)) &&& (6148914691236517205 : Int64))) &&& (3689348814741910323 : Int64)) + ((XT.ushrL (p0 - ((XT.ushrL p0 (1 : Int32)) &&& (6148914691236517205 : Int64))) (2 : Int32)) &&& (3689348814741910323 : Int64))) + (XT.ushrL (((p0 - ((XT.ushrL p0 (1 : Int32)) &&& (6148914691236517205 : Int64))) &&& (3689348814741910323 : Int64)) + ((XT.ushrL (p0 - ((XT.ushrL p0 (1 : Int32)) &&& (6148914691236517205 : Int64))) (2 : Int32)) &&& (3689348814741910323 : Int64))) (4 : Int32))) &&& (1085102592571150095 : Int64)) (8 : Int32))) (16 : Int32))) + (XT.ushrL (((((((p0 - ((XT.ushrL p0 (1 : Int32)) &&& (6148914691236517205 : Int64))) &&& (3689348814741910323 : Int64)) + ((XT.ushrL (p0 - ((XT.ushrL p0 (1 : Int32)) &&& (6148914691236517205 : Int64))) (2 : Int32)) &&& (3689348814741910323 : Int64))) + (XT.ushrL (((p0 - ((XT.ushrL p0 (1 : Int32)) &&& (6148914691236517205 : Int64))) &&& (3689348814741910323 : Int64)) + ((XT.ushrL (p0 - ((XT.ushrL p0 (1 : Int32)) &&& (6148914691236517205 : Int64))) (2 : Int32)) &&& (3689348814741910323 : Int64))) (4 : Int32))) &&& (1085102592571150095 : Int64)) + (XT.ushrL (((((p0 - ((XT.ushrL p0 (1 : Int32)) &&& (6148914691236517205 : Int64))) &&& (3689348814741910323 : Int64)) + ((XT.ushrL (p0 - ((XT.ushrL p0 (1 : Int32)) &&& (6148914691236517205 : Int64))) (2 : Int32)) &&& (3689348814741910323 : Int64))) + (XT.ushrL (((p0 - ((XT.ushrL p0 (1 : Int32)) &&& (6148914691236517205 : Int64))) &&& (3689348814741910323 : Int64)) + ((XT.ushrL (p0 - ((XT.ushrL p0 (1 : Int32)) &&& (6148914691236517205 : Int64))) (2 : Int32)) &&& (3689348814741910323 : Int64))) (4 : Int32))) &&& (1085102592571150095 : Int64)) (8 : Int32))) + (XT.ushrL ((((((p0 - ((XT.ushrL p0 (1 : Int32)) &&& (6148914691236517205 : Int64))) &&& (3689348814741910323 : Int64)) + ((XT.ushrL (p0 - ((XT.ushrL p0 (1 : Int32)) &&& (6148914691236517205 : Int64))) (2 : Int32)) &&& (3689348814741910323 : Int64))) + (XT.ushrL (((p0 - ((XT.ushrL p0 (1 : Int32)) &&& (6148914691236517205 : Int64))) &&& (3689348814741910323 : Int64)) + ((XT.ushrL (p0 - ((XT.ushrL p0 (1 : Int32)) &&& (6148914691236517205 : Int64))) (2 : Int32)) &&& (3689348814741910323 : Int64))) (4 : Int32))) &&& (1085102592571150095 : Int64)) + (XT.ushrL (((((p0 - ((XT.ushrL p0 (1 : Int32)) &&& (6148914691236517205 : Int64))) &&& (3689348814741910323 : Int64)) + ((XT.ushrL (p0 - ((XT.ushrL p0 (1 : Int32)) &&& (6148914691236517205 : Int64))) (2 : Int32)) &&& (3689348814741910323 : Int64))) + (XT.ushrL (((p0 - ((XT.ushrL p0 (1 : Int32)) &&& (6148914691236517205 : Int64))) &&& (3689348814741910323 : Int64)) + ((XT.ushrL (p0 - ((XT.ushrL p0 (1 : Int32)) &&& (6148914691236517205 : Int64))) (2 : Int32)) &&& (3689348814741910323 : Int64))) (4 : Int32))) &&& (1085102592571150095 : Int64)) (8 : Int32))) (16 : Int32))) (32 : Int32)))), .second] [(.int ((((((((((p0 - ((XT.ushrL p0 (1 : Int32)) &&& (6148914691236517205 : Int64))) &&& (3689348814741910323 : Int64)) + ((XT.ushrL (p0 - ((XT.ushrL p0 (1 : Int32)) &&& (6148914691236517205 : Int64))) (2 : Int32)) &&& (3689348814741910323 : Int64))) + (XT.ushrL (((p0 - ((XT.ushrL p0 (1 : Int32)) &&& (6148914691236517205 : Int64))) &&& (3689348814741910323 : Int64)) + ((XT.ushrL (p0 - ((XT.ushrL p0 (1 : Int32)) &&& (6148914691236517205 : Int64))) (2 : Int32)) &&& (3689348814741910323 : Int64))) (4 : Int32))) &&& (1085102592571150095 : Int64)) + (XT.ushrL (((((p0 - ((XT.ushrL p0 (1 : Int32)) &&& (6148914691236517205 : Int64))) &&& (3689348814741910323 : Int64)) + ((XT.ushrL (p0 - ((XT.ushrL p0 (1 : Int32)) &&& (6148914691236517205 : Int64))) (2 : Int32)) &&& (3689348814741910323 : Int64))) + (XT.ushrL (((p0 - ((XT.ushrL p0 (1 : Int32)) &&& (6148914691236517205 : Int64))) &&& (3689348814741910323 : Int64)) + ((XT.ushrL (p0 - ((XT.ushrL p0 (1 : Int32)) &&& (6148914691236517205 : Int64))) (2 : Int32)) &&& (3689348814741910323 : Int64))) (4 : Int32))) &&& (1085102592571150095 : Int64)) (8 : Int32))) + (XT.ushrL ((((((p0 - ((XT.ushrL p0 (1 : Int32)) &&& (6148914691236517205 : Int64))) &&& (3689348814741910323 : Int64)) + ((XT.ushrL (p0 - ((XT.ushrL p0 (1 : Int32)) &&& (6148914691236517205 : Int64))) (2 : Int32)) &&& (3689348814741910323 : Int64))) + (XT.ushrL (((p0 - ((XT.ushrL p0 (1 : Int32)) &&& (6148914691236517205 : Int64))) &&& (3689348814741910323 : Int64)) + ((XT.ushrL (p0 - ((XT.ushrL p0 (1 : Int32)) &&& (6148914691236517205 : Int64))) (2 : Int32)) &&& (3689348814741910323 : Int64))) (4 : Int32))) &&& (1085102592571150095 : Int64)) + (XT.ushrL (((((p0 - ((XT.ushrL p0 (1 : Int32)) &&& (6148914691236517205 : Int64))) &&& (3689348814741910323 : Int64)) + ((XT.ushrL (p0 - ((XT.ushrL p0 (1 : Int32)) &&& (6148914691236517205 : Int64))) (2 : Int32)) &&& (3689348814741910323 : Int64))) + (XT.ushrL (((p0 - ((XT.ushrL p0 (1 : Int32)) &&& (6148914691236517205 : Int64))) &&& (3689348814741910323 : Int64)) + ((XT.ushrL (p0 - ((XT.ushrL p0 (1 : Int32)) &&& (6148914691236517205 : Int64))) (2 : Int32)) &&& (3689348814741910323 : Int64))) (4 : Int32))) &&& (1085102592571150095 : Int64)) (8 : Int32))) (16 : Int32))) + (XT.ushrL (((((((p0 - ((XT.ushrL p0 (1 : Int32)) &&& (6148914691236517205 : Int64))) &&& (3689348814741910323 : Int64)) + ((XT.ushrL (p0 - ((XT.ushrL p0 (1 : Int32)) &&& (6148914691236517205 : Int64))) (2 : Int32)) &&& (3689348814741910323 : Int64))) + (XT.ushrL (((p0 - ((XT.ushrL p0 (1 : Int32)) &&& (6148914691236517205 : Int64))) &&& (3689348814741910323 : Int64)) + ((XT.ushrL (p0 - ((XT.ushrL p0 (1 : Int32)) &&& (6148914691236517205 : Int64))) (2 : Int32)) &&& (3689348814741910323 : Int64))) (4 : Int32))) &&& (1085102592571150095 : Int64)) + (XT.ushrL (((((p0 - ((XT.ushrL p0 (1 : Int32)) &&& (6148914691236517205 : Int64))) &&& (3689348814741910323 : Int64)) + ((XT.ushrL (p0 - ((XT.ushrL p0 (1 : Int32)) &&& (6148914691236517205 : Int64))) (2 : Int32)) &&& (3689348814741910323 : Int64))) + (XT.ushrL (((p0 - ((XT.ushrL p0 (1 : Int32)) &&& (6148914691236517205 : Int64))) &&& (3689348814741910323 : Int64)) + ((XT.ushrL (p0 - ((XT.ushrL p0 (1 : Int32)) &&& (6148914691236517205 : Int64))) (2 : Int32)) &&& (3689348814741910323 : Int64))) (4 : Int32))) &&& (1085102592571150095 : Int64)) (8 : Int32))) + (XT.ushrL ((((((p0 - ((XT.ushrL p0 (1 : Int32)) &&& (6148914691236517205 : Int64))) &&& (3689348814741910323 : Int64)) + ((XT.ushrL (p0 - ((XT.ushrL p0 (1 : Int32)) &&& (6148914691236517205 : Int64))) (2 : Int32)) &&& (3689348814741910323 : Int64))) + (XT.ushrL (((p0 - ((XT.ushrL p0 (1 : Int32)) &&& (6148914691236517205 : Int64))) &&& (3689348814741910323 : Int64)) + ((XT.ushrL (p0 - ((XT.ushrL p0 (1 : Int32)) &&& (6148914691236517205 : Int64))) (2 : Int32)) &&& (3689348814741910323 : Int64))) (4 : Int32))) &&& (1085102592571150095 : Int64)) + (XT.ushrL (((((p0 - ((XT.ushrL p0 (1 : Int32)) &&& (6148914691236517205 : Int64))) &&& (3689348814741910323 : Int64)) + ((XT.ushrL (p0 - ((XT.ushrL p0 (1 : Int32)) &&& (6148914691236517205 : Int64))) (2 : Int32)) &&& (3689348814741910323 : Int64))) + (XT.ushrL (((p0 - ((XT.ushrL p0 (1 : Int32)) &&& (6148914691236517205 : Int64))) &&& (3689348814741910323 : Int64)) + ((XT.ushrL (p0 - ((XT.ushrL p0 (1 : Int32)) &&& (6148914691236517205 : Int64))) (2 : Int32)) &&& (3689348814741910323 : Int64))) (4 : Int32))) &&& (1085102592571150095 : Int64)) (8 : Int32))) (16 : Int32))) (32 : Int32)))).toInt32))])) (fun t k => XT.l2i N0.here hx rfl (hb hby d13_56) rfl k) ?_
  refine Ends.go (f' := (mkF m 59 #[.val (.long ((((((((p0 - ((XT.ushrL p0 (1 : Int32)) &&& (6148914691236517205 : Int64))) &&& (3689348814741910323 : Int64)) + ((XT.ushrL (p0 - ((XT.ushrL p0 (1 : Int32)) &&& (6148914691236517205 : Int64))) (2 : Int32)) &&& (3689348814741910323 : Int64))) + (XT.ushrL (((p0 - ((XT.ushrL p0 (1 : Int32)) &&& (6148914691236517205 : Int64))) &&& (3689348814741910323 : Int64)) + ((XT.ushrL (p0 - ((XT.ushrL p0 (1 : Int32)) &&& (6148914691236517205 : Int64))) (2 : Int32)) &&& (3689348814741910323 : Int64))) (4 : Int32))) &&& (1085102592571150095 : Int64)) + (XT.ushrL (((((p0 - ((XT.ushrL p0 (1 : Int32)) &&& (6148914691236517205 : Int64))) &&& (3689348814741910323 : Int64)) + ((XT.ushrL (p0 - ((XT.ushrL p0 (1 : Int32)) &&& (6148914691236517205 : Int64))) (2 : Int32)) &&& (3689348814741910323 : Int64))) + (XT.ushrL (((p0 - ((XT.ushrL p0 (1 : Int32)) &&& (6148914691236517205 : Int64))) &&& (3689348814741910323 : Int64)) + ((XT.ushrL (p0 - ((XT.ushrL p0 (1 : Int32)) &&& (6148914691236517205 : Int64))) (2 : Int32)) &&& (3689348814741910323 : Int64))) (4 : Int32))) &&& (1085102592571150095 : Int64)) (8 : Int32))) + (XT.ushrL ((((((p0 - ((XT.ushrL p0 (1 : Int32)) &&& (6148914691236517205 : Int64))) &&& (3689348814741910323 : Int64)) + ((XT.ushrL (p0 - ((XT.ushrL p0 (1 : Int32)) &&& (6148914691236517205 : Int64))) (2 : Int32)) &&& (3689348814741910323 : Int64))) + (XT.ushrL (((p0 - ((XT.ushrL p0 (1 : Int32)) &&& (6148914691236517205 : Int64))) &&& (3689348814741910323 : Int64)) + ((XT.ushrL (p0 - ((XT.ushrL p0 (1 : Int32)) &&& (6148914691236517205 : Int64))) (2 : Int32)) &&& (3689348814741910323 : Int64))) (4 : Int32))) &&& (1085102592571150095 : Int64)) + (XT.ushrL (((((p0 - ((XT.ushrL p0 (1 : Int32)) &&& (6148914691236517205 : Int64))) &&& (3689348814741910323 : Int64)) + ((XT.ushrL (p0 - ((XT.ushrL p0 (1 : Int32)) &&& (6148914691236517205 : Int64))) (2 : Int32)) &&& (3689348814741910323 : Int64))) + (XT.ushrL (((p0 - ((XT.ushrL p0 (1 : Int32)) &&& (6148914691236517205 : Int64))) &&& (3689348814741910323 : Int64)) + ((XT.ushrL (p0 - ((XT.ushrL p0 (1 : Int32)) &&& (6148914691236517205 : Int64))) (2 : Int32)) &&& (3689348814741910323 : Int64))) (4 : Int32))) &&& (1085102592571150095 : Int64)) (8 : Int32))) (16 : Int32))) + (XT.ushrL (((((((p0 - ((XT.ushrL p0 (1 : Int32)) &&& (6148914691236517205 : Int64))) &&& (3689348814741910323 : Int64)) + ((XT.ushrL (p0 - ((XT.ushrL p0 (1 : Int32)) &&& (6148914691236517205 : Int64))) (2 : Int32)) &&& (3689348814741910323 : Int64))) + (XT.ushrL (((p0 - ((XT.ushrL p0 (1 : Int32)) &&& (6148914691236517205 : Int64))) &&& (3689348814741910323 : Int64)) + ((XT.ushrL (p0 - ((XT.ushrL p0 (1 : Int32)) &&& (6148914691236517205 : Int64))) (2 : Int32)) &&& (3689348814741910323 : Int64))) (4 : Int32))) &&& (1085102592571150095 : Int64)) + (XT.ushrL (((((p0 - ((XT.ushrL p0 (1 : Int32)) &&& (6148914691236517205 : Int64))) &&& (3689348814741910323 : Int64)) + ((XT.ushrL (p0 - ((XT.ushrL p0 (1 : Int32)) &&& (6148914691236517205 : Int64))) (2 : Int32)) &&& (3689348814741910323 : Int64))) + (XT.ushrL (((p0 - ((XT.ushrL p0 (1 : Int32)) &&& (6148914691236517205 : Int64))) &&& (3689348814741910323 : Int64)) + ((XT.ushrL (p0 - ((XT.ushrL p0 (1 : Int32)) &&& (6148914691236517205 : Int64))) (2 : Int32)) &&& (3689348814741910323 : Int64))) (4 : Int32))) &&& (1085102592571150095 : Int64)) (8 : Int32))) + (XT.ushrL ((((((p0 - ((XT.ushrL p0 (1 : Int32)) &&& (6148914691236517205 : Int64))) &&& (3689348814741910323 : Int64)) + ((XT.ushrL (p0 - ((XT.ushrL p0 (1 : Int32)) &&& (6148914691236517205 : Int64))) (2 : Int32)) &&& (3689348814741910323 : Int64))) + (XT.ushrL (((p0 - ((XT.ushrL p0 (1 : Int32)) &&& (6148914691236517205 : Int64))) &&& (3689348814741910323 : Int64)) + ((XT.ushrL (p0 - ((XT.ushrL p0 (1 : Int32)) &&& (6148914691236517205 : Int64))) (2 : Int32)) &&& (3689348814741910323 : Int64))) (4 : Int32))) &&& (1085102592571150095 : Int64)) + (XT.ushrL (((((p0 - ((XT.ushrL p0 (1 : Int32)) &&& (6148914691236517205 : Int64))) &&& (3689348814741910323 : Int64)) + ((XT.ushrL (p0 - ((XT.ushrL p0 (1 : Int32)) &&& (6148914691236517205 : Int64))) (2 : Int32)) &&& (3689348814741910323 : Int64))) + (XT.ushrL (((p0 - ((XT.ushrL p0 (1 : Int32)) &&& (6148914691236517205 : Int64))) &&& (3689348814741910323 : Int64)) + ((XT.ushrL (p0 - ((XT.ushrL p0 (1 : Int32)) &&& (6148914691236517205 : Int64))) (2 : Int32)) &&& (3689348814741910323 : Int64))) (4 : Int32))) &&& (1085102592571150095 : Int64)) (8 : Int32))) (16 : Int32))) (32 : Int32)))), .second] [(.int (127 : Int32)), (.int ((((((((((p0 - ((XT.ushrL p0 (1 : Int32)) &&& (6148914691236517205 : Int64))) &&& (3689348814741910323 : Int64)) + ((XT.ushrL (p0 - ((XT.ushrL p0 (1 : Int32)) &&& (6148914691236517205 : Int64))) (2 : Int32)) &&& (3689348814741910323 : Int64))) + (XT.ushrL (((p0 - ((XT.ushrL p0 (1 : Int32)) &&& (6148914691236517205 : Int64))) &&& (3689348814741910323 : Int64)) + ((XT.ushrL (p0 - ((XT.ushrL p0 (1 : Int32)) &&& (6148914691236517205 : Int64))) (2 : Int32)) &&& (3689348814741910323 : Int64))) (4 : Int32))) &&& (1085102592571150095 : Int64)) + (XT.ushrL (((((p0 - ((XT.ushrL p0 (1 : Int32)) &&& (6148914691236517205 : Int64))) &&& (3689348814741910323 : Int64)) + ((XT.ushrL (p0 - ((XT.ushrL p0 (1 : Int32)) &&& (6148914691236517205 : Int64))) (2 : Int32)) &&& (3689348814741910323 : Int64))) + (XT.ushrL (((p0 - ((XT.ushrL p0 (1 : Int32)) &&& (6148914691236517205 : Int64))) &&& (3689348814741910323 : Int64)) + ((XT.ushrL (p0 - ((XT.ushrL p0 (1 : Int32)) &&& (6148914691236517205 : Int64))) (2 : Int32)) &&& (3689348814741910323 : Int64))) (4 : Int32))) &&& (1085102592571150095 : Int64)) (8 : Int32))) + (XT.ushrL ((((((p0 - ((XT.ushrL p0 (1 : Int32)) &&& (6148914691236517205 : Int64))) &&& (3689348814741910323 : Int64)) + ((XT.ushrL (p0 - ((XT.ushrL p0 (1 : Int32)) &&& (6148914691236517205 : Int64))) (2 : Int32)) &&& (3689348814741910323 : Int64))) + (XT.ushrL (((p0 - ((XT.ushrL p0 (1 : Int32)) &&& (6148914691236517205 : Int64))) &&& (3689348814741910323 : Int64)) + ((XT.ushrL (p0 - ((XT.ushrL p0 (1 : Int32)) &&& (6148914691236517205 : Int64))) (2 : Int32)) &&& (3689348814741910323 : Int64))) (4 : Int32))) &&& (1085102592571150095 : Int64)) + (XT.ushrL (((((p0 - ((XT.ushrL p0 (1 : Int32)) &&& (6148914691236517205 : Int64))) &&& (3689348814741910323 : Int64)) + ((XT.ushrL (p0 - ((XT.ushrL p0 (1 : Int32)) &&& (6148914691236517205 : Int64))) (2 : Int32)) &&& (3689348814741910323 : Int64))) + (XT.ushrL (((p0 - ((XT.ushrL p0 (1 : Int32)) &&& (6148914691236517205 : Int64))) &&& (3689348814741910323 : Int64)) + ((XT.ushrL (p0 - ((XT.ushrL p0 (1 : Int32)) &&& (6148914691236517205 : Int64))) (2 : Int32)) &&& (3689348814741910323 : Int64))) (4 : Int32))) &&& (1085102592571150095 : Int64)) (8 : Int32))) (16 : Int32))) + (XT.ushrL (((((((p0 - ((XT.ushrL p0 (1 : Int32)) &&& (6148914691236517205 : Int64))) &&& (3689348814741910323 : Int64)) + ((XT.ushrL (p0 - ((XT.ushrL p0 (1 : Int32)) &&& (6148914691236517205 : Int64))) (2 : Int32)) &&& (3689348814741910323 : Int64))) + (XT.ushrL (((p0 - ((XT.ushrL p0 (1 : Int32)) &&& (6148914691236517205 : Int64))) &&& (3689348814741910323 : Int64)) + ((XT.ushrL (p0 - ((XT.ushrL p0 (1 : Int32)) &&& (6148914691236517205 : Int64))) (2 : Int32)) &&& (3689348814741910323 : Int64))) (4 : Int32))) &&& (1085102592571150095 : Int64)) + (XT.ushrL (((((p0 - ((XT.ushrL p0 (1 : Int32)) &&& (6148914691236517205 : Int64))) &&& (3689348814741910323 : Int64)) + ((XT.ushrL (p0 - ((XT.ushrL p0 (1 : Int32)) &&& (6148914691236517205 : Int64))) (2 : Int32)) &&& (3689348814741910323 : Int64))) + (XT.ushrL (((p0 - ((XT.ushrL p0 (1 : Int32)) &&& (6148914691236517205 : Int64))) &&& (3689348814741910323 : Int64)) + ((XT.ushrL (p0 - ((XT.ushrL p0 (1 : Int32)) &&& (6148914691236517205 : Int64))) (2 : Int32)) &&& (3689348814741910323 : Int64))) (4 : Int32))) &&& (1085102592571150095 : Int64)) (8 : Int32))) + (XT.ushrL ((((((p0 - ((XT.ushrL p0 (1 : Int32)) &&& (6148914691236517205 : Int64))) &&& (3689348814741910323 : Int64)) + ((XT.ushrL (p0 - ((XT.ushrL p0 (1 : Int32)) &&& (6148914691236517205 : Int64))) (2 : Int32)) &&& (3689348814741910323 : Int64))) + (XT.ushrL (((p0 - ((XT.ushrL p0 (1 : Int32)) &&& (6148914691236517205 : Int64))) &&& (3689348814741910323 : Int64)) + ((XT.ushrL (p0 - ((XT.ushrL p0 (1 : Int32)) &&& (6148914691236517205 : Int64))) (2 : Int32)) &&& (3689348814741910323 : Int64))) (4 : Int32))) &&& (1085102592571150095 : Int64)) + (XT.ushrL (((((p0 - ((XT.ushrL p0 (1 : Int32)) &&& (6148914691236517205 : Int64))) &&& (3689348814741910323 : Int64)) + ((XT.ushrL (p0 - ((XT.ushrL p0 (1 : Int32)) &&& (6148914691236517205 : Int64))) (2 : Int32)) &&& (3689348814741910323 : Int64))) + (XT.ushrL (((p0 - ((XT.ushrL p0 (1 : Int32)) &&& (6148914691236517205 : Int64))) &&& (3689348814741910323 : Int64)) + ((XT.ushrL (p0 - ((XT.ushrL p0 (1 : Int32)) &&& (6148914691236517205 : Int64))) (2 : Int32)) &&& (3689348814741910323 : Int64))) (4 : Int32))) &&& (1085102592571150095 : Int64)) (8 : Int32))) (16 : Int32))) (32 : Int32)))).toInt32))])) (fun t k => XS.bipush N0.here hx rfl (hb hby d13_57) k) ?_
  refine Ends.go (f' := (mkF m 60 #[.val (.long ((((((((p0 - ((XT.ushrL p0 (1 : Int32)) &&& (6148914691236517205 : Int64))) &&& (3689348814741910323 : Int64)) + ((XT.ushrL (p0 - ((XT.ushrL p0 (1 : Int32)) &&& (6148914691236517205 : Int64))) (2 : Int32)) &&& (3689348814741910323 : Int64))) + (XT.ushrL (((p0 - ((XT.ushrL p0 (1 : Int32)) &&& (6148914691236517205 : Int64))) &&& (3689348814741910323 : Int64)) + ((XT.ushrL (p0 - ((XT.ushrL p0 (1 : Int32)) &&& (6148914691236517205 : Int64))) (2 : Int32)) &&& (3689348814741910323 : Int64))) (4 : Int32))) &&& (1085102592571150095 : Int64)) + (XT.ushrL (((((p0 - ((XT.ushrL p0 (1 : Int32)) &&& (6148914691236517205 : Int64))) &&& (3689348814741910323 : Int64)) + ((XT.ushrL (p0 - ((XT.ushrL p0 (1 : Int32)) &&& (6148914691236517205 : Int64))) (2 : Int32)) &&& (3689348814741910323 : Int64))) + (XT.ushrL (((p0 - ((XT.ushrL p0 (1 : Int32)) &&& (6148914691236517205 : Int64))) &&& (3689348814741910323 : Int64)) + ((XT.ushrL (p0 - ((XT.ushrL p0 (1 : Int32)) &&& (6148914691236517205 : Int64))) (2 : Int32)) &&& (3689348814741910323 : Int64))) (4 : Int32))) &&& (1085102592571150095 : Int64)) (8 : Int32))) + (XT.ushrL ((((((p0 - ((XT.ushrL p0 (1 : Int32)) &&& (6148914691236517205 : Int64))) &&& (3689348814741910323 : Int64)) + ((XT.ushrL (p0 - ((XT.ushrL p0 (1 : Int32)) &&& (6148914691236517205 : Int64))) (2 : Int32)) &&& (3689348814741910323 : Int64))) + (XT.ushrL (((p0 - ((XT.ushrL p0 (1 : Int32)) &&& (6148914691236517205 : Int64))) &&& (3689348814741910323 : Int64)) + ((XT.ushrL (p0 - ((XT.ushrL p0 (1 : Int32)) &&& (6148914691236517205 : Int64))) (2 : Int32)) &&& (3689348814741910323 : Int64))) (4 : Int32))) &&& (1085102592571150095 : Int64)) + (XT.ushrL (((((p0 - ((XT.ushrL p0 (1 : Int32)) &&& (6148914691236517205 : Int64))) &&& (3689348814741910323 : Int64)) + ((XT.ushrL (p0 - ((XT.ushrL p0 (1 : Int32)) &&& (6148914691236517205 : Int64))) (2 : Int32)) &&& (3689348814741910323 : Int64))) + (XT.ushrL (((p0 - ((XT.ushrL p0 (1 : Int32)) &&& (6148914691236517205 : Int64))) &&& (3689348814741910323 : Int64)) + ((XT.ushrL (p0 - ((XT.ushrL p0 (1 : Int32)) &&& (6148914691236517205 : Int64))) (2 : Int32)) &&& (3689348814741910323 : Int64))) (4 : Int32))) &&& (1085102592571150095 : Int64)) (8 : Int32))) (16 : Int32))) + (XT.ushrL (((((((p0 - ((XT.ushrL p0 (1 : Int32)) &&& (6148914691236517205 : Int64))) &&& (3689348814741910323 : Int64)) + ((XT.ushrL (p0 - ((XT.ushrL p0 (1 : Int32)) &&& (6148914691236517205 : Int64))) (2 : Int32)) &&& (3689348814741910323 : Int64))) + (XT.ushrL (((p0 - ((XT.ushrL p0 (1 : Int32)) &&& (6148914691236517205 : Int64))) &&& (3689348814741910323 : Int64)) + ((XT.ushrL (p0 - ((XT.ushrL p0 (1 : Int32)) &&& (6148914691236517205 : Int64))) (2 : Int32)) &&& (3689348814741910323 : Int64))) (4 : Int32))) &&& (1085102592571150095 : Int64)) + (XT.ushrL (((((p0 - ((XT.ushrL p0 (1 : Int32)) &&& (6148914691236517205 : Int64))) &&& (3689348814741910323 : Int64)) + ((XT.ushrL (p0 - ((XT.ushrL p0 (1 : Int32)) &&& (6148914691236517205 : Int64))) (2 : Int32)) &&& (3689348814741910323 : Int64))) + (XT.ushrL (((p0 - ((XT.ushrL p0 (1 : Int32)) &&& (6148914691236517205 : Int64))) &&& (3689348814741910323 : Int64)) + ((XT.ushrL (p0 - ((XT.ushrL p0 (1 : Int32)) &&& (6148914691236517205 : Int64))) (2 : Int32)) &&& (3689348814741910323 : Int64))) (4 : Int32))) &&& (1085102592571150095 : Int64)) (8 : Int32))) + (XT.ushrL ((((((p0 - ((XT.ushrL p0 (1 : Int32)) &&& (6148914691236517205 : Int64))) &&& (3689348814741910323 : Int64)) + ((XT.ushrL (p0 - ((XT.ushrL p0 (1 : Int32)) &&& (6148914691236517205 : Int64))) (2 : Int32)) &&& (3689348814741910323 : Int64))) + (XT.ushrL (((p0 - ((XT.ushrL p0 (1 : Int32)) &&& (6148914691236517205 : Int64))) &&& (3689348814741910323 : Int64)) + ((XT.ushrL (p0 - ((XT.ushrL p0 (1 : Int32)) &&& (6148914691236517205 : Int64))) (2 : Int32)) &&& (3689348814741910323 : Int64))) (4 : Int32))) &&& (1085102592571150095 : Int64)) + (XT.ushrL (((((p0 - ((XT.ushrL p0 (1 : Int32)) &&& (6148914691236517205 : Int64))) &&& (3689348814741910323 : Int64)) + ((XT.ushrL (p0 - ((XT.ushrL p0 (1 : Int32)) &&& (6148914691236517205 : Int64))) (2 : Int32)) &&& (3689348814741910323 : Int64))) + (XT.ushrL (((p0 - ((XT.ushrL p0 (1 : Int32)) &&& (6148914691236517205 : Int64))) &&& (3689348814741910323 : Int64)) + ((XT.ushrL (p0 - ((XT.ushrL p0 (1 : Int32)) &&& (6148914691236517205 : Int64))) (2 : Int32)) &&& (3689348814741910323 : Int64))) (4 : Int32))) &&& (1085102592571150095 : Int64)) (8 : Int32))) (16 : Int32))) (32 : Int32)))), .second] [(.int (((((((((((p0 - ((XT.ushrL p0 (1 : Int32)) &&& (6148914691236517205 : Int64))) &&& (3689348814741910323 : Int64)) + ((XT.ushrL (p0 - ((XT.ushrL p0 (1 : Int32)) &&& (6148914691236517205 : Int64))) (2 : Int32)) &&& (3689348814741910323 : Int64))) + (XT.ushrL (((p0 - ((XT.ushrL p0 (1 : Int32)) &&& (6148914691236517205 : Int64))) &&& (3689348814741910323 : Int64)) + ((XT.ushrL (p0 - ((XT.ushrL p0 (1 : Int32)) &&& (6148914691236517205 : Int64))) (2 : Int32)) &&& (3689348814741910323 : Int64))) (4 : Int32))) &&& (1085102592571150095 : Int64)) + (XT.ushrL (((((p0 - ((XT.ushrL p0 (1 : Int32)) &&& (6148914691236517205 : Int64))) &&& (3689348814741910323 : Int64)) + ((XT.ushrL (p0 - ((XT.ushrL p0 (1 : Int32)) &&& (6148914691236517205 : Int64))) (2 : Int32)) &&& (3689348814741910323 : Int64))) + (XT.ushrL (((p0 - ((XT.ushrL p0 (1 : Int32)) &&& (6148914691236517205 : Int64))) &&& (3689348814741910323 : Int64)) + ((XT.ushrL (p0 - ((XT.ushrL p0 (1 : Int32)) &&& (6148914691236517205 : Int64))) (2 : Int32)) &&& (3689348814741910323 : Int64))) (4 : Int32))) &&& (1085102592571150095 : Int64)) (8 : Int32))) + (XT.ushrL ((((((p0 - ((XT.ushrL p0 (1 : Int32)) &&& (6148914691236517205 : Int64))) &&& (3689348814741910323 : Int64)) + ((XT.ushrL (p0 - ((XT.ushrL p0 (1 : Int32)) &&& (6148914691236517205 : Int64))) (2 : Int32)) &&& (3689348814741910323 : Int64))) + (XT.ushrL (((p0 - ((XT.ushrL p0 (1 : Int32)) &&& (6148914691236517205 : Int64))) &&& (3689348814741910323 : Int64)) + ((XT.ushrL (p0 - ((XT.ushrL p0 (1 : Int32)) &&& (6148914691236517205 : Int64))) (2 : Int32)) &&& (3689348814741910323 : Int64))) (4 : Int32))) &&& (1085102592571150095 : Int64)) + (XT.ushrL (((((p0 - ((XT.ushrL p0 (1 : Int32)) &&& (6148914691236517205 : Int64))) &&& (3689348814741910323 : Int64)) + ((XT.ushrL (p0 - ((XT.ushrL p0 (1 : Int32)) &&& (6148914691236517205 : Int64))) (2 : Int32)) &&& (3689348814741910323 : Int64))) + (XT.ushrL (((p0 - ((XT.ushrL p0 (1 : Int32)) &&& (6148914691236517205 : Int64))) &&& (3689348814741910323 : Int64)) + ((XT.ushrL (p0 - ((XT.ushrL p0 (1 : Int32)) &&& (6148914691236517205 : Int64))) (2 : Int32)) &&& (3689348814741910323 : Int64))) (4 : Int32))) &&& (1085102592571150095 : Int64)) (8 : Int32))) (16 : Int32))) + (XT.ushrL (((((((p0 - ((XT.ushrL p0 (1 : Int32)) &&& (6148914691236517205 : Int64))) &&& (3689348814741910323 : Int64)) + ((XT.ushrL (p0 - ((XT.ushrL p0 (1 : Int32)) &&& (6148914691236517205 : Int64))) (2 : Int32)) &&& (3689348814741910323 : Int64))) + (XT.ushrL (((p0 - ((XT.ushrL p0 (1 : Int32)) &&& (6148914691236517205 : Int64))) &&& (3689348814741910323 : Int64)) + ((XT.ushrL (p0 - ((XT.ushrL p0 (1 : Int32)) &&& (6148914691236517205 : Int64))) (2 : Int32)) &&& (3689348814741910323 : Int64))) (4 : Int32))) &&& (1085102592571150095 : Int64)) + (XT.ushrL (((((p0 - ((XT.ushrL p0 (1 : Int32)) &&& (6148914691236517205 : Int64))) &&& (3689348814741910323 : Int64)) + ((XT.ushrL (p0 - ((XT.ushrL p0 (1 : Int32)) &&& (6148914691236517205 : Int64))) (2 : Int32)) &&& (3689348814741910323 : Int64))) + (XT.ushrL (((p0 - ((XT.ushrL p0 (1 : Int32)) &&& (6148914691236517205 : Int64))) &&& (3689348814741910323 : Int64)) + ((XT.ushrL (p0 - ((XT.ushrL p0 (1 : Int32)) &&& (6148914691236517205 : Int64))) (2 : Int32)) &&& (3689348814741910323 : Int64))) (4 : Int32))) &&& (1085102592571150095 : Int64)) (8 : Int32))) + (XT.ushrL ((((((p0 - ((XT.ushrL p0 (1 : Int32)) &&& (6148914691236517205 : Int64))) &&& (3689348814741910323 : Int64)) + ((XT.ushrL (p0 - ((XT.ushrL p0 (1 : Int32)) &&& (6148914691236517205 : Int64))) (2 : Int32)) &&& (3689348814741910323 : Int64))) + (XT.ushrL (((p0 - ((XT.ushrL p0 (1 : Int32)) &&& (6148914691236517205 : Int64))) &&& (3689348814741910323 : Int64)) + ((XT.ushrL (p0 - ((XT.ushrL p0 (1 : Int32)) &&& (6148914691236517205 : Int64))) (2 : Int32)) &&& (3689348814741910323 : Int64))) (4 : Int32))) &&& (1085102592571150095 : Int64)) + (XT.ushrL (((((p0 - ((XT.ushrL p0 (1 : Int32)) &&& (6148914691236517205 : Int64))) &&& (3689348814741910323 : Int64)) + ((XT.ushrL (p0 - ((XT.ushrL p0 (1 : Int32)) &&& (6148914691236517205 : Int64))) (2 : Int32)) &&& (3689348814741910323 : Int64))) + (XT.ushrL (((p0 - ((XT.ushrL p0 (1 : Int32)) &&& (6148914691236517205 : Int64))) &&& (3689348814741910323 : Int64)) + ((XT.ushrL (p0 - ((XT.ushrL p0 (1 : Int32)) &&& (6148914691236517205 : Int64))) (2 : Int32)) &&& (3689348814741910323 : Int64))) (4 : Int32))) &&& (1085102592571150095 : Int64)) (8 : Int32))) (16 : Int32))) (32 : Int32)))).toInt32) &&& (127 : Int32)))])) (fun t k => XS.iand N0.here hx rfl (hb hby d13_59) rfl k) ?_
  exact retI N0 hx hlk hret (hb hby d13_60) ⟨rfl, rfl⟩ (nle rfl) (nle rfl)
theorem d16_0 : decode jdk_33_method_47_code 0 = .ok (.iload_n 0, 1) := by decide +kernel
theorem d16_1 : decode jdk_33_method_47_code 1 = .ok (.ifCond .gt 14, 3) := by decide +kernel
theorem d16_4 : decode jdk_33_method_47_code 4 = .ok (.iload_n 0, 1) := by decide +kernel
theorem d16_5 : decode jdk_33_method_47_code 5 = .ok (.ifCond .ne 8, 3) := by decide +kernel
theorem d16_8 : decode jdk_33_method_47_code 8 = .ok (.bipush 32, 2) := by decide +kernel
theorem d16_10 : decode jdk_33_method_47_code 10 = .ok (.goto 4, 3) := by decide +kernel
theorem d16_13 : decode jdk_33_method_47_code 13 = .ok (.iconst 0, 1) := by decide +kernel
theorem d16_14 : decode jdk_33_method_47_code 14 = .ok (.ireturn, 1) := by decide +kernel
theorem d16_15 : decode jdk_33_method_47_code 15 = .ok (.bipush 31, 2) := by decide +kernel
theorem d16_17 : decode jdk_33_method_47_code 17 = .ok (.istore_n 1, 1) := by decide +kernel
theorem d16_18 : decode jdk_33_method_47_code 18 = .ok (.iload_n 0, 1) := by decide +kernel
theorem d16_19 : decode jdk_33_method_47_code 19 = .ok (.ldc_w 264, 3) := by decide +kernel
theorem d16_22 : decode jdk_33_method_47_code 22 = .ok (.if_icmp .lt 11, 3) := by decide +kernel
theorem d16_25 : decode jdk_33_method_47_code 25 = .ok (.iinc 1 (-16), 3) := by decide +kernel
theorem d16_28 : decode jdk_33_method_47_code 28 = .ok (.iload_n 0, 1) := by decide +kernel
theorem d16_29 : decode jdk_33_method_47_code 29 = .ok (.bipush 16, 2) := by decide +kernel
theorem d16_31 : decode jdk_33_method_47_code 31 = .ok (.iushr, 1) := by decide +kernel
theorem d16_32 : decode jdk_33_method_47_code 32 = .ok (.istore_n 0, 1) := by decide +kernel
theorem d16_33 : decode jdk_33_method_47_code 33 = .ok (.iload_n 0, 1) := by decide +kernel
theorem d16_34 : decode jdk_33_method_47_code 34 = .ok (.sipush 256, 3) := by decide +kernel
theorem d16_37 : decode jdk_33_method_47_code 37 = .ok (.if_icmp .lt 11, 3) := by decide +kernel
theorem d16_40 : decode jdk_33_method_47_code 40 = .ok (.iinc 1 (-8), 3) := by decide +kernel
theorem d16_43 : decode jdk_33_method_47_code 43 = .ok (.iload_n 0, 1) := by decide +kernel
theorem d16_44 : decode jdk_33_method_47_code 44 = .ok (.bipush 8, 2) := by decide +kernel
theorem d16_46 : decode jdk_33_method_47_code 46 = .ok (.iushr, 1) := by decide +kernel
theorem d16_47 : decode jdk_33_method_47_code 47 = .ok (.istore_n 0, 1) := by decide +kernel
theorem d16_48 : decode jdk_33_method_47_code 48 = .ok (.iload_n 0, 1) := by decide +kernel
theorem d16_49 : decode jdk_33_method_47_code 49 = .ok (.bipush 16, 2) := by decide +kernel
theorem d16_51 : decode jdk_33_method_47_code 51 = .ok (.if_icmp .lt 10, 3) := by decide +kernel
theorem d16_54 : decode jdk_33_method_47_code 54 = .ok (.iinc 1 (-4), 3) := by decide +kernel
theorem d16_57 : decode jdk_33_method_47_code 57 = .ok (.iload_n 0, 1) := by decide +kernel
theorem d16_58 : decode jdk_33_method_47_code 58 = .ok (.iconst 4, 1) := by decide +kernel
theorem d16_59 : decode jdk_33_method_47_code 59 = .ok (.iushr, 1) := by decide +kernel
theorem d16_60 : decode jdk_33_method_47_code 60 = .ok (.istore_n 0, 1) := by decide +kernel
theorem d16_61 : decode jdk_33_method_47_code 61 = .ok (.iload_n 0, 1) := by decide +kernel
theorem d16_62 : decode jdk_33_method_47_code 62 = .ok (.iconst 4, 1) := by decide +kernel
theorem d16_63 : decode jdk_33_method_47_code 63 = .ok (.if_icmp .lt 10, 3) := by decide +kernel
theorem d16_66 : decode jdk_33_method_47_code 66 = .ok (.iinc 1 (-2), 3) := by decide +kernel
theorem d16_69 : decode jdk_33_method_47_code 69 = .ok (.iload_n 0, 1) := by decide +kernel
theorem d16_70 : decode jdk_33_method_47_code 70 = .ok (.iconst 2, 1) := by decide +kernel
theorem d16_71 : decode jdk_33_method_47_code 71 = .ok (.iushr, 1) := by decide +kernel
theorem d16_72 : decode jdk_33_method_47_code 72 = .ok (.istore_n 0, 1) := by decide +kernel
theorem d16_73 : decode jdk_33_method_47_code 73 = .ok (.iload_n 1, 1) := by decide +kernel
theorem d16_74 : decode jdk_33_method_47_code 74 = .ok (.iload_n 0, 1) := by decide +kernel
theorem d16_75 : decode jdk_33_method_47_code 75 = .ok (.iconst 1, 1) := by decide +kernel
theorem d16_76 : decode jdk_33_method_47_code 76 = .ok (.iushr, 1) := by decide +kernel
theorem d16_77 : decode jdk_33_method_47_code 77 = .ok (.isub, 1) := by decide +kernel
theorem d16_78 : decode jdk_33_method_47_code 78 = .ok (.ireturn, 1) := by decide +kernel
def f_nlz_73 (p0 : Int32) (v0 : Int32) (v1 : Int32) : Int32 := (v1 - (XT.ushr v0 (1 : Int32)))
def f_nlz_61 (p0 : Int32) (v0 : Int32) (v1 : Int32) : Int32 := (if v0 < (4 : Int32) then (f_nlz_73 p0 v0 v1) else (f_nlz_73 p0 (XT.ushr v0 (2 : Int32)) (v1 + (-2 : Int32))))
def f_nlz_48 (p0 : Int32) (v0 : Int32) (v1 : Int32) : Int32 := (if v0 < (16 : Int32) then (f_nlz_61 p0 v0 v1) else (f_nlz_61 p0 (XT.ushr v0 (4 : Int32)) (v1 + (-4 : Int32))))
def f_nlz_33 (p0 : Int32) (v0 : Int32) (v1 : Int32) : Int32 := (if v0 < (256 : Int32) then (f_nlz_48 p0 v0 v1) else (f_nlz_48 p0 (XT.ushr v0 (8 : Int32)) (v1 + (-8 : Int32))))
def f_nlz (p0 : Int32) : Int32 := (if 0 < p0 then (if p0 < (65536 : Int32) then (f_nlz_33 p0 p0 (31 : Int32)) else (f_nlz_33 p0 (XT.ushr p0 (16 : Int32)) ((31 : Int32) + (-16 : Int32)))) else (if p0 = 0 then (32 : Int32) else (0 : Int32)))
set_option maxRecDepth 65536 in
set_option maxHeartbeats 40000000 in
theorem rm16 (l : Launch) (Z : State) (a0 : Array Value) (hw : ∀ d ∈ tables_1, d.before a0 Z = true) (p0 : Int32) (h0 : Heap) (Z0 : Ext Z.heap h0) :
    MetN l Z (⟨"java/lang/Integer", "numberOfLeadingZeros", "(I)I"⟩ : MethodName) jdk_33_method_47_code 2 (some .int) [] ({ frames := 0, cells := 0, slots := 0, locals := 0 } : Room) #[(.int p0)] h0 (fun v h => v = some (.int (f_nlz p0)) ∧ h = h0) := by
  refine metN (by first | exact plainFor_of_name (by first | (simp [plainName, overriddenIn]; done) | decide +kernel) | decide +kernel) Z0 (Ls := #[.val (.int p0), .unset]) (fun m => by first | (simp [entryFrame, mkF, argsToLocals, Value.category]; done) | rfl) ?_
  intro p e s m below meth c T0 hx hby hml hret hlk hown hnm hZ N0
  have j73 : ∀ (T1 : State) (v0 : Int32) (v1 : Int32), Now p l e ({ frames := 0, cells := 0, slots := 0, locals := 0 } : Room) s m #[(.int p0)] below meth c Z T1 h0 0 0 → f_nlz p0 = f_nlz_73 p0 v0 v1 → Ends p e below (PhiN Z s (fun v h => v = some (.int (f_nlz p0)) ∧ h = h0) ({ frames := 0, cells := 0, slots := 0, locals := 0 } : Room).cells ({ frames := 0, cells := 0, slots := 0, locals := 0 } : Room).slots) T1 (mkF m 73 #[.val (.int v0), .val (.int v1)] []) := by
    intro T1 v0 v1 N1 hv
    refine Ends.go (f' := (mkF m 74 #[.val (.int v0), .val (.int v1)] [(.int v1)])) (fun t k => XS.iloadN N1.here hx rfl (hb hby d16_73) rfl k) ?_
    refine Ends.go (f' := (mkF m 75 #[.val (.int v0), .val (.int v1)] [(.int v0), (.int v1)])) (fun t k => XS.iloadN N1.here hx rfl (hb hby d16_74) rfl k) ?_
    refine Ends.go (f' := (mkF m 76 #[.val (.int v0), .val (.int v1)] [(.int (1 : Int32)), (.int v0), (.int v1)])) (fun t k => XS.iconst N1.here hx rfl (hb hby d16_75) k) ?_
    refine Ends.go (f' := (mkF m 77 #[.val (.int v0), .val (.int v1)] [(.int (XT.ushr v0 (1 : Int32))), (.int v1)])) (fun t k => XT.iushr N1.here hx rfl (hb hby d16_76) rfl k) ?_
    refine Ends.go (f' := (mkF m 78 #[.val (.int v0), .val (.int v1)] [(.int (v1 - (XT.ushr v0 (1 : Int32))))])) (fun t k => XS.isub N1.here hx rfl (hb hby d16_77) rfl k) ?_
    exact retI N1 hx hlk hret (hb hby d16_78) ⟨by rw [hv]; rfl, rfl⟩ (nle rfl) (nle rfl)
  have j61 : ∀ (T1 : State) (v0 : Int32) (v1 : Int32), Now p l e ({ frames := 0, cells := 0, slots := 0, locals := 0 } : Room) s m #[(.int p0)] below meth c Z T1 h0 0 0 → f_nlz p0 = f_nlz_61 p0 v0 v1 → Ends p e below (PhiN Z s (fun v h => v = some (.int (f_nlz p0)) ∧ h = h0) ({ frames := 0, cells := 0, slots := 0, locals := 0 } : Room).cells ({ frames := 0, cells := 0, slots := 0, locals := 0 } : Room).slots) T1 (mkF m 61 #[.val (.int v0), .val (.int v1)] []) := by
    intro T1 v0 v1 N1 hv
    refine Ends.go (f' := (mkF m 62 #[.val (.int v0), .val (.int v1)] [(.int v0)])) (fun t k => XS.iloadN N1.here hx rfl (hb hby d16_61) rfl k) ?_
    refine Ends.go (f' := (mkF m 63 #[.val (.int v0), .val (.int v1)] [(.int (4 : Int32)), (.int v0)])) (fun t k => XS.iconst N1.here hx rfl (hb hby d16_62) k) ?_
    by_cases c6 : v0 < (4 : Int32)
    · refine Ends.go (f' := (mkF m 73 #[.val (.int v0), .val (.int v1)] [])) (fun t k => XS.icmpYes N1.here hx rfl (pc0 := 63) (pc' := 73) rfl (hb hby d16_63) rfl (XT.ii_lt_t c6) (by decide) (by decide) k) ?_
      exact j73 T1 v0 v1 N1 (by rw [hv]; simp only [f_nlz_61, if_pos c6])
    · refine Ends.go (f' := (mkF m 66 #[.val (.int v0), .val (.int v1)] [])) (fun t k => XS.icmpNo N1.here hx rfl (hb hby d16_63) rfl (XT.ii_lt_f c6) k) ?_
      refine Ends.go (f' := (mkF m 69 #[.val (.int v0), .val (.int (v1 + (-2 : Int32)))] [])) (fun t k => XS.iinc N1.here hx rfl (hb hby d16_66) rfl (l' := #[.val (.int v0), .val (.int (v1 + (-2 : Int32)))]) rfl k) ?_
      refine Ends.go (f' := (mkF m 70 #[.val (.int v0), .val (.int (v1 + (-2 : Int32)))] [(.int v0)])) (fun t k => XS.iloadN N1.here hx rfl (hb hby d16_69) rfl k) ?_
      refine Ends.go (f' := (mkF m 71 #[.val (.int v0), .val (.int (v1 + (-2 : Int32)))] [(.int (2 : Int32)), (.int v0)])) (fun t k => XS.iconst N1.here hx rfl (hb hby d16_70) k) ?_
      refine Ends.go (f' := (mkF m 72 #[.val (.int v0), .val (.int (v1 + (-2 : Int32)))] [(.int (XT.ushr v0 (2 : Int32)))])) (fun t k => XT.iushr N1.here hx rfl (hb hby d16_71) rfl k) ?_
      refine Ends.go (f' := (mkF m 73 #[.val (.int (XT.ushr v0 (2 : Int32))), .val (.int (v1 + (-2 : Int32)))] [])) (fun t k => XS.istoreN N1.here hx rfl (hb hby d16_72) rfl (l' := #[.val (.int (XT.ushr v0 (2 : Int32))), .val (.int (v1 + (-2 : Int32)))]) rfl k) ?_
      exact j73 T1 (XT.ushr v0 (2 : Int32)) (v1 + (-2 : Int32)) N1 (by rw [hv]; simp only [f_nlz_61, if_neg c6])
  have j48 : ∀ (T1 : State) (v0 : Int32) (v1 : Int32), Now p l e ({ frames := 0, cells := 0, slots := 0, locals := 0 } : Room) s m #[(.int p0)] below meth c Z T1 h0 0 0 → f_nlz p0 = f_nlz_48 p0 v0 v1 → Ends p e below (PhiN Z s (fun v h => v = some (.int (f_nlz p0)) ∧ h = h0) ({ frames := 0, cells := 0, slots := 0, locals := 0 } : Room).cells ({ frames := 0, cells := 0, slots := 0, locals := 0 } : Room).slots) T1 (mkF m 48 #[.val (.int v0), .val (.int v1)] []) := by
    intro T1 v0 v1 N1 hv
    refine Ends.go (f' := (mkF m 49 #[.val (.int v0), .val (.int v1)] [(.int v0)])) (fun t k => XS.iloadN N1.here hx rfl (hb hby d16_48) rfl k) ?_
    refine Ends.go (f' := (mkF m 51 #[.val (.int v0), .val (.int v1)] [(.int (16 : Int32)), (.int v0)])) (fun t k => XS.bipush N1.here hx rfl (hb hby d16_49) k) ?_
    by_cases c5 : v0 < (16 : Int32)
    · refine Ends.go (f' := (mkF m 61 #[.val (.int v0), .val (.int v1)] [])) (fun t k => XS.icmpYes N1.here hx rfl (pc0 := 51) (pc' := 61) rfl (hb hby d16_51) rfl (XT.ii_lt_t c5) (by decide) (by decide) k) ?_
      exact j61 T1 v0 v1 N1 (by rw [hv]; simp only [f_nlz_48, if_pos c5])
    · refine Ends.go (f' := (mkF m 54 #[.val (.int v0), .val (.int v1)] [])) (fun t k => XS.icmpNo N1.here hx rfl (hb hby d16_51) rfl (XT.ii_lt_f c5) k) ?_
      refine Ends.go (f' := (mkF m 57 #[.val (.int v0), .val (.int (v1 + (-4 : Int32)))] [])) (fun t k => XS.iinc N1.here hx rfl (hb hby d16_54) rfl (l' := #[.val (.int v0), .val (.int (v1 + (-4 : Int32)))]) rfl k) ?_
      refine Ends.go (f' := (mkF m 58 #[.val (.int v0), .val (.int (v1 + (-4 : Int32)))] [(.int v0)])) (fun t k => XS.iloadN N1.here hx rfl (hb hby d16_57) rfl k) ?_
      refine Ends.go (f' := (mkF m 59 #[.val (.int v0), .val (.int (v1 + (-4 : Int32)))] [(.int (4 : Int32)), (.int v0)])) (fun t k => XS.iconst N1.here hx rfl (hb hby d16_58) k) ?_
      refine Ends.go (f' := (mkF m 60 #[.val (.int v0), .val (.int (v1 + (-4 : Int32)))] [(.int (XT.ushr v0 (4 : Int32)))])) (fun t k => XT.iushr N1.here hx rfl (hb hby d16_59) rfl k) ?_
      refine Ends.go (f' := (mkF m 61 #[.val (.int (XT.ushr v0 (4 : Int32))), .val (.int (v1 + (-4 : Int32)))] [])) (fun t k => XS.istoreN N1.here hx rfl (hb hby d16_60) rfl (l' := #[.val (.int (XT.ushr v0 (4 : Int32))), .val (.int (v1 + (-4 : Int32)))]) rfl k) ?_
      exact j61 T1 (XT.ushr v0 (4 : Int32)) (v1 + (-4 : Int32)) N1 (by rw [hv]; simp only [f_nlz_48, if_neg c5])
  have j33 : ∀ (T1 : State) (v0 : Int32) (v1 : Int32), Now p l e ({ frames := 0, cells := 0, slots := 0, locals := 0 } : Room) s m #[(.int p0)] below meth c Z T1 h0 0 0 → f_nlz p0 = f_nlz_33 p0 v0 v1 → Ends p e below (PhiN Z s (fun v h => v = some (.int (f_nlz p0)) ∧ h = h0) ({ frames := 0, cells := 0, slots := 0, locals := 0 } : Room).cells ({ frames := 0, cells := 0, slots := 0, locals := 0 } : Room).slots) T1 (mkF m 33 #[.val (.int v0), .val (.int v1)] []) := by
    intro T1 v0 v1 N1 hv
    refine Ends.go (f' := (mkF m 34 #[.val (.int v0), .val (.int v1)] [(.int v0)])) (fun t k => XS.iloadN N1.here hx rfl (hb hby d16_33) rfl k) ?_
    refine Ends.go (f' := (mkF m 37 #[.val (.int v0), .val (.int v1)] [(.int (256 : Int32)), (.int v0)])) (fun t k => XS.sipush N1.here hx rfl (hb hby d16_34) k) ?_
    by_cases c4 : v0 < (256 : Int32)
    · refine Ends.go (f' := (mkF m 48 #[.val (.int v0), .val (.int v1)] [])) (fun t k => XS.icmpYes N1.here hx rfl (pc0 := 37) (pc' := 48) rfl (hb hby d16_37) rfl (XT.ii_lt_t c4) (by decide) (by decide) k) ?_
      exact j48 T1 v0 v1 N1 (by rw [hv]; simp only [f_nlz_33, if_pos c4])
    · refine Ends.go (f' := (mkF m 40 #[.val (.int v0), .val (.int v1)] [])) (fun t k => XS.icmpNo N1.here hx rfl (hb hby d16_37) rfl (XT.ii_lt_f c4) k) ?_
      refine Ends.go (f' := (mkF m 43 #[.val (.int v0), .val (.int (v1 + (-8 : Int32)))] [])) (fun t k => XS.iinc N1.here hx rfl (hb hby d16_40) rfl (l' := #[.val (.int v0), .val (.int (v1 + (-8 : Int32)))]) rfl k) ?_
      refine Ends.go (f' := (mkF m 44 #[.val (.int v0), .val (.int (v1 + (-8 : Int32)))] [(.int v0)])) (fun t k => XS.iloadN N1.here hx rfl (hb hby d16_43) rfl k) ?_
      refine Ends.go (f' := (mkF m 46 #[.val (.int v0), .val (.int (v1 + (-8 : Int32)))] [(.int (8 : Int32)), (.int v0)])) (fun t k => XS.bipush N1.here hx rfl (hb hby d16_44) k) ?_
      refine Ends.go (f' := (mkF m 47 #[.val (.int v0), .val (.int (v1 + (-8 : Int32)))] [(.int (XT.ushr v0 (8 : Int32)))])) (fun t k => XT.iushr N1.here hx rfl (hb hby d16_46) rfl k) ?_
      refine Ends.go (f' := (mkF m 48 #[.val (.int (XT.ushr v0 (8 : Int32))), .val (.int (v1 + (-8 : Int32)))] [])) (fun t k => XS.istoreN N1.here hx rfl (hb hby d16_47) rfl (l' := #[.val (.int (XT.ushr v0 (8 : Int32))), .val (.int (v1 + (-8 : Int32)))]) rfl k) ?_
      exact j48 T1 (XT.ushr v0 (8 : Int32)) (v1 + (-8 : Int32)) N1 (by rw [hv]; simp only [f_nlz_33, if_neg c4])
  refine Ends.go (f' := (mkF m 1 #[.val (.int p0), .unset] [(.int p0)])) (fun t k => XS.iloadN N0.here hx rfl (hb hby d16_0) rfl k) ?_
  by_cases c1 : 0 < p0
  · refine Ends.go (f' := (mkF m 15 #[.val (.int p0), .unset] [])) (fun t k => XS.ifYes N0.here hx rfl (pc0 := 1) (pc' := 15) rfl (hb hby d16_1) rfl (XT.i0_gt_t c1) (by decide) (by decide) k) ?_
    refine Ends.go (f' := (mkF m 17 #[.val (.int p0), .unset] [(.int (31 : Int32))])) (fun t k => XS.bipush N0.here hx rfl (hb hby d16_15) k) ?_
    refine Ends.go (f' := (mkF m 18 #[.val (.int p0), .val (.int (31 : Int32))] [])) (fun t k => XS.istoreN N0.here hx rfl (hb hby d16_17) rfl (l' := #[.val (.int p0), .val (.int (31 : Int32))]) rfl k) ?_
    refine Ends.go (f' := (mkF m 19 #[.val (.int p0), .val (.int (31 : Int32))] [(.int p0)])) (fun t k => XS.iloadN N0.here hx rfl (hb hby d16_18) rfl k) ?_
    refine gLdcWI N0 hx hZ hown (hw _ (List.mem_of_getElem? (i := 86) rfl)) (hb hby d16_19) ?_
    show Ends p e below _ T0 (mkF m 22 #[.val (.int p0), .val (.int (31 : Int32))] [(.int (65536 : Int32)), (.int p0)])
    by_cases c2 : p0 < (65536 : Int32)
    · refine Ends.go (f' := (mkF m 33 #[.val (.int p0), .val (.int (31 : Int32))] [])) (fun t k => XS.icmpYes N0.here hx rfl (pc0 := 22) (pc' := 33) rfl (hb hby d16_22) rfl (XT.ii_lt_t c2) (by decide) (by decide) k) ?_
      exact j33 T0 p0 (31 : Int32) N0 (by simp only [f_nlz, if_pos c1, if_pos c2])
    · refine Ends.go (f' := (mkF m 25 #[.val (.int p0), .val (.int (31 : Int32))] [])) (fun t k => XS.icmpNo N0.here hx rfl (hb hby d16_22) rfl (XT.ii_lt_f c2) k) ?_
      refine Ends.go (f' := (mkF m 28 #[.val (.int p0), .val (.int ((31 : Int32) + (-16 : Int32)))] [])) (fun t k => XS.iinc N0.here hx rfl (hb hby d16_25) rfl (l' := #[.val (.int p0), .val (.int ((31 : Int32) + (-16 : Int32)))]) rfl k) ?_
      refine Ends.go (f' := (mkF m 29 #[.val (.int p0), .val (.int ((31 : Int32) + (-16 : Int32)))] [(.int p0)])) (fun t k => XS.iloadN N0.here hx rfl (hb hby d16_28) rfl k) ?_
      refine Ends.go (f' := (mkF m 31 #[.val (.int p0), .val (.int ((31 : Int32) + (-16 : Int32)))] [(.int (16 : Int32)), (.int p0)])) (fun t k => XS.bipush N0.here hx rfl (hb hby d16_29) k) ?_
      refine Ends.go (f' := (mkF m 32 #[.val (.int p0), .val (.int ((31 : Int32) + (-16 : Int32)))] [(.int (XT.ushr p0 (16 : Int32)))])) (fun t k => XT.iushr N0.here hx rfl (hb hby d16_31) rfl k) ?_
      refine Ends.go (f' := (mkF m 33 #[.val (.int (XT.ushr p0 (16 : Int32))), .val (.int ((31 : Int32) + (-16 : Int32)))] [])) (fun t k => XS.istoreN N0.here hx rfl (hb hby d16_32) rfl (l' := #[.val (.int (XT.ushr p0 (16 : Int32))), .val (.int ((31 : Int32) + (-16 : Int32)))]) rfl k) ?_
      exact j33 T0 (XT.ushr p0 (16 : Int32)) ((31 : Int32) + (-16 : Int32)) N0 (by simp only [f_nlz, if_pos c1, if_neg c2])
  · refine Ends.go (f' := (mkF m 4 #[.val (.int p0), .unset] [])) (fun t k => XS.ifNo N0.here hx rfl (hb hby d16_1) rfl (XT.i0_gt_f c1) k) ?_
    refine Ends.go (f' := (mkF m 5 #[.val (.int p0), .unset] [(.int p0)])) (fun t k => XS.iloadN N0.here hx rfl (hb hby d16_4) rfl k) ?_
    by_cases c3 : p0 = 0
    · refine Ends.go (f' := (mkF m 8 #[.val (.int p0), .unset] [])) (fun t k => XS.ifNo N0.here hx rfl (hb hby d16_5) rfl (XT.i0_ne_f c3) k) ?_
      refine Ends.go (f' := (mkF m 10 #[.val (.int p0), .unset] [(.int (32 : Int32))])) (fun t k => XS.bipush N0.here hx rfl (hb hby d16_8) k) ?_
      refine Ends.go (f' := (mkF m 14 #[.val (.int p0), .unset] [(.int (32 : Int32))])) (fun t k => XS.goto N0.here hx rfl (pc0 := 10) (pc' := 14) rfl (hb hby d16_10) (by decide) (by decide) k) ?_
      exact retI N0 hx hlk hret (hb hby d16_14) ⟨by simp only [f_nlz, if_neg c1, if_pos c3], rfl⟩ (nle rfl) (nle rfl)
    · refine Ends.go (f' := (mkF m 13 #[.val (.int p0), .unset] [])) (fun t k => XS.ifYes N0.here hx rfl (pc0 := 5) (pc' := 13) rfl (hb hby d16_5) rfl (XT.i0_ne_t c3) (by decide) (by decide) k) ?_
      refine Ends.go (f' := (mkF m 14 #[.val (.int p0), .unset] [(.int (0 : Int32))])) (fun t k => XS.iconst N0.here hx rfl (hb hby d16_13) k) ?_
      exact retI N0 hx hlk hret (hb hby d16_14) ⟨by simp only [f_nlz, if_neg c1, if_neg c3], rfl⟩ (nle rfl) (nle rfl)
theorem d15_0 : decode jdk_35_method_48_code 0 = .ok (.lload_n 0, 1) := by decide +kernel
theorem d15_1 : decode jdk_35_method_48_code 1 = .ok (.bipush 32, 2) := by decide +kernel
theorem d15_3 : decode jdk_35_method_48_code 3 = .ok (.lushr, 1) := by decide +kernel
theorem d15_4 : decode jdk_35_method_48_code 4 = .ok (.l2i, 1) := by decide +kernel
theorem d15_5 : decode jdk_35_method_48_code 5 = .ok (.istore_n 2, 1) := by decide +kernel
theorem d15_6 : decode jdk_35_method_48_code 6 = .ok (.iload_n 2, 1) := by decide +kernel
theorem d15_7 : decode jdk_35_method_48_code 7 = .ok (.ifCond .ne 14, 3) := by decide +kernel
theorem d15_10 : decode jdk_35_method_48_code 10 = .ok (.bipush 32, 2) := by decide +kernel
theorem d15_12 : decode jdk_35_method_48_code 12 = .ok (.lload_n 0, 1) := by decide +kernel
theorem d15_13 : decode jdk_35_method_48_code 13 = .ok (.l2i, 1) := by decide +kernel
theorem d15_14 : decode jdk_35_method_48_code 14 = .ok (.invokestatic 308, 3) := by decide +kernel
theorem d15_17 : decode jdk_35_method_48_code 17 = .ok (.iadd, 1) := by decide +kernel
theorem d15_18 : decode jdk_35_method_48_code 18 = .ok (.goto 7, 3) := by decide +kernel
theorem d15_21 : decode jdk_35_method_48_code 21 = .ok (.iload_n 2, 1) := by decide +kernel
theorem d15_22 : decode jdk_35_method_48_code 22 = .ok (.invokestatic 308, 3) := by decide +kernel
theorem d15_25 : decode jdk_35_method_48_code 25 = .ok (.ireturn, 1) := by decide +kernel
def f_nlzL (p0 : Int64) : Int32 := (if (((XT.ushrL p0 (32 : Int32))).toInt32) = 0 then ((32 : Int32) + (f_nlz ((p0).toInt32))) else (f_nlz (((XT.ushrL p0 (32 : Int32))).toInt32)))
set_option maxRecDepth 65536 in
set_option maxHeartbeats 40000000 in
theorem rm15 (l : Launch) (Z : State) (a0 : Array Value) (hw : ∀ d ∈ tables_1, d.before a0 Z = true) (p0 : Int64) (h0 : Heap) (Z0 : Ext Z.heap h0) :
    MetN l Z (⟨"java/lang/Long", "numberOfLeadingZeros", "(J)I"⟩ : MethodName) jdk_35_method_48_code 3 (some .int) [] ({ frames := 1, cells := 0, slots := 0, locals := 14 } : Room) #[(.long p0)] h0 (fun v h => v = some (.int (f_nlzL p0)) ∧ h = h0) := by
  refine metN (by first | exact plainFor_of_name (by first | (simp [plainName, overriddenIn]; done) | decide +kernel) | decide +kernel) Z0 (Ls := #[.val (.long p0), .second, .unset]) (fun m => by first | (simp [entryFrame, mkF, argsToLocals, Value.category]; done) | rfl) ?_
  intro p e s m below meth c T0 hx hby hml hret hlk hown hnm hZ N0
  refine Ends.go (f' := (mkF m 1 #[.val (.long p0), .second, .unset] [(.long p0)])) (fun t k => XT.lloadN N0.here hx rfl (hb hby d15_0) rfl k) ?_
  refine Ends.go (f' := (mkF m 3 #[.val (.long p0), .second, .unset] [(.int (32 : Int32)), (.long p0)])) (fun t k => XS.bipush N0.here hx rfl (hb hby d15_1) k) ?_
  refine Ends.go (f' := (mkF m 4 #[.val (.long p0), .second, .unset] [(.long (XT.ushrL p0 (32 : Int32)))])) (fun t k => XT.lushr N0.here hx rfl (hb hby d15_3) rfl k) ?_
  refine Ends.go (f' := (mkF m 5 #[.val (.long p0), .second, .unset] [(.int (((XT.ushrL p0 (32 : Int32))).toInt32))])) (fun t k => XT.l2i N0.here hx rfl (hb hby d15_4) rfl k) ?_
  refine Ends.go (f' := (mkF m 6 #[.val (.long p0), .second, .val (.int (((XT.ushrL p0 (32 : Int32))).toInt32))] [])) (fun t k => XS.istoreN N0.here hx rfl (hb hby d15_5) rfl (l' := #[.val (.long p0), .second, .val (.int (((XT.ushrL p0 (32 : Int32))).toInt32))]) rfl k) ?_
  refine Ends.go (f' := (mkF m 7 #[.val (.long p0), .second, .val (.int (((XT.ushrL p0 (32 : Int32))).toInt32))] [(.int (((XT.ushrL p0 (32 : Int32))).toInt32))])) (fun t k => XS.iloadN N0.here hx rfl (hb hby d15_6) rfl k) ?_
  by_cases c1 : (((XT.ushrL p0 (32 : Int32))).toInt32) = 0
  · refine Ends.go (f' := (mkF m 10 #[.val (.long p0), .second, .val (.int (((XT.ushrL p0 (32 : Int32))).toInt32))] [])) (fun t k => XS.ifNo N0.here hx rfl (hb hby d15_7) rfl (XT.i0_ne_f c1) k) ?_
    refine Ends.go (f' := (mkF m 12 #[.val (.long p0), .second, .val (.int (((XT.ushrL p0 (32 : Int32))).toInt32))] [(.int (32 : Int32))])) (fun t k => XS.bipush N0.here hx rfl (hb hby d15_10) k) ?_
    refine Ends.go (f' := (mkF m 13 #[.val (.long p0), .second, .val (.int (((XT.ushrL p0 (32 : Int32))).toInt32))] [(.long p0), (.int (32 : Int32))])) (fun t k => XT.lloadN N0.here hx rfl (hb hby d15_12) rfl k) ?_
    refine Ends.go (f' := (mkF m 14 #[.val (.long p0), .second, .val (.int (((XT.ushrL p0 (32 : Int32))).toInt32))] [(.int ((p0).toInt32)), (.int (32 : Int32))])) (fun t k => XT.l2i N0.here hx rfl (hb hby d15_13) rfl k) ?_
    refine gStatic (W := 1) (argsL := [(.int ((p0).toInt32))]) (rest := [(.int (32 : Int32))]) N0 hx hZ hown (hw _ (List.mem_of_getElem? (i := 82) rfl)) (hw _ (List.mem_of_getElem? (i := 83) rfl)) (hw _ (List.mem_of_getElem? (i := 84) rfl)) (hw _ (List.mem_of_getElem? (i := 85) rfl)) (by decide) ((rm16 l Z a0 hw ((p0).toInt32) h0 N0.ext).back (W := 1) hZ (hw _ (List.mem_of_getElem? (i := 85) rfl)) (hw _ (List.mem_of_getElem? (i := 84) rfl)) (nle rfl) (nle rfl)) (hb hby d15_14) rfl (by rw [hml]; rfl) (lenOf (by decide +kernel : parseMethodDescriptor "(I)I" = some ⟨[.int], (some .int)⟩) rfl) (nle rfl) (nle rfl) (nle rfl) (fun _ _ _ q => q.2) ?_
    rintro _ T2 _ _ N3 ⟨⟨rfl, e_h⟩, -⟩; rw [e_h] at N3; clear e_h
    show Ends p e below _ T2 (mkF m 17 #[.val (.long p0), .second, .val (.int (((XT.ushrL p0 (32 : Int32))).toInt32))] [(.int (f_nlz ((p0).toInt32))), (.int (32 : Int32))])
    refine Ends.go (f' := (mkF m 18 #[.val (.long p0), .second, .val (.int (((XT.ushrL p0 (32 : Int32))).toInt32))] [(.int ((32 : Int32) + (f_nlz ((p0).toInt32))))])) (fun t k => XS.iadd N3.here hx rfl (hb hby d15_17) rfl k) ?_
    refine Ends.go (f' := (mkF m 25 #[.val (.long p0), .second, .val (.int (((XT.ushrL p0 (32 : Int32))).toInt32))] [(.int ((32 : Int32) + (f_nlz ((p0).toInt32))))])) (fun t k => XS.goto N3.here hx rfl (pc0 := 18) (pc' := 25) rfl (hb hby d15_18) (by decide) (by decide) k) ?_
    exact retI N3 hx hlk hret (hb hby d15_25) ⟨by simp only [f_nlzL, if_pos c1], rfl⟩ (nle rfl) (nle rfl)
  · refine Ends.go (f' := (mkF m 21 #[.val (.long p0), .second, .val (.int (((XT.ushrL p0 (32 : Int32))).toInt32))] [])) (fun t k => XS.ifYes N0.here hx rfl (pc0 := 7) (pc' := 21) rfl (hb hby d15_7) rfl (XT.i0_ne_t c1) (by decide) (by decide) k) ?_
    refine Ends.go (f' := (mkF m 22 #[.val (.long p0), .second, .val (.int (((XT.ushrL p0 (32 : Int32))).toInt32))] [(.int (((XT.ushrL p0 (32 : Int32))).toInt32))])) (fun t k => XS.iloadN N0.here hx rfl (hb hby d15_21) rfl k) ?_
    refine gStatic (W := 0) (argsL := [(.int (((XT.ushrL p0 (32 : Int32))).toInt32))]) (rest := []) N0 hx hZ hown (hw _ (List.mem_of_getElem? (i := 82) rfl)) (hw _ (List.mem_of_getElem? (i := 83) rfl)) (hw _ (List.mem_of_getElem? (i := 84) rfl)) (hw _ (List.mem_of_getElem? (i := 85) rfl)) (by decide) ((rm16 l Z a0 hw (((XT.ushrL p0 (32 : Int32))).toInt32) h0 N0.ext).back (W := 0) hZ (hw _ (List.mem_of_getElem? (i := 85) rfl)) (hw _ (List.mem_of_getElem? (i := 84) rfl)) (nle rfl) (nle rfl)) (hb hby d15_22) rfl (by rw [hml]; rfl) (lenOf (by decide +kernel : parseMethodDescriptor "(I)I" = some ⟨[.int], (some .int)⟩) rfl) (nle rfl) (nle rfl) (nle rfl) (fun _ _ _ q => q.2) ?_
    rintro _ T7 _ _ N8 ⟨⟨rfl, e_h⟩, -⟩; rw [e_h] at N8; clear e_h
    show Ends p e below _ T7 (mkF m 25 #[.val (.long p0), .second, .val (.int (((XT.ushrL p0 (32 : Int32))).toInt32))] [(.int (f_nlz (((XT.ushrL p0 (32 : Int32))).toInt32)))])
    exact retI N8 hx hlk hret (hb hby d15_25) ⟨by simp only [f_nlzL, if_neg c1], rfl⟩ (nle rfl) (nle rfl)
theorem d7_0 : decode jdk_92_method_16_code 0 = .ok (.iload_n 0, 1) := by decide +kernel
theorem d7_1 : decode jdk_92_method_16_code 1 = .ok (.ifCond .ge 30, 3) := by decide +kernel
theorem d7_31 : decode jdk_92_method_16_code 31 = .ok (.iload_n 1, 1) := by decide +kernel
theorem d7_32 : decode jdk_92_method_16_code 32 = .ok (.ifCond .ge 30, 3) := by decide +kernel
theorem d7_62 : decode jdk_92_method_16_code 62 = .ok (.iload_n 0, 1) := by decide +kernel
theorem d7_63 : decode jdk_92_method_16_code 63 = .ok (.iload_n 1, 1) := by decide +kernel
theorem d7_64 : decode jdk_92_method_16_code 64 = .ok (.if_icmp .le 39, 3) := by decide +kernel
theorem d7_103 : decode jdk_92_method_16_code 103 = .ok (.return_, 1) := by decide +kernel
set_option maxRecDepth 65536 in
set_option maxHeartbeats 40000000 in
theorem rmCR (l : Launch) (Z : State) (a0 : Array Value) (hw : ∀ d ∈ tables_1, d.before a0 Z = true) (h0 : Heap) (Z0 : Ext Z.heap h0) :
    MetN l Z (⟨"java/util/BitSet", "checkRange", "(II)V"⟩ : MethodName) jdk_92_method_16_code 2 none [] ({ frames := 0, cells := 0, slots := 0, locals := 0 } : Room) #[(.int (0 : Int32)), (.int (42950 : Int32))] h0 (fun v h => v = none ∧ h = h0) := by
  refine metN (by first | exact plainFor_of_name (by first | (simp [plainName, overriddenIn]; done) | decide +kernel) | decide +kernel) Z0 (Ls := #[.val (.int (0 : Int32)), .val (.int (42950 : Int32))]) (fun m => by first | (simp [entryFrame, mkF, argsToLocals, Value.category]; done) | rfl) ?_
  intro p e s m below meth c T0 hx hby hml hret hlk hown hnm hZ N0
  refine Ends.go (f' := (mkF m 1 #[.val (.int (0 : Int32)), .val (.int (42950 : Int32))] [(.int (0 : Int32))])) (fun t k => XS.iloadN N0.here hx rfl (hb hby d7_0) rfl k) ?_
  refine Ends.go (f' := (mkF m 31 #[.val (.int (0 : Int32)), .val (.int (42950 : Int32))] [])) (fun t k => XS.ifYes N0.here hx rfl (pc0 := 1) (pc' := 31) rfl (hb hby d7_1) rfl (XT.i0_ge_t (by decide)) (by decide) (by decide) k) ?_
  refine Ends.go (f' := (mkF m 32 #[.val (.int (0 : Int32)), .val (.int (42950 : Int32))] [(.int (42950 : Int32))])) (fun t k => XS.iloadN N0.here hx rfl (hb hby d7_31) rfl k) ?_
  refine Ends.go (f' := (mkF m 62 #[.val (.int (0 : Int32)), .val (.int (42950 : Int32))] [])) (fun t k => XS.ifYes N0.here hx rfl (pc0 := 32) (pc' := 62) rfl (hb hby d7_32) rfl (XT.i0_ge_t (by decide)) (by decide) (by decide) k) ?_
  refine Ends.go (f' := (mkF m 63 #[.val (.int (0 : Int32)), .val (.int (42950 : Int32))] [(.int (0 : Int32))])) (fun t k => XS.iloadN N0.here hx rfl (hb hby d7_62) rfl k) ?_
  refine Ends.go (f' := (mkF m 64 #[.val (.int (0 : Int32)), .val (.int (42950 : Int32))] [(.int (42950 : Int32)), (.int (0 : Int32))])) (fun t k => XS.iloadN N0.here hx rfl (hb hby d7_63) rfl k) ?_
  refine Ends.go (f' := (mkF m 103 #[.val (.int (0 : Int32)), .val (.int (42950 : Int32))] [])) (fun t k => XS.icmpYes N0.here hx rfl (pc0 := 64) (pc' := 103) rfl (hb hby d7_64) rfl (XT.ii_le_t (by decide)) (by decide) (by decide) k) ?_
  exact retV N0 hx hlk hret (hb hby d7_103) ⟨rfl, rfl⟩ (nle rfl) (nle rfl)
theorem d10_0 : decode jdk_92_method_2_code 0 = .ok (.getstatic 3, 3) := by decide +kernel
theorem d10_3 : decode jdk_92_method_2_code 3 = .ok (.ifCond .ne 34, 3) := by decide +kernel
theorem d10_37 : decode jdk_92_method_2_code 37 = .ok (.getstatic 3, 3) := by decide +kernel
theorem d10_40 : decode jdk_92_method_2_code 40 = .ok (.ifCond .ne 30, 3) := by decide +kernel
theorem d10_70 : decode jdk_92_method_2_code 70 = .ok (.getstatic 3, 3) := by decide +kernel
theorem d10_73 : decode jdk_92_method_2_code 73 = .ok (.ifCond .ne 37, 3) := by decide +kernel
theorem d10_110 : decode jdk_92_method_2_code 110 = .ok (.return_, 1) := by decide +kernel
set_option maxRecDepth 65536 in
set_option maxHeartbeats 40000000 in
theorem rmCI (l : Launch) (Z : State) (a0 : Array Value) (hw : ∀ d ∈ tables_1, d.before a0 Z = true) (a : Addr) (h0 : Heap) (Z0 : Ext Z.heap h0) (Sd : Sta Z Z.heap "java/util/BitSet" "$assertionsDisabled" "Z" (.int 1)) :
    MetN l Z (⟨"java/util/BitSet", "checkInvariants", "()V"⟩ : MethodName) jdk_92_method_2_code 1 none [] ({ frames := 0, cells := 0, slots := 0, locals := 0 } : Room) #[(.ref a)] h0 (fun v h => v = none ∧ h = h0) := by
  refine metN (by first | exact plainFor_of_name (by first | (simp [plainName, overriddenIn]; done) | decide +kernel) | decide +kernel) Z0 (Ls := #[.val (.ref a)]) (fun m => by first | (simp [entryFrame, mkF, argsToLocals, Value.category]; done) | rfl) ?_
  intro p e s m below meth c T0 hx hby hml hret hlk hown hnm hZ N0
  refine gSta (O := "java/util/BitSet") N0 hx hZ hown (hw _ (List.mem_of_getElem? (i := 56) rfl)) Via.refl (Sd.ext N0.ext) (hb hby d10_0) ?_
  intro T1 N2
  show Ends p e below _ T1 (mkF m 3 #[.val (.ref a)] [(.int (1 : Int32))])
  refine Ends.go (f' := (mkF m 37 #[.val (.ref a)] [])) (fun t k => XS.ifYes N2.here hx rfl (pc0 := 3) (pc' := 37) rfl (hb hby d10_3) rfl (XT.i0_ne_t (by decide)) (by decide) (by decide) k) ?_
  refine gSta (O := "java/util/BitSet") N2 hx hZ hown (hw _ (List.mem_of_getElem? (i := 56) rfl)) Via.refl (Sd.ext N2.ext) (hb hby d10_37) ?_
  intro T3 N4
  show Ends p e below _ T3 (mkF m 40 #[.val (.ref a)] [(.int (1 : Int32))])
  refine Ends.go (f' := (mkF m 70 #[.val (.ref a)] [])) (fun t k => XS.ifYes N4.here hx rfl (pc0 := 40) (pc' := 70) rfl (hb hby d10_40) rfl (XT.i0_ne_t (by decide)) (by decide) (by decide) k) ?_
  refine gSta (O := "java/util/BitSet") N4 hx hZ hown (hw _ (List.mem_of_getElem? (i := 56) rfl)) Via.refl (Sd.ext N4.ext) (hb hby d10_70) ?_
  intro T5 N6
  show Ends p e below _ T5 (mkF m 73 #[.val (.ref a)] [(.int (1 : Int32))])
  refine Ends.go (f' := (mkF m 110 #[.val (.ref a)] [])) (fun t k => XS.ifYes N6.here hx rfl (pc0 := 73) (pc' := 110) rfl (hb hby d10_73) rfl (XT.i0_ne_t (by decide)) (by decide) (by decide) k) ?_
  exact retV N6 hx hlk hret (hb hby d10_110) ⟨rfl, rfl⟩ (nle rfl) (nle rfl)
theorem d4_0 : decode jdk_92_method_6_code 0 = .ok (.aload_n 0, 1) := by decide +kernel
theorem d4_1 : decode jdk_92_method_6_code 1 = .ok (.iload_n 1, 1) := by decide +kernel
theorem d4_2 : decode jdk_92_method_6_code 2 = .ok (.iconst 1, 1) := by decide +kernel
theorem d4_3 : decode jdk_92_method_6_code 3 = .ok (.isub, 1) := by decide +kernel
theorem d4_4 : decode jdk_92_method_6_code 4 = .ok (.invokestatic 52, 3) := by decide +kernel
theorem d4_7 : decode jdk_92_method_6_code 7 = .ok (.iconst 1, 1) := by decide +kernel
theorem d4_8 : decode jdk_92_method_6_code 8 = .ok (.iadd, 1) := by decide +kernel
theorem d4_9 : decode jdk_92_method_6_code 9 = .ok (.newarray .long, 2) := by decide +kernel
theorem d4_11 : decode jdk_92_method_6_code 11 = .ok (.putfield 11, 3) := by decide +kernel
theorem d4_14 : decode jdk_92_method_6_code 14 = .ok (.return_, 1) := by decide +kernel
set_option maxRecDepth 65536 in
set_option maxHeartbeats 40000000 in
theorem rmIW (l : Launch) (Z : State) (a0 : Array Value) (hw : ∀ d ∈ tables_1, d.before a0 Z = true) (a : Addr) (h0 : Heap) (Z0 : Ext Z.heap h0) (Ea : Exa Z h0 a "java/util/BitSet") (Fw : Fld Z h0 a "java/util/BitSet" "wordsInUse" "I" (.int 0)) (Fs : Fld Z h0 a "java/util/BitSet" "sizeIsSticky" "Z" (.int 0)) (Fd : Fld Z h0 a "java/util/BitSet" "words" "[J" .null) (gz : Z.heap.size ≤ a) :
    MetN l Z (⟨"java/util/BitSet", "initWords", "(I)V"⟩ : MethodName) jdk_92_method_6_code 2 none [] ({ frames := 1, cells := 1, slots := 672, locals := 13 } : Room) #[(.ref a), (.int (42950 : Int32))] h0 (fun v h => v = none ∧ Keep h0 h [a] ∧ Exa Z h a "java/util/BitSet" ∧ Fld Z h a "java/util/BitSet" "wordsInUse" "I" (.int 0) ∧ Fld Z h a "java/util/BitSet" "sizeIsSticky" "Z" (.int 0) ∧ ∃ t kb, h0.size ≤ t ∧ Fld Z h a "java/util/BitSet" "words" "[J" (.ref t) ∧ Arv Z h t kb .long (672 : Int32) [] (.long 0)) := by
  refine metN (by first | exact plainFor_of_name (by first | (simp [plainName, overriddenIn]; done) | decide +kernel) | decide +kernel) Z0 (Ls := #[.val (.ref a), .val (.int (42950 : Int32))]) (fun m => by first | (simp [entryFrame, mkF, argsToLocals, Value.category]; done) | rfl) ?_
  intro p e s m below meth c T0 hx hby hml hret hlk hown hnm hZ N0
  refine Ends.go (f' := (mkF m 1 #[.val (.ref a), .val (.int (42950 : Int32))] [(.ref a)])) (fun t k => XS.aloadN N0.here hx rfl (hb hby d4_0) rfl rfl k) ?_
  refine Ends.go (f' := (mkF m 2 #[.val (.ref a), .val (.int (42950 : Int32))] [(.int (42950 : Int32)), (.ref a)])) (fun t k => XS.iloadN N0.here hx rfl (hb hby d4_1) rfl k) ?_
  refine Ends.go (f' := (mkF m 3 #[.val (.ref a), .val (.int (42950 : Int32))] [(.int (1 : Int32)), (.int (42950 : Int32)), (.ref a)])) (fun t k => XS.iconst N0.here hx rfl (hb hby d4_2) k) ?_
  refine Ends.go (f' := (mkF m 4 #[.val (.ref a), .val (.int (42950 : Int32))] [(.int ((42950 : Int32) - (1 : Int32))), (.ref a)])) (fun t k => XS.isub N0.here hx rfl (hb hby d4_3) rfl k) ?_
  refine gStatic (W := 1) (argsL := [(.int ((42950 : Int32) - (1 : Int32)))]) (rest := [(.ref a)]) N0 hx hZ hown (hw _ (List.mem_of_getElem? (i := 26) rfl)) (hw _ (List.mem_of_getElem? (i := 27) rfl)) (hw _ (List.mem_of_getElem? (i := 9) rfl)) (hw _ (List.mem_of_getElem? (i := 28) rfl)) (by decide) ((rm5 l Z a0 hw ((42950 : Int32) - (1 : Int32)) h0 N0.ext).back (W := 1) hZ (hw _ (List.mem_of_getElem? (i := 28) rfl)) (hw _ (List.mem_of_getElem? (i := 9) rfl)) (nle rfl) (nle rfl)) (hb hby d4_4) rfl (by rw [hml]; rfl) (lenOf (by decide +kernel : parseMethodDescriptor "(I)I" = some ⟨[.int], (some .int)⟩) rfl) (nle rfl) (nle rfl) (nle rfl) (fun _ _ _ q => q.2) ?_
  rintro _ T1 _ _ N2 ⟨⟨rfl, e_h⟩, -⟩; rw [e_h] at N2; clear e_h
  show Ends p e below _ T1 (mkF m 7 #[.val (.ref a), .val (.int (42950 : Int32))] [(.int (f_wi ((42950 : Int32) - (1 : Int32)))), (.ref a)])
  refine Ends.go (f' := (mkF m 8 #[.val (.ref a), .val (.int (42950 : Int32))] [(.int (1 : Int32)), (.int (f_wi ((42950 : Int32) - (1 : Int32)))), (.ref a)])) (fun t k => XS.iconst N2.here hx rfl (hb hby d4_7) k) ?_
  refine Ends.go (f' := (mkF m 9 #[.val (.ref a), .val (.int (42950 : Int32))] [(.int ((f_wi ((42950 : Int32) - (1 : Int32))) + (1 : Int32))), (.ref a)])) (fun t k => XS.iadd N2.here hx rfl (hb hby d4_8) rfl k) ?_
  rw [show ((f_wi ((42950 : Int32) - (1 : Int32))) + (1 : Int32)) = (672 : Int32) from by decide]
  refine gArr 672 N2 hx hZ (hw _ (List.mem_of_getElem? (i := 29) rfl)) (hb hby d4_9) (by decide) (nle rfl) (nle rfl) (nle rfl) (nle rfl) ?_
  intro T6 h7 b8 kA9 eb10 N11 E12 V13
  show Ends p e below _ T6 (mkF m 11 #[.val (.ref a), .val (.int (42950 : Int32))] [(.ref b8), (.ref a)])
  refine gPut (host := "") (C := "java/util/BitSet") N11 hx hZ hown (Or.inl (hw _ (List.mem_of_getElem? (i := 30) rfl))) Via.refl (Fd.ext E12) (Ea.ext E12) gz (Or.inl (hw _ (List.mem_of_getElem? (i := 31) rfl))) (hw _ (List.mem_of_getElem? (i := 8) rfl)) (ty := (.array .long)) (by decide) rfl rfl (hb hby d4_11) ?_
  intro T14 h15 N16 W17 F18 E19
  have F20 := (Fw.ext E12).other W17 (Or.inr (sn_wordsInUse_words hw))
  have F21 := (Fs.ext E12).other W17 (Or.inr (sn_sizeIsSticky_words hw))
  show Ends p e below _ T14 (mkF m 14 #[.val (.ref a), .val (.int (42950 : Int32))] [])
  have ne1 : b8 ≠ a := fun q => (Exa.neArv (Ea.ext E12) V13 (hw _ (List.mem_of_getElem? (i := 8) rfl))) q.symm
  exact retV N16 hx hlk hret (hb hby d4_14) ⟨rfl, (((Keep.refl h0 [a]).ext E12).wr W17 (Or.inl (List.mem_singleton.mpr rfl))), E19, F20, F21, b8, kA9, by rw [eb10]; exact Nat.le_refl _, F18, (V13.other W17 ne1)⟩ (nle rfl) (nle rfl)
theorem d2_0 : decode jdk_92_method_5_code 0 = .ok (.aload_n 0, 1) := by decide +kernel
theorem d2_1 : decode jdk_92_method_5_code 1 = .ok (.invokespecial 21, 3) := by decide +kernel
theorem d2_4 : decode jdk_92_method_5_code 4 = .ok (.aload_n 0, 1) := by decide +kernel
theorem d2_5 : decode jdk_92_method_5_code 5 = .ok (.iconst 0, 1) := by decide +kernel
theorem d2_6 : decode jdk_92_method_5_code 6 = .ok (.putfield 7, 3) := by decide +kernel
theorem d2_9 : decode jdk_92_method_5_code 9 = .ok (.aload_n 0, 1) := by decide +kernel
theorem d2_10 : decode jdk_92_method_5_code 10 = .ok (.iconst 0, 1) := by decide +kernel
theorem d2_11 : decode jdk_92_method_5_code 11 = .ok (.putfield 24, 3) := by decide +kernel
theorem d2_14 : decode jdk_92_method_5_code 14 = .ok (.iload_n 1, 1) := by decide +kernel
theorem d2_15 : decode jdk_92_method_5_code 15 = .ok (.ifCond .ge 30, 3) := by decide +kernel
theorem d2_45 : decode jdk_92_method_5_code 45 = .ok (.aload_n 0, 1) := by decide +kernel
theorem d2_46 : decode jdk_92_method_5_code 46 = .ok (.iload_n 1, 1) := by decide +kernel
theorem d2_47 : decode jdk_92_method_5_code 47 = .ok (.invokevirtual 27, 3) := by decide +kernel
theorem d2_50 : decode jdk_92_method_5_code 50 = .ok (.aload_n 0, 1) := by decide +kernel
theorem d2_51 : decode jdk_92_method_5_code 51 = .ok (.iconst 1, 1) := by decide +kernel
theorem d2_52 : decode jdk_92_method_5_code 52 = .ok (.putfield 24, 3) := by decide +kernel
theorem d2_55 : decode jdk_92_method_5_code 55 = .ok (.return_, 1) := by decide +kernel
set_option maxRecDepth 65536 in
set_option maxHeartbeats 40000000 in
theorem rmInit (l : Launch) (Z : State) (a0 : Array Value) (hw : ∀ d ∈ tables_1, d.before a0 Z = true) (a : Addr) (h0 : Heap) (Z0 : Ext Z.heap h0) (Ea : Exa Z h0 a "java/util/BitSet") (Fw : Fld Z h0 a "java/util/BitSet" "wordsInUse" "I" (.int 0)) (Fs : Fld Z h0 a "java/util/BitSet" "sizeIsSticky" "Z" (.int 0)) (Fd : Fld Z h0 a "java/util/BitSet" "words" "[J" .null) (gz : Z.heap.size ≤ a) :
    MetN l Z (⟨"java/util/BitSet", "<init>", "(I)V"⟩ : MethodName) jdk_92_method_5_code 2 none [] ({ frames := 2, cells := 1, slots := 672, locals := 26 } : Room) #[(.ref a), (.int (42950 : Int32))] h0 (fun v h => v = none ∧ Keep h0 h [a] ∧ Exa Z h a "java/util/BitSet" ∧ Fld Z h a "java/util/BitSet" "wordsInUse" "I" (.int 0) ∧ ∃ t kb, h0.size ≤ t ∧ Fld Z h a "java/util/BitSet" "words" "[J" (.ref t) ∧ Arv Z h t kb .long (672 : Int32) [] (.long 0)) := by
  refine metN (by first | exact plainFor_of_name (by first | (simp [plainName, overriddenIn]; done) | decide +kernel) | decide +kernel) Z0 (Ls := #[.val (.ref a), .val (.int (42950 : Int32))]) (fun m => by first | (simp [entryFrame, mkF, argsToLocals, Value.category]; done) | rfl) ?_
  intro p e s m below meth c T0 hx hby hml hret hlk hown hnm hZ N0
  refine Ends.go (f' := (mkF m 1 #[.val (.ref a), .val (.int (42950 : Int32))] [(.ref a)])) (fun t k => XS.aloadN N0.here hx rfl (hb hby d2_0) rfl rfl k) ?_
  refine gInitO 0 N0 hx hZ hown (hw _ (List.mem_of_getElem? (i := 14) rfl)) (hw _ (List.mem_of_getElem? (i := 15) rfl)) (hw _ (List.mem_of_getElem? (i := 16) rfl)) (hb hby d2_1) (by rw [hml]; rfl) (nle rfl) (nle rfl) (nle rfl) ?_
  intro T1 N2
  show Ends p e below _ T1 (mkF m 4 #[.val (.ref a), .val (.int (42950 : Int32))] [])
  refine Ends.go (f' := (mkF m 5 #[.val (.ref a), .val (.int (42950 : Int32))] [(.ref a)])) (fun t k => XS.aloadN N2.here hx rfl (hb hby d2_4) rfl rfl k) ?_
  refine Ends.go (f' := (mkF m 6 #[.val (.ref a), .val (.int (42950 : Int32))] [(.int (0 : Int32)), (.ref a)])) (fun t k => XS.iconst N2.here hx rfl (hb hby d2_5) k) ?_
  refine gPut (host := "") (C := "java/util/BitSet") N2 hx hZ hown (Or.inl (hw _ (List.mem_of_getElem? (i := 17) rfl))) Via.refl Fw Ea gz (Or.inl (hw _ (List.mem_of_getElem? (i := 18) rfl))) (hw _ (List.mem_of_getElem? (i := 8) rfl)) (ty := .int) (by decide) rfl rfl (hb hby d2_6) ?_
  intro T3 h4 N5 W6 F7 E8
  have F9 := Fs.other W6 (Or.inr (sn_sizeIsSticky_wordsInUse hw))
  have F10 := Fd.other W6 (Or.inr (sn_words_wordsInUse hw))
  show Ends p e below _ T3 (mkF m 9 #[.val (.ref a), .val (.int (42950 : Int32))] [])
  refine Ends.go (f' := (mkF m 10 #[.val (.ref a), .val (.int (42950 : Int32))] [(.ref a)])) (fun t k => XS.aloadN N5.here hx rfl (hb hby d2_9) rfl rfl k) ?_
  refine Ends.go (f' := (mkF m 11 #[.val (.ref a), .val (.int (42950 : Int32))] [(.int (0 : Int32)), (.ref a)])) (fun t k => XS.iconst N5.here hx rfl (hb hby d2_10) k) ?_
  refine gPut (host := "") (C := "java/util/BitSet") N5 hx hZ hown (Or.inl (hw _ (List.mem_of_getElem? (i := 19) rfl))) Via.refl F9 E8 gz (Or.inl (hw _ (List.mem_of_getElem? (i := 20) rfl))) (hw _ (List.mem_of_getElem? (i := 8) rfl)) (ty := .boolean) (by decide) rfl rfl (hb hby d2_11) ?_
  intro T11 h12 N13 W14 F15 E16
  have F17 := F7.other W14 (Or.inr (sn_wordsInUse_sizeIsSticky hw))
  have F18 := F10.other W14 (Or.inr (sn_words_sizeIsSticky hw))
  show Ends p e below _ T11 (mkF m 14 #[.val (.ref a), .val (.int (42950 : Int32))] [])
  refine Ends.go (f' := (mkF m 15 #[.val (.ref a), .val (.int (42950 : Int32))] [(.int (42950 : Int32))])) (fun t k => XS.iloadN N13.here hx rfl (hb hby d2_14) rfl k) ?_
  refine Ends.go (f' := (mkF m 45 #[.val (.ref a), .val (.int (42950 : Int32))] [])) (fun t k => XS.ifYes N13.here hx rfl (pc0 := 15) (pc' := 45) rfl (hb hby d2_15) rfl (XT.i0_ge_t (by decide)) (by decide) (by decide) k) ?_
  refine Ends.go (f' := (mkF m 46 #[.val (.ref a), .val (.int (42950 : Int32))] [(.ref a)])) (fun t k => XS.aloadN N13.here hx rfl (hb hby d2_45) rfl rfl k) ?_
  refine Ends.go (f' := (mkF m 47 #[.val (.ref a), .val (.int (42950 : Int32))] [(.int (42950 : Int32)), (.ref a)])) (fun t k => XS.iloadN N13.here hx rfl (hb hby d2_46) rfl k) ?_
  refine gPrivate (W := 0) (y := (⟨"java/util/BitSet", "initWords", "(I)V"⟩ : MethodName)) (C := "java/util/BitSet") (b := a) (argsL := [(.int (42950 : Int32))]) (rest := []) N13 hx hZ hown (hw _ (List.mem_of_getElem? (i := 21) rfl)) (hw _ (List.mem_of_getElem? (i := 22) rfl)) (hw _ (List.mem_of_getElem? (i := 24) rfl)) (hw _ (List.mem_of_getElem? (i := 23) rfl)) (hw _ (List.mem_of_getElem? (i := 25) rfl)) (by decide) E16 ((rmIW l Z a0 hw a h12 N13.ext E16 F17 F15 F18 gz).back (W := 0) hZ (hw _ (List.mem_of_getElem? (i := 25) rfl)) (hw _ (List.mem_of_getElem? (i := 9) rfl)) (nle rfl) (nle rfl)) (hb hby d2_47) rfl (by rw [hml]; rfl) (lenOf (by decide +kernel : parseMethodDescriptor "(I)V" = some ⟨[.int], none⟩) rfl) (nle rfl) (nle rfl) (nle rfl) (fun _ _ _ q => q.2) ?_
  rintro _ T19 h20 _ N21 ⟨⟨rfl, k3, e3, fw3, fs3, t3, kb3, g3, fd3, v3⟩, -⟩
  show Ends p e below _ T19 (mkF m 50 #[.val (.ref a), .val (.int (42950 : Int32))] [])
  refine Ends.go (f' := (mkF m 51 #[.val (.ref a), .val (.int (42950 : Int32))] [(.ref a)])) (fun t k => XS.aloadN N21.here hx rfl (hb hby d2_50) rfl rfl k) ?_
  refine Ends.go (f' := (mkF m 52 #[.val (.ref a), .val (.int (42950 : Int32))] [(.int (1 : Int32)), (.ref a)])) (fun t k => XS.iconst N21.here hx rfl (hb hby d2_51) k) ?_
  refine gPut (host := "") (C := "java/util/BitSet") N21 hx hZ hown (Or.inl (hw _ (List.mem_of_getElem? (i := 19) rfl))) Via.refl fs3 e3 gz (Or.inl (hw _ (List.mem_of_getElem? (i := 20) rfl))) (hw _ (List.mem_of_getElem? (i := 8) rfl)) (ty := .boolean) (by decide) rfl rfl (hb hby d2_52) ?_
  intro T22 h23 N24 W25 F26 E27
  have F28 := fw3.other W25 (Or.inr (sn_wordsInUse_sizeIsSticky hw))
  have F29 := fd3.other W25 (Or.inr (sn_words_sizeIsSticky hw))
  show Ends p e below _ T22 (mkF m 55 #[.val (.ref a), .val (.int (42950 : Int32))] [])
  have ne1 : t3 ≠ a := fun q => (Exa.neArv e3 v3 (hw _ (List.mem_of_getElem? (i := 8) rfl))) q.symm
  have k0 : Keep h0 h12 [a] := ((Keep.refl h0 [a]).wr W6 (Or.inl (List.mem_singleton.mpr rfl))).wr W14 (Or.inl (List.mem_singleton.mpr rfl))
  have k1 : Keep h0 h23 [a] := (k0.trans k3 (fun x hx => Or.inl hx)).wr W25 (Or.inl (List.mem_singleton.mpr rfl))
  exact retV N24 hx hlk hret (hb hby d2_55) ⟨rfl, k1, E27, F28, t3, kb3, Nat.le_trans k0.1 g3, F29, (v3.other W25 ne1)⟩ (nle rfl) (nle rfl)
theorem d9_0 : decode jdk_92_method_14_code 0 = .ok (.aload_n 0, 1) := by decide +kernel
theorem d9_1 : decode jdk_92_method_14_code 1 = .ok (.getfield 11, 3) := by decide +kernel
theorem d9_4 : decode jdk_92_method_14_code 4 = .ok (.arraylength, 1) := by decide +kernel
theorem d9_5 : decode jdk_92_method_14_code 5 = .ok (.iload_n 1, 1) := by decide +kernel
theorem d9_6 : decode jdk_92_method_14_code 6 = .ok (.if_icmp .ge 32, 3) := by decide +kernel
theorem d9_38 : decode jdk_92_method_14_code 38 = .ok (.return_, 1) := by decide +kernel
set_option maxRecDepth 65536 in
set_option maxHeartbeats 40000000 in
theorem rmEC (l : Launch) (Z : State) (a0 : Array Value) (hw : ∀ d ∈ tables_1, d.before a0 Z = true) (a t : Addr) (kb : ClassId) (vs : List Value) (h0 : Heap) (Z0 : Ext Z.heap h0) (Fd : Fld Z h0 a "java/util/BitSet" "words" "[J" (.ref t)) (V : Arv Z h0 t kb .long (672 : Int32) vs (.long 0)) :
    MetN l Z (⟨"java/util/BitSet", "ensureCapacity", "(I)V"⟩ : MethodName) jdk_92_method_14_code 3 none [] ({ frames := 0, cells := 0, slots := 0, locals := 0 } : Room) #[(.ref a), (.int (672 : Int32))] h0 (fun v h => v = none ∧ h = h0) := by
  refine metN (by first | exact plainFor_of_name (by first | (simp [plainName, overriddenIn]; done) | decide +kernel) | decide +kernel) Z0 (Ls := #[.val (.ref a), .val (.int (672 : Int32)), .unset]) (fun m => by first | (simp [entryFrame, mkF, argsToLocals, Value.category]; done) | rfl) ?_
  intro p e s m below meth c T0 hx hby hml hret hlk hown hnm hZ N0
  refine Ends.go (f' := (mkF m 1 #[.val (.ref a), .val (.int (672 : Int32)), .unset] [(.ref a)])) (fun t k => XS.aloadN N0.here hx rfl (hb hby d9_0) rfl rfl k) ?_
  refine gGet (host := "") N0 hx hZ hown (Or.inl (hw _ (List.mem_of_getElem? (i := 30) rfl))) Via.refl Fd (hb hby d9_1) ?_
  intro T1 N2
  show Ends p e below _ T1 (mkF m 4 #[.val (.ref a), .val (.int (672 : Int32)), .unset] [(.ref t)])
  refine gLen N2 hx hZ V (hb hby d9_4) ?_
  show Ends p e below _ T1 (mkF m 5 #[.val (.ref a), .val (.int (672 : Int32)), .unset] [(.int (672 : Int32))])
  refine Ends.go (f' := (mkF m 6 #[.val (.ref a), .val (.int (672 : Int32)), .unset] [(.int (672 : Int32)), (.int (672 : Int32))])) (fun t k => XS.iloadN N2.here hx rfl (hb hby d9_5) rfl k) ?_
  refine Ends.go (f' := (mkF m 38 #[.val (.ref a), .val (.int (672 : Int32)), .unset] [])) (fun t k => XS.icmpYes N2.here hx rfl (pc0 := 6) (pc' := 38) rfl (hb hby d9_6) rfl (XT.ii_ge_t (by decide)) (by decide) (by decide) k) ?_
  exact retV N2 hx hlk hret (hb hby d9_38) ⟨rfl, rfl⟩ (nle rfl) (nle rfl)
theorem d8_0 : decode jdk_92_method_15_code 0 = .ok (.iload_n 1, 1) := by decide +kernel
theorem d8_1 : decode jdk_92_method_15_code 1 = .ok (.iconst 1, 1) := by decide +kernel
theorem d8_2 : decode jdk_92_method_15_code 2 = .ok (.iadd, 1) := by decide +kernel
theorem d8_3 : decode jdk_92_method_15_code 3 = .ok (.istore_n 2, 1) := by decide +kernel
theorem d8_4 : decode jdk_92_method_15_code 4 = .ok (.aload_n 0, 1) := by decide +kernel
theorem d8_5 : decode jdk_92_method_15_code 5 = .ok (.getfield 7, 3) := by decide +kernel
theorem d8_8 : decode jdk_92_method_15_code 8 = .ok (.iload_n 2, 1) := by decide +kernel
theorem d8_9 : decode jdk_92_method_15_code 9 = .ok (.if_icmp .ge 13, 3) := by decide +kernel
theorem d8_12 : decode jdk_92_method_15_code 12 = .ok (.aload_n 0, 1) := by decide +kernel
theorem d8_13 : decode jdk_92_method_15_code 13 = .ok (.iload_n 2, 1) := by decide +kernel
theorem d8_14 : decode jdk_92_method_15_code 14 = .ok (.invokevirtual 139, 3) := by decide +kernel
theorem d8_17 : decode jdk_92_method_15_code 17 = .ok (.aload_n 0, 1) := by decide +kernel
theorem d8_18 : decode jdk_92_method_15_code 18 = .ok (.iload_n 2, 1) := by decide +kernel
theorem d8_19 : decode jdk_92_method_15_code 19 = .ok (.putfield 7, 3) := by decide +kernel
theorem d8_22 : decode jdk_92_method_15_code 22 = .ok (.return_, 1) := by decide +kernel
set_option maxRecDepth 65536 in
set_option maxHeartbeats 40000000 in
theorem rmET (l : Launch) (Z : State) (a0 : Array Value) (hw : ∀ d ∈ tables_1, d.before a0 Z = true) (a t : Addr) (kb : ClassId) (vs : List Value) (h0 : Heap) (Z0 : Ext Z.heap h0) (Fd : Fld Z h0 a "java/util/BitSet" "words" "[J" (.ref t)) (V : Arv Z h0 t kb .long (672 : Int32) vs (.long 0)) (Ea : Exa Z h0 a "java/util/BitSet") (Fw : Fld Z h0 a "java/util/BitSet" "wordsInUse" "I" (.int 0)) (gz : Z.heap.size ≤ a) :
    MetN l Z (⟨"java/util/BitSet", "expandTo", "(I)V"⟩ : MethodName) jdk_92_method_15_code 3 none [] ({ frames := 1, cells := 0, slots := 0, locals := 14 } : Room) #[(.ref a), (.int (671 : Int32))] h0 (fun v h => v = none ∧ Keep h0 h [a] ∧ Exa Z h a "java/util/BitSet" ∧ Fld Z h a "java/util/BitSet" "wordsInUse" "I" (.int 672) ∧ Fld Z h a "java/util/BitSet" "words" "[J" (.ref t) ∧ Arv Z h t kb .long (672 : Int32) vs (.long 0)) := by
  refine metN (by first | exact plainFor_of_name (by first | (simp [plainName, overriddenIn]; done) | decide +kernel) | decide +kernel) Z0 (Ls := #[.val (.ref a), .val (.int (671 : Int32)), .unset]) (fun m => by first | (simp [entryFrame, mkF, argsToLocals, Value.category]; done) | rfl) ?_
  intro p e s m below meth c T0 hx hby hml hret hlk hown hnm hZ N0
  refine Ends.go (f' := (mkF m 1 #[.val (.ref a), .val (.int (671 : Int32)), .unset] [(.int (671 : Int32))])) (fun t k => XS.iloadN N0.here hx rfl (hb hby d8_0) rfl k) ?_
  refine Ends.go (f' := (mkF m 2 #[.val (.ref a), .val (.int (671 : Int32)), .unset] [(.int (1 : Int32)), (.int (671 : Int32))])) (fun t k => XS.iconst N0.here hx rfl (hb hby d8_1) k) ?_
  refine Ends.go (f' := (mkF m 3 #[.val (.ref a), .val (.int (671 : Int32)), .unset] [(.int ((671 : Int32) + (1 : Int32)))])) (fun t k => XS.iadd N0.here hx rfl (hb hby d8_2) rfl k) ?_
  rw [show ((671 : Int32) + (1 : Int32)) = (672 : Int32) from by decide]
  refine Ends.go (f' := (mkF m 4 #[.val (.ref a), .val (.int (671 : Int32)), .val (.int (672 : Int32))] [])) (fun t k => XS.istoreN N0.here hx rfl (hb hby d8_3) rfl (l' := #[.val (.ref a), .val (.int (671 : Int32)), .val (.int (672 : Int32))]) rfl k) ?_
  refine Ends.go (f' := (mkF m 5 #[.val (.ref a), .val (.int (671 : Int32)), .val (.int (672 : Int32))] [(.ref a)])) (fun t k => XS.aloadN N0.here hx rfl (hb hby d8_4) rfl rfl k) ?_
  refine gGet (host := "") N0 hx hZ hown (Or.inl (hw _ (List.mem_of_getElem? (i := 17) rfl))) Via.refl Fw (hb hby d8_5) ?_
  intro T1 N2
  show Ends p e below _ T1 (mkF m 8 #[.val (.ref a), .val (.int (671 : Int32)), .val (.int (672 : Int32))] [(.int (0 : Int32))])
  refine Ends.go (f' := (mkF m 9 #[.val (.ref a), .val (.int (671 : Int32)), .val (.int (672 : Int32))] [(.int (672 : Int32)), (.int (0 : Int32))])) (fun t k => XS.iloadN N2.here hx rfl (hb hby d8_8) rfl k) ?_
  refine Ends.go (f' := (mkF m 12 #[.val (.ref a), .val (.int (671 : Int32)), .val (.int (672 : Int32))] [])) (fun t k => XS.icmpNo N2.here hx rfl (hb hby d8_9) rfl (XT.ii_ge_f (by decide)) k) ?_
  refine Ends.go (f' := (mkF m 13 #[.val (.ref a), .val (.int (671 : Int32)), .val (.int (672 : Int32))] [(.ref a)])) (fun t k => XS.aloadN N2.here hx rfl (hb hby d8_12) rfl rfl k) ?_
  refine Ends.go (f' := (mkF m 14 #[.val (.ref a), .val (.int (671 : Int32)), .val (.int (672 : Int32))] [(.int (672 : Int32)), (.ref a)])) (fun t k => XS.iloadN N2.here hx rfl (hb hby d8_13) rfl k) ?_
  refine gPrivate (W := 0) (y := (⟨"java/util/BitSet", "ensureCapacity", "(I)V"⟩ : MethodName)) (C := "java/util/BitSet") (b := a) (argsL := [(.int (672 : Int32))]) (rest := []) N2 hx hZ hown (hw _ (List.mem_of_getElem? (i := 45) rfl)) (hw _ (List.mem_of_getElem? (i := 46) rfl)) (hw _ (List.mem_of_getElem? (i := 48) rfl)) (hw _ (List.mem_of_getElem? (i := 47) rfl)) (hw _ (List.mem_of_getElem? (i := 49) rfl)) (by decide) Ea ((rmEC l Z a0 hw a t kb vs h0 N2.ext Fd V).back (W := 0) hZ (hw _ (List.mem_of_getElem? (i := 49) rfl)) (hw _ (List.mem_of_getElem? (i := 9) rfl)) (nle rfl) (nle rfl)) (hb hby d8_14) rfl (by rw [hml]; rfl) (lenOf (by decide +kernel : parseMethodDescriptor "(I)V" = some ⟨[.int], none⟩) rfl) (nle rfl) (nle rfl) (nle rfl) (fun _ _ _ q => q.2) ?_
  rintro _ T3 _ _ N4 ⟨⟨rfl, e_h⟩, -⟩; rw [e_h] at N4; clear e_h
  show Ends p e below _ T3 (mkF m 17 #[.val (.ref a), .val (.int (671 : Int32)), .val (.int (672 : Int32))] [])
  refine Ends.go (f' := (mkF m 18 #[.val (.ref a), .val (.int (671 : Int32)), .val (.int (672 : Int32))] [(.ref a)])) (fun t k => XS.aloadN N4.here hx rfl (hb hby d8_17) rfl rfl k) ?_
  refine Ends.go (f' := (mkF m 19 #[.val (.ref a), .val (.int (671 : Int32)), .val (.int (672 : Int32))] [(.int (672 : Int32)), (.ref a)])) (fun t k => XS.iloadN N4.here hx rfl (hb hby d8_18) rfl k) ?_
  refine gPut (host := "") (C := "java/util/BitSet") N4 hx hZ hown (Or.inl (hw _ (List.mem_of_getElem? (i := 17) rfl))) Via.refl Fw Ea gz (Or.inl (hw _ (List.mem_of_getElem? (i := 18) rfl))) (hw _ (List.mem_of_getElem? (i := 8) rfl)) (ty := .int) (by decide) rfl rfl (hb hby d8_19) ?_
  intro T5 h6 N7 W8 F9 E10
  have F11 := Fd.other W8 (Or.inr (sn_words_wordsInUse hw))
  show Ends p e below _ T5 (mkF m 22 #[.val (.ref a), .val (.int (671 : Int32)), .val (.int (672 : Int32))] [])
  have ne1 : t ≠ a := fun q => (Exa.neArv Ea V (hw _ (List.mem_of_getElem? (i := 8) rfl))) q.symm
  exact retV N7 hx hlk hret (hb hby d8_22) ⟨rfl, (Keep.refl h0 [a]).wr W8 (Or.inl (List.mem_singleton.mpr rfl)), E10, F9, F11, V.other W8 ne1⟩ (nle rfl) (nle rfl)
/-- the words while they are being filled: i words of ones -/
def vsI (i : Nat) : List Value := List.replicate i (.long (-1)) ++ List.replicate (672 - i) (.long 0)
def wl : List Int64 := List.replicate 671 (-1) ++ [63]
theorem set_rep {α : Type} (a x b : α) (r : List α) : ∀ n : Nat, (List.replicate n a ++ b :: r).set n x = List.replicate n a ++ x :: r
  | 0 => rfl
  | n + 1 => by
    rw [List.replicate_succ, List.cons_append, List.set_cons_succ, set_rep a x b r n, List.cons_append]
theorem getD_rep {α : Type} (a d : α) (r : List α) : ∀ n j : Nat, j < n → (List.replicate n a ++ r).getD j d = a
  | 0, j, h => absurd h (Nat.not_lt_zero _)
  | n + 1, 0, _ => rfl
  | n + 1, j + 1, h => by
    rw [List.replicate_succ, List.cons_append, List.getD_cons_succ]; exact getD_rep a d r n j (Nat.lt_of_succ_lt_succ h)
theorem getD_lst {α : Type} (a x d : α) : ∀ n : Nat, (List.replicate n a ++ [x]).getD n d = x
  | 0 => rfl
  | n + 1 => by
    rw [List.replicate_succ, List.cons_append, List.getD_cons_succ]; exact getD_lst a x d n
theorem vsI_len {i : Nat} (h : i ≤ 672) : (vsI i).length = 672 := by simp [vsI]; omega
theorem vsI_set {i : Nat} (h : i < 672) : (vsI i).set i (.long (-1)) = vsI (i + 1) := by
  have e : 672 - i = (672 - (i + 1)) + 1 := by omega
  unfold vsI
  rw [e, List.replicate_succ, set_rep, List.replicate_succ', List.append_assoc]; rfl
theorem vsI_last : (vsI 671).set 671 (.long 63) = wl.map Value.long := by
  have e1 : vsI 671 = List.replicate 671 (.long (-1)) ++ Value.long 0 :: [] := rfl
  have e2 : wl.map Value.long = List.replicate 671 (.long (-1)) ++ Value.long 63 :: [] := by
    unfold wl; rw [List.map_append, List.map_replicate]; rfl
  rw [e1, e2]; exact set_rep _ _ _ _ 671
theorem vsI_get {i j : Nat} (h : i ≤ j) (h2 : j < 672) : (vsI i).getD j (.long 0) = .long 0 := by
  unfold vsI
  rw [List.getD_eq_getElem?_getD, List.getElem?_append_right (by simpa using h)]
  simp only [List.length_replicate]
  rw [List.getElem?_replicate]
  split <;> rfl
theorem ofNat_toInt {i : Nat} (h : i ≤ 100000) : (Int32.ofNat i).toInt = i := len_toInt (by omega)
theorem ofNat_lt {i j : Nat} (hi : i ≤ 100000) (hj : j ≤ 100000) : Int32.ofNat i < Int32.ofNat j ↔ i < j := by
  rw [Int32.lt_iff_toInt_lt, ofNat_toInt hi, ofNat_toInt hj]; omega
theorem ofNat_succ (i : Nat) : Int32.ofNat i + (1 : Int32) = Int32.ofNat (i + 1) := by rw [Int32.ofNat_add]; rfl
theorem ofNat_nat {i : Nat} (h : i ≤ 100000) : (Int32.ofNat i).toNatClampNeg = i := by simp only [Int32.toNatClampNeg, ofNat_toInt h]; omega
theorem ofNat_in {i : Nat} (h : i < 672) : ¬ Int32.ofNat i < 0 ∧ Int32.ofNat i < (672 : Int32) := by
  have e0 : (0 : Int32).toInt = 0 := rfl
  have e1 : (672 : Int32).toInt = 672 := rfl
  rw [Int32.lt_iff_toInt_lt, Int32.lt_iff_toInt_lt, ofNat_toInt (by omega)]; omega
theorem kp2 {h h1 h2 : Heap} {a t : Addr} {sl : Nat} {v : Value} (K : Keep h h1 [a]) (W : Wr h1 h2 t sl v) : Keep h h2 [a, t] :=
  Keep.wr (ws := [a, t]) ⟨K.1, fun x c q r => K.2.1 x c q (fun z => r (by cases List.mem_singleton.mp z; exact List.mem_cons_self ..)), K.2.2⟩ W (Or.inl (by simp))
theorem kp1 {h h1 h2 : Heap} {a t : Addr} {sl : Nat} {v : Value} (K : Keep h h1 [a, t]) (W : Wr h1 h2 t sl v) : Keep h h2 [a, t] := K.wr W (Or.inl (by simp))
theorem d6_0 : decode jdk_92_method_21_code 0 = .ok (.iload_n 1, 1) := by decide +kernel
theorem d6_1 : decode jdk_92_method_21_code 1 = .ok (.iload_n 2, 1) := by decide +kernel
theorem d6_2 : decode jdk_92_method_21_code 2 = .ok (.invokestatic 161, 3) := by decide +kernel
theorem d6_5 : decode jdk_92_method_21_code 5 = .ok (.iload_n 1, 1) := by decide +kernel
theorem d6_6 : decode jdk_92_method_21_code 6 = .ok (.iload_n 2, 1) := by decide +kernel
theorem d6_7 : decode jdk_92_method_21_code 7 = .ok (.if_icmp .ne 4, 3) := by decide +kernel
theorem d6_11 : decode jdk_92_method_21_code 11 = .ok (.iload_n 1, 1) := by decide +kernel
theorem d6_12 : decode jdk_92_method_21_code 12 = .ok (.invokestatic 52, 3) := by decide +kernel
theorem d6_15 : decode jdk_92_method_21_code 15 = .ok (.istore_n 3, 1) := by decide +kernel
theorem d6_16 : decode jdk_92_method_21_code 16 = .ok (.iload_n 2, 1) := by decide +kernel
theorem d6_17 : decode jdk_92_method_21_code 17 = .ok (.iconst 1, 1) := by decide +kernel
theorem d6_18 : decode jdk_92_method_21_code 18 = .ok (.isub, 1) := by decide +kernel
theorem d6_19 : decode jdk_92_method_21_code 19 = .ok (.invokestatic 52, 3) := by decide +kernel
theorem d6_22 : decode jdk_92_method_21_code 22 = .ok (.istore 4, 2) := by decide +kernel
theorem d6_24 : decode jdk_92_method_21_code 24 = .ok (.aload_n 0, 1) := by decide +kernel
theorem d6_25 : decode jdk_92_method_21_code 25 = .ok (.iload 4, 2) := by decide +kernel
theorem d6_27 : decode jdk_92_method_21_code 27 = .ok (.invokevirtual 155, 3) := by decide +kernel
theorem d6_30 : decode jdk_92_method_21_code 30 = .ok (.ldc2_w 165, 3) := by decide +kernel
theorem d6_33 : decode jdk_92_method_21_code 33 = .ok (.iload_n 1, 1) := by decide +kernel
theorem d6_34 : decode jdk_92_method_21_code 34 = .ok (.lshl, 1) := by decide +kernel
theorem d6_35 : decode jdk_92_method_21_code 35 = .ok (.lstore 5, 2) := by decide +kernel
theorem d6_37 : decode jdk_92_method_21_code 37 = .ok (.ldc2_w 165, 3) := by decide +kernel
theorem d6_40 : decode jdk_92_method_21_code 40 = .ok (.iload_n 2, 1) := by decide +kernel
theorem d6_41 : decode jdk_92_method_21_code 41 = .ok (.ineg, 1) := by decide +kernel
theorem d6_42 : decode jdk_92_method_21_code 42 = .ok (.lushr, 1) := by decide +kernel
theorem d6_43 : decode jdk_92_method_21_code 43 = .ok (.lstore 7, 2) := by decide +kernel
theorem d6_45 : decode jdk_92_method_21_code 45 = .ok (.iload_n 3, 1) := by decide +kernel
theorem d6_46 : decode jdk_92_method_21_code 46 = .ok (.iload 4, 2) := by decide +kernel
theorem d6_48 : decode jdk_92_method_21_code 48 = .ok (.if_icmp .ne 20, 3) := by decide +kernel
theorem d6_68 : decode jdk_92_method_21_code 68 = .ok (.aload_n 0, 1) := by decide +kernel
theorem d6_69 : decode jdk_92_method_21_code 69 = .ok (.getfield 11, 3) := by decide +kernel
theorem d6_72 : decode jdk_92_method_21_code 72 = .ok (.iload_n 3, 1) := by decide +kernel
theorem d6_73 : decode jdk_92_method_21_code 73 = .ok (.dup2, 1) := by decide +kernel
theorem d6_74 : decode jdk_92_method_21_code 74 = .ok (.laload, 1) := by decide +kernel
theorem d6_75 : decode jdk_92_method_21_code 75 = .ok (.lload 5, 2) := by decide +kernel
theorem d6_77 : decode jdk_92_method_21_code 77 = .ok (.lor, 1) := by decide +kernel
theorem d6_78 : decode jdk_92_method_21_code 78 = .ok (.lastore, 1) := by decide +kernel
theorem d6_79 : decode jdk_92_method_21_code 79 = .ok (.iload_n 3, 1) := by decide +kernel
theorem d6_80 : decode jdk_92_method_21_code 80 = .ok (.iconst 1, 1) := by decide +kernel
theorem d6_81 : decode jdk_92_method_21_code 81 = .ok (.iadd, 1) := by decide +kernel
theorem d6_82 : decode jdk_92_method_21_code 82 = .ok (.istore 9, 2) := by decide +kernel
theorem d6_84 : decode jdk_92_method_21_code 84 = .ok (.iload 9, 2) := by decide +kernel
theorem d6_86 : decode jdk_92_method_21_code 86 = .ok (.iload 4, 2) := by decide +kernel
theorem d6_88 : decode jdk_92_method_21_code 88 = .ok (.if_icmp .ge 19, 3) := by decide +kernel
theorem d6_91 : decode jdk_92_method_21_code 91 = .ok (.aload_n 0, 1) := by decide +kernel
theorem d6_92 : decode jdk_92_method_21_code 92 = .ok (.getfield 11, 3) := by decide +kernel
theorem d6_95 : decode jdk_92_method_21_code 95 = .ok (.iload 9, 2) := by decide +kernel
theorem d6_97 : decode jdk_92_method_21_code 97 = .ok (.ldc2_w 165, 3) := by decide +kernel
theorem d6_100 : decode jdk_92_method_21_code 100 = .ok (.lastore, 1) := by decide +kernel
theorem d6_101 : decode jdk_92_method_21_code 101 = .ok (.iinc 9 1, 3) := by decide +kernel
theorem d6_104 : decode jdk_92_method_21_code 104 = .ok (.goto (-20), 3) := by decide +kernel
theorem d6_107 : decode jdk_92_method_21_code 107 = .ok (.aload_n 0, 1) := by decide +kernel
theorem d6_108 : decode jdk_92_method_21_code 108 = .ok (.getfield 11, 3) := by decide +kernel
theorem d6_111 : decode jdk_92_method_21_code 111 = .ok (.iload 4, 2) := by decide +kernel
theorem d6_113 : decode jdk_92_method_21_code 113 = .ok (.dup2, 1) := by decide +kernel
theorem d6_114 : decode jdk_92_method_21_code 114 = .ok (.laload, 1) := by decide +kernel
theorem d6_115 : decode jdk_92_method_21_code 115 = .ok (.lload 7, 2) := by decide +kernel
theorem d6_117 : decode jdk_92_method_21_code 117 = .ok (.lor, 1) := by decide +kernel
theorem d6_118 : decode jdk_92_method_21_code 118 = .ok (.lastore, 1) := by decide +kernel
theorem d6_119 : decode jdk_92_method_21_code 119 = .ok (.aload_n 0, 1) := by decide +kernel
theorem d6_120 : decode jdk_92_method_21_code 120 = .ok (.invokevirtual 56, 3) := by decide +kernel
theorem d6_123 : decode jdk_92_method_21_code 123 = .ok (.return_, 1) := by decide +kernel
set_option maxRecDepth 65536 in
set_option maxHeartbeats 40000000 in
theorem rmSet (l : Launch) (Z : State) (a0 : Array Value) (hw : ∀ d ∈ tables_1, d.before a0 Z = true) (a t : Addr) (kb : ClassId) (h0 : Heap) (Z0 : Ext Z.heap h0) (Fd : Fld Z h0 a "java/util/BitSet" "words" "[J" (.ref t)) (V : Arv Z h0 t kb .long (672 : Int32) [] (.long 0)) (Ea : Exa Z h0 a "java/util/BitSet") (Fw : Fld Z h0 a "java/util/BitSet" "wordsInUse" "I" (.int 0)) (gz : Z.heap.size ≤ a) (gt : Z.heap.size ≤ t) (Sd : Sta Z Z.heap "java/util/BitSet" "$assertionsDisabled" "Z" (.int 1)) :
    MetN l Z (⟨"java/util/BitSet", "set", "(II)V"⟩ : MethodName) jdk_92_method_21_code 10 none [] ({ frames := 2, cells := 0, slots := 0, locals := 28 } : Room) #[(.ref a), (.int (0 : Int32)), (.int (42950 : Int32))] h0 (fun v h => v = none ∧ Keep h0 h [a, t] ∧ Exa Z h a "java/util/BitSet" ∧ Fld Z h a "java/util/BitSet" "wordsInUse" "I" (.int 672) ∧ ∃ t kb, Fld Z h a "java/util/BitSet" "words" "[J" (.ref t) ∧ Arv Z h t kb .long (672 : Int32) (wl.map Value.long) (.long 0)) := by
  refine metN (by first | exact plainFor_of_name (by first | (simp [plainName, overriddenIn]; done) | decide +kernel) | decide +kernel) Z0 (Ls := #[.val (.ref a), .val (.int (0 : Int32)), .val (.int (42950 : Int32)), .unset, .unset, .unset, .unset, .unset, .unset, .unset]) (fun m => by first | (simp [entryFrame, mkF, argsToLocals, Value.category]; done) | rfl) ?_
  intro p e s m below meth c T0 hx hby hml hret hlk hown hnm hZ N0
  have loop : ∀ (r i : Nat) (T1 : State) (h1 : Heap), i + r = 671 → 1 ≤ i → Now p l e ({ frames := 2, cells := 0, slots := 0, locals := 28 } : Room) s m #[(.ref a), (.int (0 : Int32)), (.int (42950 : Int32))] below meth c Z T1 h1 0 0 → Keep h0 h1 [a, t] → Exa Z h1 a "java/util/BitSet" → Fld Z h1 a "java/util/BitSet" "wordsInUse" "I" (.int 672) → Fld Z h1 a "java/util/BitSet" "words" "[J" (.ref t) → Arv Z h1 t kb .long (672 : Int32) (vsI i) (.long 0) → Ends p e below (PhiN Z s (fun v h => v = none ∧ Keep h0 h [a, t] ∧ Exa Z h a "java/util/BitSet" ∧ Fld Z h a "java/util/BitSet" "wordsInUse" "I" (.int 672) ∧ ∃ t kb, Fld Z h a "java/util/BitSet" "words" "[J" (.ref t) ∧ Arv Z h t kb .long (672 : Int32) (wl.map Value.long) (.long 0)) ({ frames := 2, cells := 0, slots := 0, locals := 28 } : Room).cells ({ frames := 2, cells := 0, slots := 0, locals := 28 } : Room).slots) T1 (mkF m 84 #[.val (.ref a), .val (.int (0 : Int32)), .val (.int (42950 : Int32)), .val (.int (0 : Int32)), .val (.int (671 : Int32)), .val (.long (-1 : Int64)), .second, .val (.long (63 : Int64)), .second, .val (.int (Int32.ofNat i))] []) := by
    have ne1 : a ≠ t := Exa.neArv Ea V (hw _ (List.mem_of_getElem? (i := 8) rfl))
    intro r
    induction r with
    | zero =>
      intro i T1 h1 hi1 hi2 N1 k2 e2 fw2 fd2 v2
      obtain rfl : i = 671 := by omega
      refine Ends.go (f' := (mkF m 86 #[.val (.ref a), .val (.int (0 : Int32)), .val (.int (42950 : Int32)), .val (.int (0 : Int32)), .val (.int (671 : Int32)), .val (.long (-1 : Int64)), .second, .val (.long (63 : Int64)), .second, .val (.int (Int32.ofNat 671))] [(.int (Int32.ofNat 671))])) (fun t k => XS.iload N1.here hx rfl (hb hby d6_84) rfl k) ?_
      refine Ends.go (f' := (mkF m 88 #[.val (.ref a), .val (.int (0 : Int32)), .val (.int (42950 : Int32)), .val (.int (0 : Int32)), .val (.int (671 : Int32)), .val (.long (-1 : Int64)), .second, .val (.long (63 : Int64)), .second, .val (.int (Int32.ofNat 671))] [(.int (671 : Int32)), (.int (Int32.ofNat 671))])) (fun t k => XS.iload N1.here hx rfl (hb hby d6_86) rfl k) ?_
      refine Ends.go (f' := (mkF m 107 #[.val (.ref a), .val (.int (0 : Int32)), .val (.int (42950 : Int32)), .val (.int (0 : Int32)), .val (.int (671 : Int32)), .val (.long (-1 : Int64)), .second, .val (.long (63 : Int64)), .second, .val (.int (Int32.ofNat 671))] [])) (fun t k => XS.icmpYes N1.here hx rfl (pc0 := 88) (pc' := 107) rfl (hb hby d6_88) rfl (XT.ii_ge_t (by decide)) (by decide) (by decide) k) ?_
      refine Ends.go (f' := (mkF m 108 #[.val (.ref a), .val (.int (0 : Int32)), .val (.int (42950 : Int32)), .val (.int (0 : Int32)), .val (.int (671 : Int32)), .val (.long (-1 : Int64)), .second, .val (.long (63 : Int64)), .second, .val (.int (Int32.ofNat 671))] [(.ref a)])) (fun t k => XS.aloadN N1.here hx rfl (hb hby d6_107) rfl rfl k) ?_
      refine gGet (host := "") N1 hx hZ hown (Or.inl (hw _ (List.mem_of_getElem? (i := 30) rfl))) Via.refl fd2 (hb hby d6_108) ?_
      intro T23 N24
      show Ends p e below _ T23 (mkF m 111 #[.val (.ref a), .val (.int (0 : Int32)), .val (.int (42950 : Int32)), .val (.int (0 : Int32)), .val (.int (671 : Int32)), .val (.long (-1 : Int64)), .second, .val (.long (63 : Int64)), .second, .val (.int (Int32.ofNat 671))] [(.ref t)])
      refine Ends.go (f' := (mkF m 113 #[.val (.ref a), .val (.int (0 : Int32)), .val (.int (42950 : Int32)), .val (.int (0 : Int32)), .val (.int (671 : Int32)), .val (.long (-1 : Int64)), .second, .val (.long (63 : Int64)), .second, .val (.int (Int32.ofNat 671))] [(.int (671 : Int32)), (.ref t)])) (fun t k => XS.iload N24.here hx rfl (hb hby d6_111) rfl k) ?_
      refine Ends.go (f' := (mkF m 114 #[.val (.ref a), .val (.int (0 : Int32)), .val (.int (42950 : Int32)), .val (.int (0 : Int32)), .val (.int (671 : Int32)), .val (.long (-1 : Int64)), .second, .val (.long (63 : Int64)), .second, .val (.int (Int32.ofNat 671))] [(.int (671 : Int32)), (.ref t), (.int (671 : Int32)), (.ref t)])) (fun t k => XT.dup2 N24.here hx rfl (hb hby d6_113) rfl rfl rfl k) ?_
      refine gLdJ N24 hx hZ v2 (by decide) (vsI_get (i := 671) (j := 671) (Nat.le_refl 671) (by decide)) (hb hby d6_114) ?_
      show Ends p e below _ T23 (mkF m 115 #[.val (.ref a), .val (.int (0 : Int32)), .val (.int (42950 : Int32)), .val (.int (0 : Int32)), .val (.int (671 : Int32)), .val (.long (-1 : Int64)), .second, .val (.long (63 : Int64)), .second, .val (.int (Int32.ofNat 671))] [(.long (0 : Int64)), (.int (671 : Int32)), (.ref t)])
      refine Ends.go (f' := (mkF m 117 #[.val (.ref a), .val (.int (0 : Int32)), .val (.int (42950 : Int32)), .val (.int (0 : Int32)), .val (.int (671 : Int32)), .val (.long (-1 : Int64)), .second, .val (.long (63 : Int64)), .second, .val (.int (Int32.ofNat 671))] [(.long (63 : Int64)), (.long (0 : Int64)), (.int (671 : Int32)), (.ref t)])) (fun t k => XT.lload N24.here hx rfl (hb hby d6_115) rfl k) ?_
      refine Ends.go (f' := (mkF m 118 #[.val (.ref a), .val (.int (0 : Int32)), .val (.int (42950 : Int32)), .val (.int (0 : Int32)), .val (.int (671 : Int32)), .val (.long (-1 : Int64)), .second, .val (.long (63 : Int64)), .second, .val (.int (Int32.ofNat 671))] [(.long ((0 : Int64) ||| (63 : Int64))), (.int (671 : Int32)), (.ref t)])) (fun t k => XT.lor N24.here hx rfl (hb hby d6_117) rfl k) ?_
      rw [show ((0 : Int64) ||| (63 : Int64)) = (63 : Int64) from by decide]
      refine gStJ 671 N24 hx hZ v2 gt (by decide) rfl (by rw [vsI_len (by decide)]; decide) (hb hby d6_118) ?_
      intro T25 h26 N27 W28 V29
      show Ends p e below _ T25 (mkF m 119 #[.val (.ref a), .val (.int (0 : Int32)), .val (.int (42950 : Int32)), .val (.int (0 : Int32)), .val (.int (671 : Int32)), .val (.long (-1 : Int64)), .second, .val (.long (63 : Int64)), .second, .val (.int (Int32.ofNat 671))] [])
      refine Ends.go (f' := (mkF m 120 #[.val (.ref a), .val (.int (0 : Int32)), .val (.int (42950 : Int32)), .val (.int (0 : Int32)), .val (.int (671 : Int32)), .val (.long (-1 : Int64)), .second, .val (.long (63 : Int64)), .second, .val (.int (Int32.ofNat 671))] [(.ref a)])) (fun t k => XS.aloadN N27.here hx rfl (hb hby d6_119) rfl rfl k) ?_
      refine gPrivate (W := 0) (y := (⟨"java/util/BitSet", "checkInvariants", "()V"⟩ : MethodName)) (C := "java/util/BitSet") (b := a) (argsL := []) (rest := []) N27 hx hZ hown (hw _ (List.mem_of_getElem? (i := 51) rfl)) (hw _ (List.mem_of_getElem? (i := 52) rfl)) (hw _ (List.mem_of_getElem? (i := 54) rfl)) (hw _ (List.mem_of_getElem? (i := 53) rfl)) (hw _ (List.mem_of_getElem? (i := 55) rfl)) (by decide) (e2.wr W28) ((rmCI l Z a0 hw a h26 N27.ext Sd).back (W := 0) hZ (hw _ (List.mem_of_getElem? (i := 55) rfl)) (hw _ (List.mem_of_getElem? (i := 9) rfl)) (nle rfl) (nle rfl)) (hb hby d6_120) rfl (by rw [hml]; rfl) (lenOf (by decide +kernel : parseMethodDescriptor "()V" = some ⟨[], none⟩) rfl) (nle rfl) (nle rfl) (nle rfl) (fun _ _ _ q => q.2) ?_
      rintro _ T30 _ _ N31 ⟨⟨rfl, e_h⟩, -⟩; rw [e_h] at N31; clear e_h
      show Ends p e below _ T30 (mkF m 123 #[.val (.ref a), .val (.int (0 : Int32)), .val (.int (42950 : Int32)), .val (.int (0 : Int32)), .val (.int (671 : Int32)), .val (.long (-1 : Int64)), .second, .val (.long (63 : Int64)), .second, .val (.int (Int32.ofNat 671))] [])
      rw [vsI_last] at V29
      exact retV N31 hx hlk hret (hb hby d6_123) ⟨rfl, kp1 k2 W28, e2.wr W28, fw2.other W28 (Or.inl ne1), t, kb, fd2.other W28 (Or.inl ne1), V29⟩ (nle rfl) (nle rfl)
    | succ r ih =>
      intro i T1 h1 hi1 hi2 N1 k2 e2 fw2 fd2 v2
      refine Ends.go (f' := (mkF m 86 #[.val (.ref a), .val (.int (0 : Int32)), .val (.int (42950 : Int32)), .val (.int (0 : Int32)), .val (.int (671 : Int32)), .val (.long (-1 : Int64)), .second, .val (.long (63 : Int64)), .second, .val (.int (Int32.ofNat i))] [(.int (Int32.ofNat i))])) (fun t k => XS.iload N1.here hx rfl (hb hby d6_84) rfl k) ?_
      refine Ends.go (f' := (mkF m 88 #[.val (.ref a), .val (.int (0 : Int32)), .val (.int (42950 : Int32)), .val (.int (0 : Int32)), .val (.int (671 : Int32)), .val (.long (-1 : Int64)), .second, .val (.long (63 : Int64)), .second, .val (.int (Int32.ofNat i))] [(.int (671 : Int32)), (.int (Int32.ofNat i))])) (fun t k => XS.iload N1.here hx rfl (hb hby d6_86) rfl k) ?_
      refine Ends.go (f' := (mkF m 91 #[.val (.ref a), .val (.int (0 : Int32)), .val (.int (42950 : Int32)), .val (.int (0 : Int32)), .val (.int (671 : Int32)), .val (.long (-1 : Int64)), .second, .val (.long (63 : Int64)), .second, .val (.int (Int32.ofNat i))] [])) (fun t k => XS.icmpNo N1.here hx rfl (hb hby d6_88) rfl (XT.ii_ge_f ((ofNat_lt (by omega) (by decide)).mpr (by omega : i < 671))) k) ?_
      refine Ends.go (f' := (mkF m 92 #[.val (.ref a), .val (.int (0 : Int32)), .val (.int (42950 : Int32)), .val (.int (0 : Int32)), .val (.int (671 : Int32)), .val (.long (-1 : Int64)), .second, .val (.long (63 : Int64)), .second, .val (.int (Int32.ofNat i))] [(.ref a)])) (fun t k => XS.aloadN N1.here hx rfl (hb hby d6_91) rfl rfl k) ?_
      refine gGet (host := "") N1 hx hZ hown (Or.inl (hw _ (List.mem_of_getElem? (i := 30) rfl))) Via.refl fd2 (hb hby d6_92) ?_
      intro T32 N33
      show Ends p e below _ T32 (mkF m 95 #[.val (.ref a), .val (.int (0 : Int32)), .val (.int (42950 : Int32)), .val (.int (0 : Int32)), .val (.int (671 : Int32)), .val (.long (-1 : Int64)), .second, .val (.long (63 : Int64)), .second, .val (.int (Int32.ofNat i))] [(.ref t)])
      refine Ends.go (f' := (mkF m 97 #[.val (.ref a), .val (.int (0 : Int32)), .val (.int (42950 : Int32)), .val (.int (0 : Int32)), .val (.int (671 : Int32)), .val (.long (-1 : Int64)), .second, .val (.long (63 : Int64)), .second, .val (.int (Int32.ofNat i))] [(.int (Int32.ofNat i)), (.ref t)])) (fun t k => XS.iload N33.here hx rfl (hb hby d6_95) rfl k) ?_
      refine gLdcJ N33 hx hZ hown (hw _ (List.mem_of_getElem? (i := 50) rfl)) (hb hby d6_97) ?_
      show Ends p e below _ T32 (mkF m 100 #[.val (.ref a), .val (.int (0 : Int32)), .val (.int (42950 : Int32)), .val (.int (0 : Int32)), .val (.int (671 : Int32)), .val (.long (-1 : Int64)), .second, .val (.long (63 : Int64)), .second, .val (.int (Int32.ofNat i))] [(.long (-1 : Int64)), (.int (Int32.ofNat i)), (.ref t)])
      refine gStJ i N33 hx hZ v2 gt (ofNat_in (by omega)) (ofNat_nat (by omega)) (by rw [vsI_len (by omega)]; omega) (hb hby d6_100) ?_
      intro T34 h35 N36 W37 V38
      show Ends p e below _ T34 (mkF m 101 #[.val (.ref a), .val (.int (0 : Int32)), .val (.int (42950 : Int32)), .val (.int (0 : Int32)), .val (.int (671 : Int32)), .val (.long (-1 : Int64)), .second, .val (.long (63 : Int64)), .second, .val (.int (Int32.ofNat i))] [])
      refine Ends.go (f' := (mkF m 104 #[.val (.ref a), .val (.int (0 : Int32)), .val (.int (42950 : Int32)), .val (.int (0 : Int32)), .val (.int (671 : Int32)), .val (.long (-1 : Int64)), .second, .val (.long (63 : Int64)), .second, .val (.int ((Int32.ofNat i) + (1 : Int32)))] [])) (fun t k => XS.iinc N36.here hx rfl (hb hby d6_101) rfl (l' := #[.val (.ref a), .val (.int (0 : Int32)), .val (.int (42950 : Int32)), .val (.int (0 : Int32)), .val (.int (671 : Int32)), .val (.long (-1 : Int64)), .second, .val (.long (63 : Int64)), .second, .val (.int ((Int32.ofNat i) + (1 : Int32)))]) rfl k) ?_
      rw [ofNat_succ]
      refine Ends.go (f' := (mkF m 84 #[.val (.ref a), .val (.int (0 : Int32)), .val (.int (42950 : Int32)), .val (.int (0 : Int32)), .val (.int (671 : Int32)), .val (.long (-1 : Int64)), .second, .val (.long (63 : Int64)), .second, .val (.int (Int32.ofNat (i + 1)))] [])) (fun t k => XS.goto N36.here hx rfl (pc0 := 104) (pc' := 84) rfl (hb hby d6_104) (by decide) (by decide) k) ?_
      exact ih (i + 1) T34 h35 (by omega) (by omega) N36 (kp1 k2 W37) (e2.wr W37) (fw2.other W37 (Or.inl ne1)) (fd2.other W37 (Or.inl ne1)) (by rw [vsI_set (by omega)] at V38; exact V38)
  refine Ends.go (f' := (mkF m 1 #[.val (.ref a), .val (.int (0 : Int32)), .val (.int (42950 : Int32)), .unset, .unset, .unset, .unset, .unset, .unset, .unset] [(.int (0 : Int32))])) (fun t k => XS.iloadN N0.here hx rfl (hb hby d6_0) rfl k) ?_
  refine Ends.go (f' := (mkF m 2 #[.val (.ref a), .val (.int (0 : Int32)), .val (.int (42950 : Int32)), .unset, .unset, .unset, .unset, .unset, .unset, .unset] [(.int (42950 : Int32)), (.int (0 : Int32))])) (fun t k => XS.iloadN N0.here hx rfl (hb hby d6_1) rfl k) ?_
  refine gStatic (W := 0) (argsL := [(.int (0 : Int32)), (.int (42950 : Int32))]) (rest := []) N0 hx hZ hown (hw _ (List.mem_of_getElem? (i := 37) rfl)) (hw _ (List.mem_of_getElem? (i := 38) rfl)) (hw _ (List.mem_of_getElem? (i := 9) rfl)) (hw _ (List.mem_of_getElem? (i := 39) rfl)) (by decide) ((rmCR l Z a0 hw h0 N0.ext).back (W := 0) hZ (hw _ (List.mem_of_getElem? (i := 39) rfl)) (hw _ (List.mem_of_getElem? (i := 9) rfl)) (nle rfl) (nle rfl)) (hb hby d6_2) rfl (by rw [hml]; rfl) (lenOf (by decide +kernel : parseMethodDescriptor "(II)V" = some ⟨[.int, .int], none⟩) rfl) (nle rfl) (nle rfl) (nle rfl) (fun _ _ _ q => q.2) ?_
  rintro _ T1 _ _ N2 ⟨⟨rfl, e_h⟩, -⟩; rw [e_h] at N2; clear e_h
  show Ends p e below _ T1 (mkF m 5 #[.val (.ref a), .val (.int (0 : Int32)), .val (.int (42950 : Int32)), .unset, .unset, .unset, .unset, .unset, .unset, .unset] [])
  refine Ends.go (f' := (mkF m 6 #[.val (.ref a), .val (.int (0 : Int32)), .val (.int (42950 : Int32)), .unset, .unset, .unset, .unset, .unset, .unset, .unset] [(.int (0 : Int32))])) (fun t k => XS.iloadN N2.here hx rfl (hb hby d6_5) rfl k) ?_
  refine Ends.go (f' := (mkF m 7 #[.val (.ref a), .val (.int (0 : Int32)), .val (.int (42950 : Int32)), .unset, .unset, .unset, .unset, .unset, .unset, .unset] [(.int (42950 : Int32)), (.int (0 : Int32))])) (fun t k => XS.iloadN N2.here hx rfl (hb hby d6_6) rfl k) ?_
  refine Ends.go (f' := (mkF m 11 #[.val (.ref a), .val (.int (0 : Int32)), .val (.int (42950 : Int32)), .unset, .unset, .unset, .unset, .unset, .unset, .unset] [])) (fun t k => XS.icmpYes N2.here hx rfl (pc0 := 7) (pc' := 11) rfl (hb hby d6_7) rfl (XT.ii_ne_t (by decide)) (by decide) (by decide) k) ?_
  refine Ends.go (f' := (mkF m 12 #[.val (.ref a), .val (.int (0 : Int32)), .val (.int (42950 : Int32)), .unset, .unset, .unset, .unset, .unset, .unset, .unset] [(.int (0 : Int32))])) (fun t k => XS.iloadN N2.here hx rfl (hb hby d6_11) rfl k) ?_
  refine gStatic (W := 0) (argsL := [(.int (0 : Int32))]) (rest := []) N2 hx hZ hown (hw _ (List.mem_of_getElem? (i := 26) rfl)) (hw _ (List.mem_of_getElem? (i := 27) rfl)) (hw _ (List.mem_of_getElem? (i := 9) rfl)) (hw _ (List.mem_of_getElem? (i := 28) rfl)) (by decide) ((rm5 l Z a0 hw (0 : Int32) h0 N2.ext).back (W := 0) hZ (hw _ (List.mem_of_getElem? (i := 28) rfl)) (hw _ (List.mem_of_getElem? (i := 9) rfl)) (nle rfl) (nle rfl)) (hb hby d6_12) rfl (by rw [hml]; rfl) (lenOf (by decide +kernel : parseMethodDescriptor "(I)I" = some ⟨[.int], (some .int)⟩) rfl) (nle rfl) (nle rfl) (nle rfl) (fun _ _ _ q => q.2) ?_
  rintro _ T3 _ _ N4 ⟨⟨rfl, e_h⟩, -⟩; rw [e_h] at N4; clear e_h
  show Ends p e below _ T3 (mkF m 15 #[.val (.ref a), .val (.int (0 : Int32)), .val (.int (42950 : Int32)), .unset, .unset, .unset, .unset, .unset, .unset, .unset] [(.int (f_wi (0 : Int32)))])
  rw [show (f_wi (0 : Int32)) = (0 : Int32) from by decide]
  refine Ends.go (f' := (mkF m 16 #[.val (.ref a), .val (.int (0 : Int32)), .val (.int (42950 : Int32)), .val (.int (0 : Int32)), .unset, .unset, .unset, .unset, .unset, .unset] [])) (fun t k => XS.istoreN N4.here hx rfl (hb hby d6_15) rfl (l' := #[.val (.ref a), .val (.int (0 : Int32)), .val (.int (42950 : Int32)), .val (.int (0 : Int32)), .unset, .unset, .unset, .unset, .unset, .unset]) rfl k) ?_
  refine Ends.go (f' := (mkF m 17 #[.val (.ref a), .val (.int (0 : Int32)), .val (.int (42950 : Int32)), .val (.int (0 : Int32)), .unset, .unset, .unset, .unset, .unset, .unset] [(.int (42950 : Int32))])) (fun t k => XS.iloadN N4.here hx rfl (hb hby d6_16) rfl k) ?_
  refine Ends.go (f' := (mkF m 18 #[.val (.ref a), .val (.int (0 : Int32)), .val (.int (42950 : Int32)), .val (.int (0 : Int32)), .unset, .unset, .unset, .unset, .unset, .unset] [(.int (1 : Int32)), (.int (42950 : Int32))])) (fun t k => XS.iconst N4.here hx rfl (hb hby d6_17) k) ?_
  refine Ends.go (f' := (mkF m 19 #[.val (.ref a), .val (.int (0 : Int32)), .val (.int (42950 : Int32)), .val (.int (0 : Int32)), .unset, .unset, .unset, .unset, .unset, .unset] [(.int ((42950 : Int32) - (1 : Int32)))])) (fun t k => XS.isub N4.here hx rfl (hb hby d6_18) rfl k) ?_
  refine gStatic (W := 0) (argsL := [(.int ((42950 : Int32) - (1 : Int32)))]) (rest := []) N4 hx hZ hown (hw _ (List.mem_of_getElem? (i := 26) rfl)) (hw _ (List.mem_of_getElem? (i := 27) rfl)) (hw _ (List.mem_of_getElem? (i := 9) rfl)) (hw _ (List.mem_of_getElem? (i := 28) rfl)) (by decide) ((rm5 l Z a0 hw ((42950 : Int32) - (1 : Int32)) h0 N4.ext).back (W := 0) hZ (hw _ (List.mem_of_getElem? (i := 28) rfl)) (hw _ (List.mem_of_getElem? (i := 9) rfl)) (nle rfl) (nle rfl)) (hb hby d6_19) rfl (by rw [hml]; rfl) (lenOf (by decide +kernel : parseMethodDescriptor "(I)I" = some ⟨[.int], (some .int)⟩) rfl) (nle rfl) (nle rfl) (nle rfl) (fun _ _ _ q => q.2) ?_
  rintro _ T8 _ _ N9 ⟨⟨rfl, e_h⟩, -⟩; rw [e_h] at N9; clear e_h
  show Ends p e below _ T8 (mkF m 22 #[.val (.ref a), .val (.int (0 : Int32)), .val (.int (42950 : Int32)), .val (.int (0 : Int32)), .unset, .unset, .unset, .unset, .unset, .unset] [(.int (f_wi ((42950 : Int32) - (1 : Int32))))])
  rw [show (f_wi ((42950 : Int32) - (1 : Int32))) = (671 : Int32) from by decide]
  refine Ends.go (f' := (mkF m 24 #[.val (.ref a), .val (.int (0 : Int32)), .val (.int (42950 : Int32)), .val (.int (0 : Int32)), .val (.int (671 : Int32)), .unset, .unset, .unset, .unset, .unset] [])) (fun t k => XS.istore N9.here hx rfl (hb hby d6_22) rfl (l' := #[.val (.ref a), .val (.int (0 : Int32)), .val (.int (42950 : Int32)), .val (.int (0 : Int32)), .val (.int (671 : Int32)), .unset, .unset, .unset, .unset, .unset]) rfl k) ?_
  refine Ends.go (f' := (mkF m 25 #[.val (.ref a), .val (.int (0 : Int32)), .val (.int (42950 : Int32)), .val (.int (0 : Int32)), .val (.int (671 : Int32)), .unset, .unset, .unset, .unset, .unset] [(.ref a)])) (fun t k => XS.aloadN N9.here hx rfl (hb hby d6_24) rfl rfl k) ?_
  refine Ends.go (f' := (mkF m 27 #[.val (.ref a), .val (.int (0 : Int32)), .val (.int (42950 : Int32)), .val (.int (0 : Int32)), .val (.int (671 : Int32)), .unset, .unset, .unset, .unset, .unset] [(.int (671 : Int32)), (.ref a)])) (fun t k => XS.iload N9.here hx rfl (hb hby d6_25) rfl k) ?_
  refine gPrivate (W := 0) (y := (⟨"java/util/BitSet", "expandTo", "(I)V"⟩ : MethodName)) (C := "java/util/BitSet") (b := a) (argsL := [(.int (671 : Int32))]) (rest := []) N9 hx hZ hown (hw _ (List.mem_of_getElem? (i := 40) rfl)) (hw _ (List.mem_of_getElem? (i := 41) rfl)) (hw _ (List.mem_of_getElem? (i := 43) rfl)) (hw _ (List.mem_of_getElem? (i := 42) rfl)) (hw _ (List.mem_of_getElem? (i := 44) rfl)) (by decide) Ea ((rmET l Z a0 hw a t kb [] h0 N9.ext Fd V Ea Fw gz).back (W := 0) hZ (hw _ (List.mem_of_getElem? (i := 44) rfl)) (hw _ (List.mem_of_getElem? (i := 9) rfl)) (nle rfl) (nle rfl)) (hb hby d6_27) rfl (by rw [hml]; rfl) (lenOf (by decide +kernel : parseMethodDescriptor "(I)V" = some ⟨[.int], none⟩) rfl) (nle rfl) (nle rfl) (nle rfl) (fun _ _ _ q => q.2) ?_
  rintro _ T13 h14 _ N15 ⟨⟨rfl, k1, e1, fw1, fd1, v1⟩, -⟩
  show Ends p e below _ T13 (mkF m 30 #[.val (.ref a), .val (.int (0 : Int32)), .val (.int (42950 : Int32)), .val (.int (0 : Int32)), .val (.int (671 : Int32)), .unset, .unset, .unset, .unset, .unset] [])
  refine gLdcJ N15 hx hZ hown (hw _ (List.mem_of_getElem? (i := 50) rfl)) (hb hby d6_30) ?_
  show Ends p e below _ T13 (mkF m 33 #[.val (.ref a), .val (.int (0 : Int32)), .val (.int (42950 : Int32)), .val (.int (0 : Int32)), .val (.int (671 : Int32)), .unset, .unset, .unset, .unset, .unset] [(.long (-1 : Int64))])
  refine Ends.go (f' := (mkF m 34 #[.val (.ref a), .val (.int (0 : Int32)), .val (.int (42950 : Int32)), .val (.int (0 : Int32)), .val (.int (671 : Int32)), .unset, .unset, .unset, .unset, .unset] [(.int (0 : Int32)), (.long (-1 : Int64))])) (fun t k => XS.iloadN N15.here hx rfl (hb hby d6_33) rfl k) ?_
  refine Ends.go (f' := (mkF m 35 #[.val (.ref a), .val (.int (0 : Int32)), .val (.int (42950 : Int32)), .val (.int (0 : Int32)), .val (.int (671 : Int32)), .unset, .unset, .unset, .unset, .unset] [(.long ((-1 : Int64) <<< ((0 : Int32).toInt64 &&& 63)))])) (fun t k => XT.lshl N15.here hx rfl (hb hby d6_34) rfl k) ?_
  rw [show ((-1 : Int64) <<< ((0 : Int32).toInt64 &&& 63)) = (-1 : Int64) from by decide]
  refine Ends.go (f' := (mkF m 37 #[.val (.ref a), .val (.int (0 : Int32)), .val (.int (42950 : Int32)), .val (.int (0 : Int32)), .val (.int (671 : Int32)), .val (.long (-1 : Int64)), .second, .unset, .unset, .unset] [])) (fun t k => XT.lstore N15.here hx rfl (hb hby d6_35) rfl (l' := #[.val (.ref a), .val (.int (0 : Int32)), .val (.int (42950 : Int32)), .val (.int (0 : Int32)), .val (.int (671 : Int32)), .val (.long (-1 : Int64)), .second, .unset, .unset, .unset]) rfl k) ?_
  refine gLdcJ N15 hx hZ hown (hw _ (List.mem_of_getElem? (i := 50) rfl)) (hb hby d6_37) ?_
  show Ends p e below _ T13 (mkF m 40 #[.val (.ref a), .val (.int (0 : Int32)), .val (.int (42950 : Int32)), .val (.int (0 : Int32)), .val (.int (671 : Int32)), .val (.long (-1 : Int64)), .second, .unset, .unset, .unset] [(.long (-1 : Int64))])
  refine Ends.go (f' := (mkF m 41 #[.val (.ref a), .val (.int (0 : Int32)), .val (.int (42950 : Int32)), .val (.int (0 : Int32)), .val (.int (671 : Int32)), .val (.long (-1 : Int64)), .second, .unset, .unset, .unset] [(.int (42950 : Int32)), (.long (-1 : Int64))])) (fun t k => XS.iloadN N15.here hx rfl (hb hby d6_40) rfl k) ?_
  refine Ends.go (f' := (mkF m 42 #[.val (.ref a), .val (.int (0 : Int32)), .val (.int (42950 : Int32)), .val (.int (0 : Int32)), .val (.int (671 : Int32)), .val (.long (-1 : Int64)), .second, .unset, .unset, .unset] [(.int (-(42950 : Int32))), (.long (-1 : Int64))])) (fun t k => XS.ineg N15.here hx rfl (hb hby d6_41) rfl k) ?_
  refine Ends.go (f' := (mkF m 43 #[.val (.ref a), .val (.int (0 : Int32)), .val (.int (42950 : Int32)), .val (.int (0 : Int32)), .val (.int (671 : Int32)), .val (.long (-1 : Int64)), .second, .unset, .unset, .unset] [(.long (XT.ushrL (-1 : Int64) (-(42950 : Int32))))])) (fun t k => XT.lushr N15.here hx rfl (hb hby d6_42) rfl k) ?_
  rw [show (XT.ushrL (-1 : Int64) (-(42950 : Int32))) = (63 : Int64) from by decide]
  refine Ends.go (f' := (mkF m 45 #[.val (.ref a), .val (.int (0 : Int32)), .val (.int (42950 : Int32)), .val (.int (0 : Int32)), .val (.int (671 : Int32)), .val (.long (-1 : Int64)), .second, .val (.long (63 : Int64)), .second, .unset] [])) (fun t k => XT.lstore N15.here hx rfl (hb hby d6_43) rfl (l' := #[.val (.ref a), .val (.int (0 : Int32)), .val (.int (42950 : Int32)), .val (.int (0 : Int32)), .val (.int (671 : Int32)), .val (.long (-1 : Int64)), .second, .val (.long (63 : Int64)), .second, .unset]) rfl k) ?_
  refine Ends.go (f' := (mkF m 46 #[.val (.ref a), .val (.int (0 : Int32)), .val (.int (42950 : Int32)), .val (.int (0 : Int32)), .val (.int (671 : Int32)), .val (.long (-1 : Int64)), .second, .val (.long (63 : Int64)), .second, .unset] [(.int (0 : Int32))])) (fun t k => XS.iloadN N15.here hx rfl (hb hby d6_45) rfl k) ?_
  refine Ends.go (f' := (mkF m 48 #[.val (.ref a), .val (.int (0 : Int32)), .val (.int (42950 : Int32)), .val (.int (0 : Int32)), .val (.int (671 : Int32)), .val (.long (-1 : Int64)), .second, .val (.long (63 : Int64)), .second, .unset] [(.int (671 : Int32)), (.int (0 : Int32))])) (fun t k => XS.iload N15.here hx rfl (hb hby d6_46) rfl k) ?_
  refine Ends.go (f' := (mkF m 68 #[.val (.ref a), .val (.int (0 : Int32)), .val (.int (42950 : Int32)), .val (.int (0 : Int32)), .val (.int (671 : Int32)), .val (.long (-1 : Int64)), .second, .val (.long (63 : Int64)), .second, .unset] [])) (fun t k => XS.icmpYes N15.here hx rfl (pc0 := 48) (pc' := 68) rfl (hb hby d6_48) rfl (XT.ii_ne_t (by decide)) (by decide) (by decide) k) ?_
  refine Ends.go (f' := (mkF m 69 #[.val (.ref a), .val (.int (0 : Int32)), .val (.int (42950 : Int32)), .val (.int (0 : Int32)), .val (.int (671 : Int32)), .val (.long (-1 : Int64)), .second, .val (.long (63 : Int64)), .second, .unset] [(.ref a)])) (fun t k => XS.aloadN N15.here hx rfl (hb hby d6_68) rfl rfl k) ?_
  have v2 : Arv Z h14 t kb .long (672 : Int32) (vsI 0) (.long 0) := v1.pad (pad_rep [] (.long 0) 672)
  have ne1 : a ≠ t := Exa.neArv e1 v1 (hw _ (List.mem_of_getElem? (i := 8) rfl))
  refine gGet (host := "") N15 hx hZ hown (Or.inl (hw _ (List.mem_of_getElem? (i := 30) rfl))) Via.refl fd1 (hb hby d6_69) ?_
  intro T16 N17
  show Ends p e below _ T16 (mkF m 72 #[.val (.ref a), .val (.int (0 : Int32)), .val (.int (42950 : Int32)), .val (.int (0 : Int32)), .val (.int (671 : Int32)), .val (.long (-1 : Int64)), .second, .val (.long (63 : Int64)), .second, .unset] [(.ref t)])
  refine Ends.go (f' := (mkF m 73 #[.val (.ref a), .val (.int (0 : Int32)), .val (.int (42950 : Int32)), .val (.int (0 : Int32)), .val (.int (671 : Int32)), .val (.long (-1 : Int64)), .second, .val (.long (63 : Int64)), .second, .unset] [(.int (0 : Int32)), (.ref t)])) (fun t k => XS.iloadN N17.here hx rfl (hb hby d6_72) rfl k) ?_
  refine Ends.go (f' := (mkF m 74 #[.val (.ref a), .val (.int (0 : Int32)), .val (.int (42950 : Int32)), .val (.int (0 : Int32)), .val (.int (671 : Int32)), .val (.long (-1 : Int64)), .second, .val (.long (63 : Int64)), .second, .unset] [(.int (0 : Int32)), (.ref t), (.int (0 : Int32)), (.ref t)])) (fun t k => XT.dup2 N17.here hx rfl (hb hby d6_73) rfl rfl rfl k) ?_
  refine gLdJ N17 hx hZ v2 (by decide) (vsI_get (Nat.le_refl 0) (by decide)) (hb hby d6_74) ?_
  show Ends p e below _ T16 (mkF m 75 #[.val (.ref a), .val (.int (0 : Int32)), .val (.int (42950 : Int32)), .val (.int (0 : Int32)), .val (.int (671 : Int32)), .val (.long (-1 : Int64)), .second, .val (.long (63 : Int64)), .second, .unset] [(.long (0 : Int64)), (.int (0 : Int32)), (.ref t)])
  refine Ends.go (f' := (mkF m 77 #[.val (.ref a), .val (.int (0 : Int32)), .val (.int (42950 : Int32)), .val (.int (0 : Int32)), .val (.int (671 : Int32)), .val (.long (-1 : Int64)), .second, .val (.long (63 : Int64)), .second, .unset] [(.long (-1 : Int64)), (.long (0 : Int64)), (.int (0 : Int32)), (.ref t)])) (fun t k => XT.lload N17.here hx rfl (hb hby d6_75) rfl k) ?_
  refine Ends.go (f' := (mkF m 78 #[.val (.ref a), .val (.int (0 : Int32)), .val (.int (42950 : Int32)), .val (.int (0 : Int32)), .val (.int (671 : Int32)), .val (.long (-1 : Int64)), .second, .val (.long (63 : Int64)), .second, .unset] [(.long ((0 : Int64) ||| (-1 : Int64))), (.int (0 : Int32)), (.ref t)])) (fun t k => XT.lor N17.here hx rfl (hb hby d6_77) rfl k) ?_
  rw [show ((0 : Int64) ||| (-1 : Int64)) = (-1 : Int64) from by decide]
  refine gStJ 0 N17 hx hZ v2 gt (by decide) rfl (by rw [vsI_len (by decide)]; decide) (hb hby d6_78) ?_
  intro T18 h19 N20 W21 V22
  show Ends p e below _ T18 (mkF m 79 #[.val (.ref a), .val (.int (0 : Int32)), .val (.int (42950 : Int32)), .val (.int (0 : Int32)), .val (.int (671 : Int32)), .val (.long (-1 : Int64)), .second, .val (.long (63 : Int64)), .second, .unset] [])
  refine Ends.go (f' := (mkF m 80 #[.val (.ref a), .val (.int (0 : Int32)), .val (.int (42950 : Int32)), .val (.int (0 : Int32)), .val (.int (671 : Int32)), .val (.long (-1 : Int64)), .second, .val (.long (63 : Int64)), .second, .unset] [(.int (0 : Int32))])) (fun t k => XS.iloadN N20.here hx rfl (hb hby d6_79) rfl k) ?_
  refine Ends.go (f' := (mkF m 81 #[.val (.ref a), .val (.int (0 : Int32)), .val (.int (42950 : Int32)), .val (.int (0 : Int32)), .val (.int (671 : Int32)), .val (.long (-1 : Int64)), .second, .val (.long (63 : Int64)), .second, .unset] [(.int (1 : Int32)), (.int (0 : Int32))])) (fun t k => XS.iconst N20.here hx rfl (hb hby d6_80) k) ?_
  refine Ends.go (f' := (mkF m 82 #[.val (.ref a), .val (.int (0 : Int32)), .val (.int (42950 : Int32)), .val (.int (0 : Int32)), .val (.int (671 : Int32)), .val (.long (-1 : Int64)), .second, .val (.long (63 : Int64)), .second, .unset] [(.int ((0 : Int32) + (1 : Int32)))])) (fun t k => XS.iadd N20.here hx rfl (hb hby d6_81) rfl k) ?_
  refine Ends.go (f' := (mkF m 84 #[.val (.ref a), .val (.int (0 : Int32)), .val (.int (42950 : Int32)), .val (.int (0 : Int32)), .val (.int (671 : Int32)), .val (.long (-1 : Int64)), .second, .val (.long (63 : Int64)), .second, .val (.int ((0 : Int32) + (1 : Int32)))] [])) (fun t k => XS.istore N20.here hx rfl (hb hby d6_82) rfl (l' := #[.val (.ref a), .val (.int (0 : Int32)), .val (.int (42950 : Int32)), .val (.int (0 : Int32)), .val (.int (671 : Int32)), .val (.long (-1 : Int64)), .second, .val (.long (63 : Int64)), .second, .val (.int ((0 : Int32) + (1 : Int32)))]) rfl k) ?_
  rw [show ((0 : Int32) + (1 : Int32)) = (Int32.ofNat 1) from by decide]
  exact loop 670 1 T18 h19 rfl (by decide) N20 (kp2 k1 W21) (e1.wr W21) (fw1.other W21 (Or.inl ne1)) (fd1.other W21 (Or.inl ne1)) (by rw [vsI_set (i := 0) (by decide)] at V22; exact V22)
/-- the set of 0 .. 42949 -/
def BS (Z : State) (h : Heap) (a : Addr) : Prop := Exa Z h a "java/util/BitSet" ∧ Fld Z h a "java/util/BitSet" "wordsInUse" "I" (.int 672) ∧ ∃ t kb, Fld Z h a "java/util/BitSet" "words" "[J" (.ref t) ∧ Arv Z h t kb .long (672 : Int32) (wl.map Value.long) (.long 0)
theorem d1_0 : decode prog_1_method_4_code 0 = .ok (.new 60, 3) := by decide +kernel
theorem d1_3 : decode prog_1_method_4_code 3 = .ok (.dup, 1) := by decide +kernel
theorem d1_4 : decode prog_1_method_4_code 4 = .ok (.ldc 20, 2) := by decide +kernel
theorem d1_6 : decode prog_1_method_4_code 6 = .ok (.invokespecial 88, 3) := by decide +kernel
theorem d1_9 : decode prog_1_method_4_code 9 = .ok (.astore_n 0, 1) := by decide +kernel
theorem d1_10 : decode prog_1_method_4_code 10 = .ok (.aload_n 0, 1) := by decide +kernel
theorem d1_11 : decode prog_1_method_4_code 11 = .ok (.iconst 0, 1) := by decide +kernel
theorem d1_12 : decode prog_1_method_4_code 12 = .ok (.ldc 20, 2) := by decide +kernel
theorem d1_14 : decode prog_1_method_4_code 14 = .ok (.invokevirtual 89, 3) := by decide +kernel
theorem d1_17 : decode prog_1_method_4_code 17 = .ok (.aload_n 0, 1) := by decide +kernel
theorem d1_18 : decode prog_1_method_4_code 18 = .ok (.areturn, 1) := by decide +kernel
set_option maxRecDepth 65536 in
set_option maxHeartbeats 40000000 in
theorem rmES (l : Launch) (Z : State) (a0 : Array Value) (hw : ∀ d ∈ tables_1, d.before a0 Z = true) (h0 : Heap) (Z0 : Ext Z.heap h0) (Sd : Sta Z Z.heap "java/util/BitSet" "$assertionsDisabled" "Z" (.int 1)) :
    MetN l Z (⟨"com/example/askel/askel/Allocator", "everySection", "()Ljava/util/BitSet;"⟩ : MethodName) prog_1_method_4_code 1 (some (.object "java/util/BitSet")) [] ({ frames := 3, cells := 2, slots := 675, locals := 49 } : Room) #[] h0 (fun v h => ∃ a, v = some (.ref a) ∧ Ext h0 h ∧ BS Z h a) := by
  refine metN (by first | exact plainFor_of_name (by first | (simp [plainName, overriddenIn]; done) | decide +kernel) | decide +kernel) Z0 (Ls := #[.unset]) (fun m => by first | (simp [entryFrame, mkF, argsToLocals, Value.category]; done) | rfl) ?_
  intro p e s m below meth c T0 hx hby hml hret hlk hown hnm hZ N0
  refine gNew (a0 := a0) N0 hx hZ hown (hw _ (List.mem_of_getElem? (i := 7) rfl)) (hw _ (List.mem_of_getElem? (i := 8) rfl)) (hw _ (List.mem_of_getElem? (i := 9) rfl)) (hb hby d1_0) (nle rfl) (nle rfl) ?_
  intro T1 h2 a3 ea4 N5 E6 A7 D8
  have g9 : h0.size ≤ a3 := by rw [ea4]; exact (ext_refl h0).1
  have g10 : Z.heap.size ≤ a3 := by rw [ea4]; exact N0.le
  have X11 : Ext h0 h2 := ext_trans (ext_refl h0) E6
  show Ends p e below _ T1 (mkF m 3 #[.unset] [(.ref a3)])
  refine Ends.go (f' := (mkF m 4 #[.unset] [(.ref a3), (.ref a3)])) (fun t k => XS.dup N5.here hx rfl (hb hby d1_3) rfl rfl k) ?_
  refine gLdcI N5 hx hZ hown (hw _ (List.mem_of_getElem? (i := 10) rfl)) (hb hby d1_4) ?_
  show Ends p e below _ T1 (mkF m 6 #[.unset] [(.int (42950 : Int32)), (.ref a3), (.ref a3)])
  refine gSpecial (W := 1) (y := (⟨"java/util/BitSet", "<init>", "(I)V"⟩ : MethodName)) (a := a3) (argsL := [(.int (42950 : Int32))]) (rest := [(.ref a3)]) rfl N5 hx hZ hown (hw _ (List.mem_of_getElem? (i := 11) rfl)) (hw _ (List.mem_of_getElem? (i := 12) rfl)) (hw _ (List.mem_of_getElem? (i := 13) rfl)) (by decide) ((rmInit l Z a0 hw a3 h2 N5.ext A7 (D8 (Or.inl (hw _ (List.mem_of_getElem? (i := 18) rfl))) (ty := .int) (by decide)) (D8 (Or.inl (hw _ (List.mem_of_getElem? (i := 20) rfl))) (ty := .boolean) (by decide)) (D8 (Or.inl (hw _ (List.mem_of_getElem? (i := 31) rfl))) (ty := .array .long) (by decide)) g10).back (W := 1) hZ (hw _ (List.mem_of_getElem? (i := 13) rfl)) (hw _ (List.mem_of_getElem? (i := 9) rfl)) (nle rfl) (nle rfl)) (hb hby d1_6) rfl (by rw [hml]; rfl) (lenOf (by decide +kernel : parseMethodDescriptor "(I)V" = some ⟨[.int], none⟩) rfl) (nle rfl) (nle rfl) (nle rfl) (fun _ _ _ q => q.2) ?_
  rintro _ T12 h13 _ N14 ⟨⟨rfl, K15, e2, fw2, t, kb, gt0, fd2, v2⟩, -⟩
  have x1 : Ext h0 h13 := ext_keep X11 K15 g9
  have g1 : h0.size ≤ t := Nat.le_trans X11.1 gt0
  show Ends p e below _ T12 (mkF m 9 #[.unset] [(.ref a3)])
  refine Ends.go (f' := (mkF m 10 #[.val (.ref a3)] [])) (fun t k => XS.astoreN N14.here hx rfl (hb hby d1_9) rfl rfl (l' := #[.val (.ref a3)]) rfl k) ?_
  refine Ends.go (f' := (mkF m 11 #[.val (.ref a3)] [(.ref a3)])) (fun t k => XS.aloadN N14.here hx rfl (hb hby d1_10) rfl rfl k) ?_
  refine Ends.go (f' := (mkF m 12 #[.val (.ref a3)] [(.int (0 : Int32)), (.ref a3)])) (fun t k => XS.iconst N14.here hx rfl (hb hby d1_11) k) ?_
  refine gLdcI N14 hx hZ hown (hw _ (List.mem_of_getElem? (i := 10) rfl)) (hb hby d1_12) ?_
  show Ends p e below _ T12 (mkF m 14 #[.val (.ref a3)] [(.int (42950 : Int32)), (.int (0 : Int32)), (.ref a3)])
  refine gVirtual (W := 0) (y := (⟨"java/util/BitSet", "set", "(II)V"⟩ : MethodName)) (z := (⟨"java/util/BitSet", "set", "(II)V"⟩ : MethodName)) (C := "java/util/BitSet") (b := a3) (argsL := [(.int (0 : Int32)), (.int (42950 : Int32))]) (rest := []) N14 hx hZ hown (hw _ (List.mem_of_getElem? (i := 32) rfl)) (hw _ (List.mem_of_getElem? (i := 33) rfl)) (hw _ (List.mem_of_getElem? (i := 35) rfl)) (hw _ (List.mem_of_getElem? (i := 34) rfl)) (by decide) (notFace_of_selects (args := #[]) (mvT hZ (hw _ (List.mem_of_getElem? (i := 35) rfl)))) e2 ((rmSet l Z a0 hw a3 t kb h13 N14.ext fd2 v2 e2 fw2 g10 (Nat.le_trans Z0.1 g1) Sd).back (W := 0) hZ (hw _ (List.mem_of_getElem? (i := 36) rfl)) (hw _ (List.mem_of_getElem? (i := 9) rfl)) (nle rfl) (nle rfl)) (hb hby d1_14) rfl (by rw [hml]; rfl) (lenOf (by decide +kernel : parseMethodDescriptor "(II)V" = some ⟨[.int, .int], none⟩) rfl) (nle rfl) (nle rfl) (nle rfl) (fun _ _ _ q => q.2) ?_
  rintro _ T16 h17 _ N18 ⟨⟨rfl, K19, e3, fw3, r3⟩, -⟩
  show Ends p e below _ T16 (mkF m 17 #[.val (.ref a3)] [])
  refine Ends.go (f' := (mkF m 18 #[.val (.ref a3)] [(.ref a3)])) (fun t k => XS.aloadN N18.here hx rfl (hb hby d1_17) rfl rfl k) ?_
  exact retA N18 hx hlk hret rfl rfl (hb hby d1_18) ⟨_, rfl, ext_keep2 x1 K19 g9 g1, e3, fw3, r3⟩ (nle rfl) (nle rfl)
theorem wl_get {j : Nat} (h : j < 671) : wl.getD j 0 = -1 := getD_rep (-1) 0 [63] 671 j h
theorem wl_last : wl.getD 671 0 = 63 := getD_lst (-1) 63 0 671
theorem getD_long (l : List Int64) (j : Nat) : (l.map Value.long).getD j (.long 0) = .long (l.getD j 0) := by
  simp only [List.getD_eq_getElem?_getD, List.getElem?_map]
  cases l[j]? <;> rfl
theorem sh_of {i : Int32} (h : 0 ≤ i.toInt) : i.toInt64 &&& 63 = Int64.ofNat (i.toInt.toNat % 64) := by
  apply Int64.toInt_inj.mp
  have q := c_maskL i.toInt64 63 6 (by decide) (by decide)
  rw [q, c_i2l]
  have e : (Int64.ofNat (i.toInt.toNat % 64)).toInt = ((i.toInt.toNat % 64 : Nat) : Int) := Int64.toInt_ofNat_of_lt (by omega)
  rw [e]; omega
theorem bit63 : ∀ k : Fin 64, ((63 : Int64) &&& ((1 : Int64) <<< Int64.ofNat k.val)) = 0 ↔ 6 ≤ k.val := by decide +kernel
theorem bitAll : ∀ k : Fin 64, ¬ ((-1 : Int64) &&& ((1 : Int64) <<< Int64.ofNat k.val)) = 0 := by decide +kernel
theorem wi_val {i : Int32} : (f_wi i).toInt = i.toInt / 64 := by
  have q := c_ishr i 6 6 (by decide)
  exact q
theorem wi_in {i : Int32} (h : 0 ≤ i.toInt) (h2 : f_wi i < (672 : Int32)) : ¬ f_wi i < 0 ∧ f_wi i < (672 : Int32) := by
  have e0 : (0 : Int32).toInt = 0 := rfl
  refine ⟨?_, h2⟩
  rw [Int32.lt_iff_toInt_lt, wi_val]; omega
/-- the bit i of the set, where its word is there -/
theorem get_bit {i : Int32} (h : 0 ≤ i.toInt) (h2 : f_wi i < (672 : Int32)) : ((wl.getD (f_wi i).toNatClampNeg 0) &&& ((1 : Int64) <<< (i.toInt64 &&& 63))) = 0 ↔ ¬ i < (42950 : Int32) := by
  have e0 : (672 : Int32).toInt = 672 := rfl
  have e1 : (42950 : Int32).toInt = 42950 := rfl
  rw [Int32.lt_iff_toInt_lt, wi_val] at h2
  rw [Int32.lt_iff_toInt_lt, sh_of h]
  have hw : (f_wi i).toNatClampNeg = (i.toInt / 64).toNat := by simp only [Int32.toNatClampNeg, wi_val]
  rw [hw]
  have b64 : i.toInt.toNat % 64 < 64 := Nat.mod_lt _ (by decide)
  by_cases c : i.toInt / 64 = 671
  · rw [show (i.toInt / 64).toNat = 671 by omega, wl_last, bit63 ⟨_, b64⟩]
    show 6 ≤ i.toInt.toNat % 64 ↔ _
    omega
  · rw [wl_get (by omega)]
    constructor
    · intro q; exact absurd q (bitAll ⟨_, b64⟩)
    · intro q; omega
theorem get_out {i : Int32} (h2 : ¬ f_wi i < (672 : Int32)) : ¬ i < (42950 : Int32) := by
  have e0 : (672 : Int32).toInt = 672 := rfl
  have e1 : (42950 : Int32).toInt = 42950 := rfl
  rw [Int32.lt_iff_toInt_lt, wi_val] at h2
  rw [Int32.lt_iff_toInt_lt]; omega
theorem d11_0 : decode jdk_92_method_26_code 0 = .ok (.iload_n 1, 1) := by decide +kernel
theorem d11_1 : decode jdk_92_method_26_code 1 = .ok (.ifCond .ge 30, 3) := by decide +kernel
theorem d11_31 : decode jdk_92_method_26_code 31 = .ok (.aload_n 0, 1) := by decide +kernel
theorem d11_32 : decode jdk_92_method_26_code 32 = .ok (.invokevirtual 56, 3) := by decide +kernel
theorem d11_35 : decode jdk_92_method_26_code 35 = .ok (.iload_n 1, 1) := by decide +kernel
theorem d11_36 : decode jdk_92_method_26_code 36 = .ok (.invokestatic 52, 3) := by decide +kernel
theorem d11_39 : decode jdk_92_method_26_code 39 = .ok (.istore_n 2, 1) := by decide +kernel
theorem d11_40 : decode jdk_92_method_26_code 40 = .ok (.iload_n 2, 1) := by decide +kernel
theorem d11_41 : decode jdk_92_method_26_code 41 = .ok (.aload_n 0, 1) := by decide +kernel
theorem d11_42 : decode jdk_92_method_26_code 42 = .ok (.getfield 7, 3) := by decide +kernel
theorem d11_45 : decode jdk_92_method_26_code 45 = .ok (.if_icmp .ge 22, 3) := by decide +kernel
theorem d11_48 : decode jdk_92_method_26_code 48 = .ok (.aload_n 0, 1) := by decide +kernel
theorem d11_49 : decode jdk_92_method_26_code 49 = .ok (.getfield 11, 3) := by decide +kernel
theorem d11_52 : decode jdk_92_method_26_code 52 = .ok (.iload_n 2, 1) := by decide +kernel
theorem d11_53 : decode jdk_92_method_26_code 53 = .ok (.laload, 1) := by decide +kernel
theorem d11_54 : decode jdk_92_method_26_code 54 = .ok (.lconst 1, 1) := by decide +kernel
theorem d11_55 : decode jdk_92_method_26_code 55 = .ok (.iload_n 1, 1) := by decide +kernel
theorem d11_56 : decode jdk_92_method_26_code 56 = .ok (.lshl, 1) := by decide +kernel
theorem d11_57 : decode jdk_92_method_26_code 57 = .ok (.land, 1) := by decide +kernel
theorem d11_58 : decode jdk_92_method_26_code 58 = .ok (.lconst 0, 1) := by decide +kernel
theorem d11_59 : decode jdk_92_method_26_code 59 = .ok (.lcmp, 1) := by decide +kernel
theorem d11_60 : decode jdk_92_method_26_code 60 = .ok (.ifCond .eq 7, 3) := by decide +kernel
theorem d11_63 : decode jdk_92_method_26_code 63 = .ok (.iconst 1, 1) := by decide +kernel
theorem d11_64 : decode jdk_92_method_26_code 64 = .ok (.goto 4, 3) := by decide +kernel
theorem d11_67 : decode jdk_92_method_26_code 67 = .ok (.iconst 0, 1) := by decide +kernel
theorem d11_68 : decode jdk_92_method_26_code 68 = .ok (.ireturn, 1) := by decide +kernel
set_option maxRecDepth 65536 in
set_option maxHeartbeats 40000000 in
theorem rmGet (l : Launch) (Z : State) (a0 : Array Value) (hw : ∀ d ∈ tables_1, d.before a0 Z = true) (a : Addr) (i : Int32) (h0 : Heap) (Z0 : Ext Z.heap h0) (S : BS Z h0 a) (h1 : 0 ≤ i.toInt) (Sd : Sta Z Z.heap "java/util/BitSet" "$assertionsDisabled" "Z" (.int 1)) :
    MetN l Z (⟨"java/util/BitSet", "get", "(I)Z"⟩ : MethodName) jdk_92_method_26_code 3 (some .boolean) [] ({ frames := 1, cells := 0, slots := 0, locals := 12 } : Room) #[(.ref a), (.int i)] h0 (fun v h => v = some (.int (if i < (42950 : Int32) then (1 : Int32) else (0 : Int32))) ∧ h = h0) := by
  refine metN (by first | exact plainFor_of_name (by first | (simp [plainName, overriddenIn]; done) | decide +kernel) | decide +kernel) Z0 (Ls := #[.val (.ref a), .val (.int i), .unset]) (fun m => by first | (simp [entryFrame, mkF, argsToLocals, Value.category]; done) | rfl) ?_
  intro p e s m below meth c T0 hx hby hml hret hlk hown hnm hZ N0
  refine Ends.go (f' := (mkF m 1 #[.val (.ref a), .val (.int i), .unset] [(.int i)])) (fun t k => XS.iloadN N0.here hx rfl (hb hby d11_0) rfl k) ?_
  refine Ends.go (f' := (mkF m 31 #[.val (.ref a), .val (.int i), .unset] [])) (fun t k => XS.ifYes N0.here hx rfl (pc0 := 1) (pc' := 31) rfl (hb hby d11_1) rfl (XT.i0_ge_t (by rw [Int32.lt_iff_toInt_lt]; exact Int.not_lt.mpr h1)) (by decide) (by decide) k) ?_
  refine Ends.go (f' := (mkF m 32 #[.val (.ref a), .val (.int i), .unset] [(.ref a)])) (fun t k => XS.aloadN N0.here hx rfl (hb hby d11_31) rfl rfl k) ?_
  obtain ⟨Ea, Fw, t, kb, Fd, V⟩ := S
  refine gPrivate (W := 0) (y := (⟨"java/util/BitSet", "checkInvariants", "()V"⟩ : MethodName)) (C := "java/util/BitSet") (b := a) (argsL := []) (rest := []) N0 hx hZ hown (hw _ (List.mem_of_getElem? (i := 51) rfl)) (hw _ (List.mem_of_getElem? (i := 52) rfl)) (hw _ (List.mem_of_getElem? (i := 54) rfl)) (hw _ (List.mem_of_getElem? (i := 53) rfl)) (hw _ (List.mem_of_getElem? (i := 55) rfl)) (by decide) Ea ((rmCI l Z a0 hw a h0 N0.ext Sd).back (W := 0) hZ (hw _ (List.mem_of_getElem? (i := 55) rfl)) (hw _ (List.mem_of_getElem? (i := 9) rfl)) (nle rfl) (nle rfl)) (hb hby d11_32) rfl (by rw [hml]; rfl) (lenOf (by decide +kernel : parseMethodDescriptor "()V" = some ⟨[], none⟩) rfl) (nle rfl) (nle rfl) (nle rfl) (fun _ _ _ q => q.2) ?_
  rintro _ T1 _ _ N2 ⟨⟨rfl, e_h⟩, -⟩; rw [e_h] at N2; clear e_h
  show Ends p e below _ T1 (mkF m 35 #[.val (.ref a), .val (.int i), .unset] [])
  refine Ends.go (f' := (mkF m 36 #[.val (.ref a), .val (.int i), .unset] [(.int i)])) (fun t k => XS.iloadN N2.here hx rfl (hb hby d11_35) rfl k) ?_
  refine gStatic (W := 0) (argsL := [(.int i)]) (rest := []) N2 hx hZ hown (hw _ (List.mem_of_getElem? (i := 26) rfl)) (hw _ (List.mem_of_getElem? (i := 27) rfl)) (hw _ (List.mem_of_getElem? (i := 9) rfl)) (hw _ (List.mem_of_getElem? (i := 28) rfl)) (by decide) ((rm5 l Z a0 hw i h0 N2.ext).back (W := 0) hZ (hw _ (List.mem_of_getElem? (i := 28) rfl)) (hw _ (List.mem_of_getElem? (i := 9) rfl)) (nle rfl) (nle rfl)) (hb hby d11_36) rfl (by rw [hml]; rfl) (lenOf (by decide +kernel : parseMethodDescriptor "(I)I" = some ⟨[.int], (some .int)⟩) rfl) (nle rfl) (nle rfl) (nle rfl) (fun _ _ _ q => q.2) ?_
  rintro _ T3 _ _ N4 ⟨⟨rfl, e_h⟩, -⟩; rw [e_h] at N4; clear e_h
  show Ends p e below _ T3 (mkF m 39 #[.val (.ref a), .val (.int i), .unset] [(.int (f_wi i))])
  refine Ends.go (f' := (mkF m 40 #[.val (.ref a), .val (.int i), .val (.int (f_wi i))] [])) (fun t k => XS.istoreN N4.here hx rfl (hb hby d11_39) rfl (l' := #[.val (.ref a), .val (.int i), .val (.int (f_wi i))]) rfl k) ?_
  refine Ends.go (f' := (mkF m 41 #[.val (.ref a), .val (.int i), .val (.int (f_wi i))] [(.int (f_wi i))])) (fun t k => XS.iloadN N4.here hx rfl (hb hby d11_40) rfl k) ?_
  refine Ends.go (f' := (mkF m 42 #[.val (.ref a), .val (.int i), .val (.int (f_wi i))] [(.ref a), (.int (f_wi i))])) (fun t k => XS.aloadN N4.here hx rfl (hb hby d11_41) rfl rfl k) ?_
  refine gGet (host := "") N4 hx hZ hown (Or.inl (hw _ (List.mem_of_getElem? (i := 17) rfl))) Via.refl Fw (hb hby d11_42) ?_
  intro T8 N9
  show Ends p e below _ T8 (mkF m 45 #[.val (.ref a), .val (.int i), .val (.int (f_wi i))] [(.int (672 : Int32)), (.int (f_wi i))])
  by_cases c1 : (f_wi i) < (672 : Int32)
  · refine Ends.go (f' := (mkF m 48 #[.val (.ref a), .val (.int i), .val (.int (f_wi i))] [])) (fun t k => XS.icmpNo N9.here hx rfl (hb hby d11_45) rfl (XT.ii_ge_f c1) k) ?_
    refine Ends.go (f' := (mkF m 49 #[.val (.ref a), .val (.int i), .val (.int (f_wi i))] [(.ref a)])) (fun t k => XS.aloadN N9.here hx rfl (hb hby d11_48) rfl rfl k) ?_
    refine gGet (host := "") N9 hx hZ hown (Or.inl (hw _ (List.mem_of_getElem? (i := 30) rfl))) Via.refl Fd (hb hby d11_49) ?_
    intro T10 N11
    show Ends p e below _ T10 (mkF m 52 #[.val (.ref a), .val (.int i), .val (.int (f_wi i))] [(.ref t)])
    refine Ends.go (f' := (mkF m 53 #[.val (.ref a), .val (.int i), .val (.int (f_wi i))] [(.int (f_wi i)), (.ref t)])) (fun t k => XS.iloadN N11.here hx rfl (hb hby d11_52) rfl k) ?_
    refine gLdJ N11 hx hZ V (wi_in h1 c1) (getD_long wl _) (hb hby d11_53) ?_
    show Ends p e below _ T10 (mkF m 54 #[.val (.ref a), .val (.int i), .val (.int (f_wi i))] [(.long (wl.getD (f_wi i).toNatClampNeg 0))])
    refine Ends.go (f' := (mkF m 55 #[.val (.ref a), .val (.int i), .val (.int (f_wi i))] [(.long (1 : Int64)), (.long (wl.getD (f_wi i).toNatClampNeg 0))])) (fun t k => XT.lconst N11.here hx rfl (hb hby d11_54) k) ?_
    refine Ends.go (f' := (mkF m 56 #[.val (.ref a), .val (.int i), .val (.int (f_wi i))] [(.int i), (.long (1 : Int64)), (.long (wl.getD (f_wi i).toNatClampNeg 0))])) (fun t k => XS.iloadN N11.here hx rfl (hb hby d11_55) rfl k) ?_
    refine Ends.go (f' := (mkF m 57 #[.val (.ref a), .val (.int i), .val (.int (f_wi i))] [(.long ((1 : Int64) <<< (i.toInt64 &&& 63))), (.long (wl.getD (f_wi i).toNatClampNeg 0))])) (fun t k => XT.lshl N11.here hx rfl (hb hby d11_56) rfl k) ?_
    refine Ends.go (f' := (mkF m 58 #[.val (.ref a), .val (.int i), .val (.int (f_wi i))] [(.long ((wl.getD (f_wi i).toNatClampNeg 0) &&& ((1 : Int64) <<< (i.toInt64 &&& 63))))])) (fun t k => XT.land N11.here hx rfl (hb hby d11_57) rfl k) ?_
    refine Ends.go (f' := (mkF m 59 #[.val (.ref a), .val (.int i), .val (.int (f_wi i))] [(.long (0 : Int64)), (.long ((wl.getD (f_wi i).toNatClampNeg 0) &&& ((1 : Int64) <<< (i.toInt64 &&& 63))))])) (fun t k => XT.lconst N11.here hx rfl (hb hby d11_58) k) ?_
    refine Ends.go (f' := (mkF m 60 #[.val (.ref a), .val (.int i), .val (.int (f_wi i))] [(.int (XT.cmpL ((wl.getD (f_wi i).toNatClampNeg 0) &&& ((1 : Int64) <<< (i.toInt64 &&& 63))) (0 : Int64)))])) (fun t k => XT.lcmp N11.here hx rfl (hb hby d11_59) rfl k) ?_
    by_cases c2 : ((wl.getD (f_wi i).toNatClampNeg 0) &&& ((1 : Int64) <<< (i.toInt64 &&& 63))) = (0 : Int64)
    · refine Ends.go (f' := (mkF m 67 #[.val (.ref a), .val (.int i), .val (.int (f_wi i))] [])) (fun t k => XS.ifYes N11.here hx rfl (pc0 := 60) (pc' := 67) rfl (hb hby d11_60) rfl (XT.ll_eq_t c2) (by decide) (by decide) k) ?_
      refine Ends.go (f' := (mkF m 68 #[.val (.ref a), .val (.int i), .val (.int (f_wi i))] [(.int (0 : Int32))])) (fun t k => XS.iconst N11.here hx rfl (hb hby d11_67) k) ?_
      exact retZ N11 hx hlk hret (by simp) (hb hby d11_68) ⟨by rw [if_neg ((get_bit h1 c1).mp c2)]; rfl, rfl⟩ (nle rfl) (nle rfl)
    · refine Ends.go (f' := (mkF m 63 #[.val (.ref a), .val (.int i), .val (.int (f_wi i))] [])) (fun t k => XS.ifNo N11.here hx rfl (hb hby d11_60) rfl (XT.ll_eq_f c2) k) ?_
      refine Ends.go (f' := (mkF m 64 #[.val (.ref a), .val (.int i), .val (.int (f_wi i))] [(.int (1 : Int32))])) (fun t k => XS.iconst N11.here hx rfl (hb hby d11_63) k) ?_
      refine Ends.go (f' := (mkF m 68 #[.val (.ref a), .val (.int i), .val (.int (f_wi i))] [(.int (1 : Int32))])) (fun t k => XS.goto N11.here hx rfl (pc0 := 64) (pc' := 68) rfl (hb hby d11_64) (by decide) (by decide) k) ?_
      exact retZ N11 hx hlk hret (by simp) (hb hby d11_68) ⟨by rw [if_pos (Decidable.of_not_not fun q => c2 ((get_bit h1 c1).mpr q))]; rfl, rfl⟩ (nle rfl) (nle rfl)
  · refine Ends.go (f' := (mkF m 67 #[.val (.ref a), .val (.int i), .val (.int (f_wi i))] [])) (fun t k => XS.icmpYes N9.here hx rfl (pc0 := 45) (pc' := 67) rfl (hb hby d11_45) rfl (XT.ii_ge_t c1) (by decide) (by decide) k) ?_
    refine Ends.go (f' := (mkF m 68 #[.val (.ref a), .val (.int i), .val (.int (f_wi i))] [(.int (0 : Int32))])) (fun t k => XS.iconst N9.here hx rfl (hb hby d11_67) k) ?_
    exact retZ N9 hx hlk hret (by simp) (hb hby d11_68) ⟨by rw [if_neg (get_out c1)]; rfl, rfl⟩ (nle rfl) (nle rfl)
theorem card_step (i : Nat) : (Int32.ofNat (64 * i) + f_bc (-1 : Int64)) = Int32.ofNat (64 * (i + 1)) := by
  rw [show f_bc (-1 : Int64) = Int32.ofNat 64 from by decide, ← Int32.ofNat_add]; rfl
theorem d12_0 : decode jdk_92_method_35_code 0 = .ok (.iconst 0, 1) := by decide +kernel
theorem d12_1 : decode jdk_92_method_35_code 1 = .ok (.istore_n 1, 1) := by decide +kernel
theorem d12_2 : decode jdk_92_method_35_code 2 = .ok (.iconst 0, 1) := by decide +kernel
theorem d12_3 : decode jdk_92_method_35_code 3 = .ok (.istore_n 2, 1) := by decide +kernel
theorem d12_4 : decode jdk_92_method_35_code 4 = .ok (.iload_n 2, 1) := by decide +kernel
theorem d12_5 : decode jdk_92_method_35_code 5 = .ok (.aload_n 0, 1) := by decide +kernel
theorem d12_6 : decode jdk_92_method_35_code 6 = .ok (.getfield 7, 3) := by decide +kernel
theorem d12_9 : decode jdk_92_method_35_code 9 = .ok (.if_icmp .ge 21, 3) := by decide +kernel
theorem d12_12 : decode jdk_92_method_35_code 12 = .ok (.iload_n 1, 1) := by decide +kernel
theorem d12_13 : decode jdk_92_method_35_code 13 = .ok (.aload_n 0, 1) := by decide +kernel
theorem d12_14 : decode jdk_92_method_35_code 14 = .ok (.getfield 11, 3) := by decide +kernel
theorem d12_17 : decode jdk_92_method_35_code 17 = .ok (.iload_n 2, 1) := by decide +kernel
theorem d12_18 : decode jdk_92_method_35_code 18 = .ok (.laload, 1) := by decide +kernel
theorem d12_19 : decode jdk_92_method_35_code 19 = .ok (.invokestatic 196, 3) := by decide +kernel
theorem d12_22 : decode jdk_92_method_35_code 22 = .ok (.iadd, 1) := by decide +kernel
theorem d12_23 : decode jdk_92_method_35_code 23 = .ok (.istore_n 1, 1) := by decide +kernel
theorem d12_24 : decode jdk_92_method_35_code 24 = .ok (.iinc 2 1, 3) := by decide +kernel
theorem d12_27 : decode jdk_92_method_35_code 27 = .ok (.goto (-23), 3) := by decide +kernel
theorem d12_30 : decode jdk_92_method_35_code 30 = .ok (.iload_n 1, 1) := by decide +kernel
theorem d12_31 : decode jdk_92_method_35_code 31 = .ok (.ireturn, 1) := by decide +kernel
set_option maxRecDepth 65536 in
set_option maxHeartbeats 40000000 in
theorem rmCard (l : Launch) (Z : State) (a0 : Array Value) (hw : ∀ d ∈ tables_1, d.before a0 Z = true) (a : Addr) (h0 : Heap) (Z0 : Ext Z.heap h0) (S : BS Z h0 a) :
    MetN l Z (⟨"java/util/BitSet", "cardinality", "()I"⟩ : MethodName) jdk_92_method_35_code 3 (some .int) [] ({ frames := 1, cells := 0, slots := 0, locals := 14 } : Room) #[(.ref a)] h0 (fun v h => v = some (.int (42950 : Int32)) ∧ h = h0) := by
  refine metN (by first | exact plainFor_of_name (by first | (simp [plainName, overriddenIn]; done) | decide +kernel) | decide +kernel) Z0 (Ls := #[.val (.ref a), .unset, .unset]) (fun m => by first | (simp [entryFrame, mkF, argsToLocals, Value.category]; done) | rfl) ?_
  intro p e s m below meth c T0 hx hby hml hret hlk hown hnm hZ N0
  obtain ⟨Ea, Fw, t, kb, Fd, V⟩ := S
  have loop : ∀ (r i : Nat) (T1 : State), i + r = 671 → Now p l e ({ frames := 1, cells := 0, slots := 0, locals := 14 } : Room) s m #[(.ref a)] below meth c Z T1 h0 0 0 → Ends p e below (PhiN Z s (fun v h => v = some (.int (42950 : Int32)) ∧ h = h0) ({ frames := 1, cells := 0, slots := 0, locals := 14 } : Room).cells ({ frames := 1, cells := 0, slots := 0, locals := 14 } : Room).slots) T1 (mkF m 4 #[.val (.ref a), .val (.int (Int32.ofNat (64 * i))), .val (.int (Int32.ofNat i))] []) := by
    intro r
    induction r with
    | zero =>
      intro i T1 hi1 N1
      obtain rfl : i = 671 := by omega
      refine Ends.go (f' := (mkF m 5 #[.val (.ref a), .val (.int (Int32.ofNat (64 * 671))), .val (.int (Int32.ofNat 671))] [(.int (Int32.ofNat 671))])) (fun t k => XS.iloadN N1.here hx rfl (hb hby d12_4) rfl k) ?_
      refine Ends.go (f' := (mkF m 6 #[.val (.ref a), .val (.int (Int32.ofNat (64 * 671))), .val (.int (Int32.ofNat 671))] [(.ref a), (.int (Int32.ofNat 671))])) (fun t k => XS.aloadN N1.here hx rfl (hb hby d12_5) rfl rfl k) ?_
      refine gGet (host := "") N1 hx hZ hown (Or.inl (hw _ (List.mem_of_getElem? (i := 17) rfl))) Via.refl Fw (hb hby d12_6) ?_
      intro T1 N2
      show Ends p e below _ T1 (mkF m 9 #[.val (.ref a), .val (.int (Int32.ofNat (64 * 671))), .val (.int (Int32.ofNat 671))] [(.int (672 : Int32)), (.int (Int32.ofNat 671))])
      refine Ends.go (f' := (mkF m 12 #[.val (.ref a), .val (.int (Int32.ofNat (64 * 671))), .val (.int (Int32.ofNat 671))] [])) (fun t k => XS.icmpNo N2.here hx rfl (hb hby d12_9) rfl (XT.ii_ge_f (by decide)) k) ?_
      refine Ends.go (f' := (mkF m 13 #[.val (.ref a), .val (.int (Int32.ofNat (64 * 671))), .val (.int (Int32.ofNat 671))] [(.int (Int32.ofNat (64 * 671)))])) (fun t k => XS.iloadN N2.here hx rfl (hb hby d12_12) rfl k) ?_
      refine Ends.go (f' := (mkF m 14 #[.val (.ref a), .val (.int (Int32.ofNat (64 * 671))), .val (.int (Int32.ofNat 671))] [(.ref a), (.int (Int32.ofNat (64 * 671)))])) (fun t k => XS.aloadN N2.here hx rfl (hb hby d12_13) rfl rfl k) ?_
      refine gGet (host := "") N2 hx hZ hown (Or.inl (hw _ (List.mem_of_getElem? (i := 30) rfl))) Via.refl Fd (hb hby d12_14) ?_
      intro T3 N4
      show Ends p e below _ T3 (mkF m 17 #[.val (.ref a), .val (.int (Int32.ofNat (64 * 671))), .val (.int (Int32.ofNat 671))] [(.ref t), (.int (Int32.ofNat (64 * 671)))])
      refine Ends.go (f' := (mkF m 18 #[.val (.ref a), .val (.int (Int32.ofNat (64 * 671))), .val (.int (Int32.ofNat 671))] [(.int (Int32.ofNat 671)), (.ref t), (.int (Int32.ofNat (64 * 671)))])) (fun t k => XS.iloadN N4.here hx rfl (hb hby d12_17) rfl k) ?_
      refine gLdJ N4 hx hZ V (ofNat_in (by omega)) (getD_long wl _) (hb hby d12_18) ?_
      rw [show wl.getD (Int32.ofNat 671).toNatClampNeg 0 = (63 : Int64) by rw [ofNat_nat (by omega)]; exact wl_last]
      show Ends p e below _ T3 (mkF m 19 #[.val (.ref a), .val (.int (Int32.ofNat (64 * 671))), .val (.int (Int32.ofNat 671))] [(.long (63 : Int64)), (.int (Int32.ofNat (64 * 671)))])
      refine gStatic (W := 1) (argsL := [(.long (63 : Int64))]) (rest := [(.int (Int32.ofNat (64 * 671)))]) N4 hx hZ hown (hw _ (List.mem_of_getElem? (i := 67) rfl)) (hw _ (List.mem_of_getElem? (i := 68) rfl)) (hw _ (List.mem_of_getElem? (i := 69) rfl)) (hw _ (List.mem_of_getElem? (i := 70) rfl)) (by decide) ((rm13 l Z a0 hw (63 : Int64) h0 N4.ext).back (W := 1) hZ (hw _ (List.mem_of_getElem? (i := 70) rfl)) (hw _ (List.mem_of_getElem? (i := 69) rfl)) (nle rfl) (nle rfl)) (hb hby d12_19) rfl (by rw [hml]; rfl) (lenOf (by decide +kernel : parseMethodDescriptor "(J)I" = some ⟨[.long], (some .int)⟩) rfl) (nle rfl) (nle rfl) (nle rfl) (fun _ _ _ q => q.2) ?_
      rintro _ T5 _ _ N6 ⟨⟨rfl, e_h⟩, -⟩; rw [e_h] at N6; clear e_h
      show Ends p e below _ T5 (mkF m 22 #[.val (.ref a), .val (.int (Int32.ofNat (64 * 671))), .val (.int (Int32.ofNat 671))] [(.int (f_bc (63 : Int64))), (.int (Int32.ofNat (64 * 671)))])
      refine Ends.go (f' := (mkF m 23 #[.val (.ref a), .val (.int (Int32.ofNat (64 * 671))), .val (.int (Int32.ofNat 671))] [(.int ((Int32.ofNat (64 * 671)) + (f_bc (63 : Int64))))])) (fun t k => XS.iadd N6.here hx rfl (hb hby d12_22) rfl k) ?_
      refine Ends.go (f' := (mkF m 24 #[.val (.ref a), .val (.int ((Int32.ofNat (64 * 671)) + (f_bc (63 : Int64)))), .val (.int (Int32.ofNat 671))] [])) (fun t k => XS.istoreN N6.here hx rfl (hb hby d12_23) rfl (l' := #[.val (.ref a), .val (.int ((Int32.ofNat (64 * 671)) + (f_bc (63 : Int64)))), .val (.int (Int32.ofNat 671))]) rfl k) ?_
      refine Ends.go (f' := (mkF m 27 #[.val (.ref a), .val (.int ((Int32.ofNat (64 * 671)) + (f_bc (63 : Int64)))), .val (.int ((Int32.ofNat 671) + (1 : Int32)))] [])) (fun t k => XS.iinc N6.here hx rfl (hb hby d12_24) rfl (l' := #[.val (.ref a), .val (.int ((Int32.ofNat (64 * 671)) + (f_bc (63 : Int64)))), .val (.int ((Int32.ofNat 671) + (1 : Int32)))]) rfl k) ?_
      refine Ends.go (f' := (mkF m 4 #[.val (.ref a), .val (.int ((Int32.ofNat (64 * 671)) + (f_bc (63 : Int64)))), .val (.int ((Int32.ofNat 671) + (1 : Int32)))] [])) (fun t k => XS.goto N6.here hx rfl (pc0 := 27) (pc' := 4) rfl (hb hby d12_27) (by decide) (by decide) k) ?_
      refine Ends.go (f' := (mkF m 5 #[.val (.ref a), .val (.int ((Int32.ofNat (64 * 671)) + (f_bc (63 : Int64)))), .val (.int ((Int32.ofNat 671) + (1 : Int32)))] [(.int ((Int32.ofNat 671) + (1 : Int32)))])) (fun t k => XS.iloadN N6.here hx rfl (hb hby d12_4) rfl k) ?_
      refine Ends.go (f' := (mkF m 6 #[.val (.ref a), .val (.int ((Int32.ofNat (64 * 671)) + (f_bc (63 : Int64)))), .val (.int ((Int32.ofNat 671) + (1 : Int32)))] [(.ref a), (.int ((Int32.ofNat 671) + (1 : Int32)))])) (fun t k => XS.aloadN N6.here hx rfl (hb hby d12_5) rfl rfl k) ?_
      refine gGet (host := "") N6 hx hZ hown (Or.inl (hw _ (List.mem_of_getElem? (i := 17) rfl))) Via.refl Fw (hb hby d12_6) ?_
      intro T10 N11
      show Ends p e below _ T10 (mkF m 9 #[.val (.ref a), .val (.int ((Int32.ofNat (64 * 671)) + (f_bc (63 : Int64)))), .val (.int ((Int32.ofNat 671) + (1 : Int32)))] [(.int (672 : Int32)), (.int ((Int32.ofNat 671) + (1 : Int32)))])
      refine Ends.go (f' := (mkF m 30 #[.val (.ref a), .val (.int ((Int32.ofNat (64 * 671)) + (f_bc (63 : Int64)))), .val (.int ((Int32.ofNat 671) + (1 : Int32)))] [])) (fun t k => XS.icmpYes N11.here hx rfl (pc0 := 9) (pc' := 30) rfl (hb hby d12_9) rfl (XT.ii_ge_t (by decide)) (by decide) (by decide) k) ?_
      refine Ends.go (f' := (mkF m 31 #[.val (.ref a), .val (.int ((Int32.ofNat (64 * 671)) + (f_bc (63 : Int64)))), .val (.int ((Int32.ofNat 671) + (1 : Int32)))] [(.int ((Int32.ofNat (64 * 671)) + (f_bc (63 : Int64))))])) (fun t k => XS.iloadN N11.here hx rfl (hb hby d12_30) rfl k) ?_
      exact retI N11 hx hlk hret (hb hby d12_31) ⟨congrArg some (congrArg Value.int (by decide)), rfl⟩ (nle rfl) (nle rfl)
    | succ r ih =>
      intro i T1 hi1 N1
      refine Ends.go (f' := (mkF m 5 #[.val (.ref a), .val (.int (Int32.ofNat (64 * i))), .val (.int (Int32.ofNat i))] [(.int (Int32.ofNat i))])) (fun t k => XS.iloadN N1.here hx rfl (hb hby d12_4) rfl k) ?_
      refine Ends.go (f' := (mkF m 6 #[.val (.ref a), .val (.int (Int32.ofNat (64 * i))), .val (.int (Int32.ofNat i))] [(.ref a), (.int (Int32.ofNat i))])) (fun t k => XS.aloadN N1.here hx rfl (hb hby d12_5) rfl rfl k) ?_
      refine gGet (host := "") N1 hx hZ hown (Or.inl (hw _ (List.mem_of_getElem? (i := 17) rfl))) Via.refl Fw (hb hby d12_6) ?_
      intro T12 N13
      show Ends p e below _ T12 (mkF m 9 #[.val (.ref a), .val (.int (Int32.ofNat (64 * i))), .val (.int (Int32.ofNat i))] [(.int (672 : Int32)), (.int (Int32.ofNat i))])
      refine Ends.go (f' := (mkF m 12 #[.val (.ref a), .val (.int (Int32.ofNat (64 * i))), .val (.int (Int32.ofNat i))] [])) (fun t k => XS.icmpNo N13.here hx rfl (hb hby d12_9) rfl (XT.ii_ge_f (by have e1 : (672 : Int32).toInt = 672 := rfl; rw [Int32.lt_iff_toInt_lt, ofNat_toInt (by omega)]; omega)) k) ?_
      refine Ends.go (f' := (mkF m 13 #[.val (.ref a), .val (.int (Int32.ofNat (64 * i))), .val (.int (Int32.ofNat i))] [(.int (Int32.ofNat (64 * i)))])) (fun t k => XS.iloadN N13.here hx rfl (hb hby d12_12) rfl k) ?_
      refine Ends.go (f' := (mkF m 14 #[.val (.ref a), .val (.int (Int32.ofNat (64 * i))), .val (.int (Int32.ofNat i))] [(.ref a), (.int (Int32.ofNat (64 * i)))])) (fun t k => XS.aloadN N13.here hx rfl (hb hby d12_13) rfl rfl k) ?_
      refine gGet (host := "") N13 hx hZ hown (Or.inl (hw _ (List.mem_of_getElem? (i := 30) rfl))) Via.refl Fd (hb hby d12_14) ?_
      intro T14 N15
      show Ends p e below _ T14 (mkF m 17 #[.val (.ref a), .val (.int (Int32.ofNat (64 * i))), .val (.int (Int32.ofNat i))] [(.ref t), (.int (Int32.ofNat (64 * i)))])
      refine Ends.go (f' := (mkF m 18 #[.val (.ref a), .val (.int (Int32.ofNat (64 * i))), .val (.int (Int32.ofNat i))] [(.int (Int32.ofNat i)), (.ref t), (.int (Int32.ofNat (64 * i)))])) (fun t k => XS.iloadN N15.here hx rfl (hb hby d12_17) rfl k) ?_
      refine gLdJ N15 hx hZ V (ofNat_in (by omega)) (getD_long wl _) (hb hby d12_18) ?_
      rw [show wl.getD (Int32.ofNat i).toNatClampNeg 0 = (-1 : Int64) by rw [ofNat_nat (by omega)]; exact wl_get (by omega)]
      show Ends p e below _ T14 (mkF m 19 #[.val (.ref a), .val (.int (Int32.ofNat (64 * i))), .val (.int (Int32.ofNat i))] [(.long (-1 : Int64)), (.int (Int32.ofNat (64 * i)))])
      refine gStatic (W := 1) (argsL := [(.long (-1 : Int64))]) (rest := [(.int (Int32.ofNat (64 * i)))]) N15 hx hZ hown (hw _ (List.mem_of_getElem? (i := 67) rfl)) (hw _ (List.mem_of_getElem? (i := 68) rfl)) (hw _ (List.mem_of_getElem? (i := 69) rfl)) (hw _ (List.mem_of_getElem? (i := 70) rfl)) (by decide) ((rm13 l Z a0 hw (-1 : Int64) h0 N15.ext).back (W := 1) hZ (hw _ (List.mem_of_getElem? (i := 70) rfl)) (hw _ (List.mem_of_getElem? (i := 69) rfl)) (nle rfl) (nle rfl)) (hb hby d12_19) rfl (by rw [hml]; rfl) (lenOf (by decide +kernel : parseMethodDescriptor "(J)I" = some ⟨[.long], (some .int)⟩) rfl) (nle rfl) (nle rfl) (nle rfl) (fun _ _ _ q => q.2) ?_
      rintro _ T16 _ _ N17 ⟨⟨rfl, e_h⟩, -⟩; rw [e_h] at N17; clear e_h
      show Ends p e below _ T16 (mkF m 22 #[.val (.ref a), .val (.int (Int32.ofNat (64 * i))), .val (.int (Int32.ofNat i))] [(.int (f_bc (-1 : Int64))), (.int (Int32.ofNat (64 * i)))])
      refine Ends.go (f' := (mkF m 23 #[.val (.ref a), .val (.int (Int32.ofNat (64 * i))), .val (.int (Int32.ofNat i))] [(.int ((Int32.ofNat (64 * i)) + (f_bc (-1 : Int64))))])) (fun t k => XS.iadd N17.here hx rfl (hb hby d12_22) rfl k) ?_
      refine Ends.go (f' := (mkF m 24 #[.val (.ref a), .val (.int ((Int32.ofNat (64 * i)) + (f_bc (-1 : Int64)))), .val (.int (Int32.ofNat i))] [])) (fun t k => XS.istoreN N17.here hx rfl (hb hby d12_23) rfl (l' := #[.val (.ref a), .val (.int ((Int32.ofNat (64 * i)) + (f_bc (-1 : Int64)))), .val (.int (Int32.ofNat i))]) rfl k) ?_
      refine Ends.go (f' := (mkF m 27 #[.val (.ref a), .val (.int ((Int32.ofNat (64 * i)) + (f_bc (-1 : Int64)))), .val (.int ((Int32.ofNat i) + (1 : Int32)))] [])) (fun t k => XS.iinc N17.here hx rfl (hb hby d12_24) rfl (l' := #[.val (.ref a), .val (.int ((Int32.ofNat (64 * i)) + (f_bc (-1 : Int64)))), .val (.int ((Int32.ofNat i) + (1 : Int32)))]) rfl k) ?_
      rw [ofNat_succ, show ((Int32.ofNat (64 * i)) + (f_bc (-1 : Int64))) = Int32.ofNat (64 * (i + 1)) from card_step i]
      refine Ends.go (f' := (mkF m 4 #[.val (.ref a), .val (.int (Int32.ofNat (64 * (i + 1)))), .val (.int (Int32.ofNat (i + 1)))] [])) (fun t k => XS.goto N17.here hx rfl (pc0 := 27) (pc' := 4) rfl (hb hby d12_27) (by decide) (by decide) k) ?_
      exact ih (i + 1) T16 (by omega) N17
  refine Ends.go (f' := (mkF m 1 #[.val (.ref a), .unset, .unset] [(.int (0 : Int32))])) (fun t k => XS.iconst N0.here hx rfl (hb hby d12_0) k) ?_
  refine Ends.go (f' := (mkF m 2 #[.val (.ref a), .val (.int (0 : Int32)), .unset] [])) (fun t k => XS.istoreN N0.here hx rfl (hb hby d12_1) rfl (l' := #[.val (.ref a), .val (.int (0 : Int32)), .unset]) rfl k) ?_
  refine Ends.go (f' := (mkF m 3 #[.val (.ref a), .val (.int (0 : Int32)), .unset] [(.int (0 : Int32))])) (fun t k => XS.iconst N0.here hx rfl (hb hby d12_2) k) ?_
  refine Ends.go (f' := (mkF m 4 #[.val (.ref a), .val (.int (0 : Int32)), .val (.int (0 : Int32))] [])) (fun t k => XS.istoreN N0.here hx rfl (hb hby d12_3) rfl (l' := #[.val (.ref a), .val (.int (0 : Int32)), .val (.int (0 : Int32))]) rfl k) ?_
  exact loop 671 0 T0 rfl N0
theorem d14_0 : decode jdk_92_method_32_code 0 = .ok (.aload_n 0, 1) := by decide +kernel
theorem d14_1 : decode jdk_92_method_32_code 1 = .ok (.getfield 7, 3) := by decide +kernel
theorem d14_4 : decode jdk_92_method_32_code 4 = .ok (.ifCond .ne 5, 3) := by decide +kernel
theorem d14_9 : decode jdk_92_method_32_code 9 = .ok (.bipush 64, 2) := by decide +kernel
theorem d14_11 : decode jdk_92_method_32_code 11 = .ok (.aload_n 0, 1) := by decide +kernel
theorem d14_12 : decode jdk_92_method_32_code 12 = .ok (.getfield 7, 3) := by decide +kernel
theorem d14_15 : decode jdk_92_method_32_code 15 = .ok (.iconst 1, 1) := by decide +kernel
theorem d14_16 : decode jdk_92_method_32_code 16 = .ok (.isub, 1) := by decide +kernel
theorem d14_17 : decode jdk_92_method_32_code 17 = .ok (.imul, 1) := by decide +kernel
theorem d14_18 : decode jdk_92_method_32_code 18 = .ok (.bipush 64, 2) := by decide +kernel
theorem d14_20 : decode jdk_92_method_32_code 20 = .ok (.aload_n 0, 1) := by decide +kernel
theorem d14_21 : decode jdk_92_method_32_code 21 = .ok (.getfield 11, 3) := by decide +kernel
theorem d14_24 : decode jdk_92_method_32_code 24 = .ok (.aload_n 0, 1) := by decide +kernel
theorem d14_25 : decode jdk_92_method_32_code 25 = .ok (.getfield 7, 3) := by decide +kernel
theorem d14_28 : decode jdk_92_method_32_code 28 = .ok (.iconst 1, 1) := by decide +kernel
theorem d14_29 : decode jdk_92_method_32_code 29 = .ok (.isub, 1) := by decide +kernel
theorem d14_30 : decode jdk_92_method_32_code 30 = .ok (.laload, 1) := by decide +kernel
theorem d14_31 : decode jdk_92_method_32_code 31 = .ok (.invokestatic 190, 3) := by decide +kernel
theorem d14_34 : decode jdk_92_method_32_code 34 = .ok (.isub, 1) := by decide +kernel
theorem d14_35 : decode jdk_92_method_32_code 35 = .ok (.iadd, 1) := by decide +kernel
theorem d14_36 : decode jdk_92_method_32_code 36 = .ok (.ireturn, 1) := by decide +kernel
set_option maxRecDepth 65536 in
set_option maxHeartbeats 40000000 in
theorem rmLen (l : Launch) (Z : State) (a0 : Array Value) (hw : ∀ d ∈ tables_1, d.before a0 Z = true) (a : Addr) (h0 : Heap) (Z0 : Ext Z.heap h0) (S : BS Z h0 a) :
    MetN l Z (⟨"java/util/BitSet", "length", "()I"⟩ : MethodName) jdk_92_method_32_code 1 (some .int) [] ({ frames := 2, cells := 0, slots := 0, locals := 30 } : Room) #[(.ref a)] h0 (fun v h => v = some (.int (42950 : Int32)) ∧ h = h0) := by
  refine metN (by first | exact plainFor_of_name (by first | (simp [plainName, overriddenIn]; done) | decide +kernel) | decide +kernel) Z0 (Ls := #[.val (.ref a)]) (fun m => by first | (simp [entryFrame, mkF, argsToLocals, Value.category]; done) | rfl) ?_
  intro p e s m below meth c T0 hx hby hml hret hlk hown hnm hZ N0
  obtain ⟨Ea, Fw, t, kb, Fd, V⟩ := S
  refine Ends.go (f' := (mkF m 1 #[.val (.ref a)] [(.ref a)])) (fun t k => XS.aloadN N0.here hx rfl (hb hby d14_0) rfl rfl k) ?_
  refine gGet (host := "") N0 hx hZ hown (Or.inl (hw _ (List.mem_of_getElem? (i := 17) rfl))) Via.refl Fw (hb hby d14_1) ?_
  intro T1 N2
  show Ends p e below _ T1 (mkF m 4 #[.val (.ref a)] [(.int (672 : Int32))])
  refine Ends.go (f' := (mkF m 9 #[.val (.ref a)] [])) (fun t k => XS.ifYes N2.here hx rfl (pc0 := 4) (pc' := 9) rfl (hb hby d14_4) rfl (XT.i0_ne_t (by decide)) (by decide) (by decide) k) ?_
  refine Ends.go (f' := (mkF m 11 #[.val (.ref a)] [(.int (64 : Int32))])) (fun t k => XS.bipush N2.here hx rfl (hb hby d14_9) k) ?_
  refine Ends.go (f' := (mkF m 12 #[.val (.ref a)] [(.ref a), (.int (64 : Int32))])) (fun t k => XS.aloadN N2.here hx rfl (hb hby d14_11) rfl rfl k) ?_
  refine gGet (host := "") N2 hx hZ hown (Or.inl (hw _ (List.mem_of_getElem? (i := 17) rfl))) Via.refl Fw (hb hby d14_12) ?_
  intro T3 N4
  show Ends p e below _ T3 (mkF m 15 #[.val (.ref a)] [(.int (672 : Int32)), (.int (64 : Int32))])
  refine Ends.go (f' := (mkF m 16 #[.val (.ref a)] [(.int (1 : Int32)), (.int (672 : Int32)), (.int (64 : Int32))])) (fun t k => XS.iconst N4.here hx rfl (hb hby d14_15) k) ?_
  refine Ends.go (f' := (mkF m 17 #[.val (.ref a)] [(.int ((672 : Int32) - (1 : Int32))), (.int (64 : Int32))])) (fun t k => XS.isub N4.here hx rfl (hb hby d14_16) rfl k) ?_
  refine Ends.go (f' := (mkF m 18 #[.val (.ref a)] [(.int ((64 : Int32) * ((672 : Int32) - (1 : Int32))))])) (fun t k => XS.imul N4.here hx rfl (hb hby d14_17) rfl k) ?_
  refine Ends.go (f' := (mkF m 20 #[.val (.ref a)] [(.int (64 : Int32)), (.int ((64 : Int32) * ((672 : Int32) - (1 : Int32))))])) (fun t k => XS.bipush N4.here hx rfl (hb hby d14_18) k) ?_
  refine Ends.go (f' := (mkF m 21 #[.val (.ref a)] [(.ref a), (.int (64 : Int32)), (.int ((64 : Int32) * ((672 : Int32) - (1 : Int32))))])) (fun t k => XS.aloadN N4.here hx rfl (hb hby d14_20) rfl rfl k) ?_
  refine gGet (host := "") N4 hx hZ hown (Or.inl (hw _ (List.mem_of_getElem? (i := 30) rfl))) Via.refl Fd (hb hby d14_21) ?_
  intro T5 N6
  show Ends p e below _ T5 (mkF m 24 #[.val (.ref a)] [(.ref t), (.int (64 : Int32)), (.int ((64 : Int32) * ((672 : Int32) - (1 : Int32))))])
  refine Ends.go (f' := (mkF m 25 #[.val (.ref a)] [(.ref a), (.ref t), (.int (64 : Int32)), (.int ((64 : Int32) * ((672 : Int32) - (1 : Int32))))])) (fun t k => XS.aloadN N6.here hx rfl (hb hby d14_24) rfl rfl k) ?_
  refine gGet (host := "") N6 hx hZ hown (Or.inl (hw _ (List.mem_of_getElem? (i := 17) rfl))) Via.refl Fw (hb hby d14_25) ?_
  intro T7 N8
  show Ends p e below _ T7 (mkF m 28 #[.val (.ref a)] [(.int (672 : Int32)), (.ref t), (.int (64 : Int32)), (.int ((64 : Int32) * ((672 : Int32) - (1 : Int32))))])
  refine Ends.go (f' := (mkF m 29 #[.val (.ref a)] [(.int (1 : Int32)), (.int (672 : Int32)), (.ref t), (.int (64 : Int32)), (.int ((64 : Int32) * ((672 : Int32) - (1 : Int32))))])) (fun t k => XS.iconst N8.here hx rfl (hb hby d14_28) k) ?_
  refine Ends.go (f' := (mkF m 30 #[.val (.ref a)] [(.int ((672 : Int32) - (1 : Int32))), (.ref t), (.int (64 : Int32)), (.int ((64 : Int32) * ((672 : Int32) - (1 : Int32))))])) (fun t k => XS.isub N8.here hx rfl (hb hby d14_29) rfl k) ?_
  rw [show ((672 : Int32) - (1 : Int32)) = (671 : Int32) from by decide]
  refine gLdJ N8 hx hZ V (by decide) ((getD_long wl 671).trans (congrArg Value.long wl_last)) (hb hby d14_30) ?_
  show Ends p e below _ T7 (mkF m 31 #[.val (.ref a)] [(.long (63 : Int64)), (.int (64 : Int32)), (.int ((64 : Int32) * (671 : Int32)))])
  refine gStatic (W := 2) (argsL := [(.long (63 : Int64))]) (rest := [(.int (64 : Int32)), (.int ((64 : Int32) * (671 : Int32)))]) N8 hx hZ hown (hw _ (List.mem_of_getElem? (i := 79) rfl)) (hw _ (List.mem_of_getElem? (i := 80) rfl)) (hw _ (List.mem_of_getElem? (i := 69) rfl)) (hw _ (List.mem_of_getElem? (i := 81) rfl)) (by decide) ((rm15 l Z a0 hw (63 : Int64) h0 N8.ext).back (W := 2) hZ (hw _ (List.mem_of_getElem? (i := 81) rfl)) (hw _ (List.mem_of_getElem? (i := 69) rfl)) (nle rfl) (nle rfl)) (hb hby d14_31) rfl (by rw [hml]; rfl) (lenOf (by decide +kernel : parseMethodDescriptor "(J)I" = some ⟨[.long], (some .int)⟩) rfl) (nle rfl) (nle rfl) (nle rfl) (fun _ _ _ q => q.2) ?_
  rintro _ T9 _ _ N10 ⟨⟨rfl, e_h⟩, -⟩; rw [e_h] at N10; clear e_h
  show Ends p e below _ T9 (mkF m 34 #[.val (.ref a)] [(.int (f_nlzL (63 : Int64))), (.int (64 : Int32)), (.int ((64 : Int32) * (671 : Int32)))])
  refine Ends.go (f' := (mkF m 35 #[.val (.ref a)] [(.int ((64 : Int32) - (f_nlzL (63 : Int64)))), (.int ((64 : Int32) * (671 : Int32)))])) (fun t k => XS.isub N10.here hx rfl (hb hby d14_34) rfl k) ?_
  refine Ends.go (f' := (mkF m 36 #[.val (.ref a)] [(.int (((64 : Int32) * (671 : Int32)) + ((64 : Int32) - (f_nlzL (63 : Int64)))))])) (fun t k => XS.iadd N10.here hx rfl (hb hby d14_35) rfl k) ?_
  exact retI N10 hx hlk hret (hb hby d14_36) ⟨congrArg some (congrArg Value.int (by decide)), rfl⟩ (nle rfl) (nle rfl)
set_option maxRecDepth 65536 in
set_option maxHeartbeats 40000000 in
theorem rmLaw (l : Launch) (Z : State) (a0 : Array Value) (hw : ∀ d ∈ tables_1, d.before a0 Z = true) (ws : List Jvm.Cond) (i0 i1 : Int32) (h0 : Heap) (Z0 : Ext Z.heap h0) (Sd : Sta Z Z.heap "java/util/BitSet" "$assertionsDisabled" "Z" (.int 1)) :
    MetN l Z x code maxLocals ret ws room_1 #[(.int i0), (.int i1)] h0 (fun v _ => v = some (.int 1)) := by
  refine metN (by first | exact plainFor_of_name (by first | (simp [plainName, overriddenIn]; done) | decide +kernel) | decide +kernel) Z0 (Ls := #[.val (.int i0), .val (.int i1), .unset, .unset, .unset, .unset, .unset, .unset]) (fun m => by first | (simp [entryFrame, mkF, argsToLocals, Value.category, maxLocals]; done) | rfl) ?_
  intro p e s m below meth c T0 hx hby hml hret hlk hown hnm hZ N0
  have hown : s.vm.findClass "com/example/askel/askel/AllocatorEverySectionPinLaw" = some m.cls := hown
  have hret : meth.sig.returnType = some .boolean := hret
  have hml : c.maxLocals = 8 := hml
  refine gLdcI N0 hx hZ hown (hw _ (List.mem_of_getElem? (i := 0) rfl)) (hb hby at_0) ?_
  show Ends p e below _ T0 (mkF m 2 #[.val (.int i0), .val (.int i1), .unset, .unset, .unset, .unset, .unset, .unset] [(.int (42950 : Int32))])
  refine Ends.go (f' := (mkF m 3 #[.val (.int i0), .val (.int i1), .val (.int (42950 : Int32)), .unset, .unset, .unset, .unset, .unset] [])) (fun t k => XS.istoreN N0.here hx rfl (hb hby at_2) rfl (l' := #[.val (.int i0), .val (.int i1), .val (.int (42950 : Int32)), .unset, .unset, .unset, .unset, .unset]) rfl k) ?_
  refine Ends.go (f' := (mkF m 4 #[.val (.int i0), .val (.int i1), .val (.int (42950 : Int32)), .unset, .unset, .unset, .unset, .unset] [(.int i0)])) (fun t k => XS.iloadN N0.here hx rfl (hb hby at_3) rfl k) ?_
  refine gLdcI N0 hx hZ hown (hw _ (List.mem_of_getElem? (i := 1) rfl)) (hb hby at_4) ?_
  show Ends p e below _ T0 (mkF m 6 #[.val (.int i0), .val (.int i1), .val (.int (42950 : Int32)), .unset, .unset, .unset, .unset, .unset] [(.int (2147483647 : Int32)), (.int i0)])
  refine Ends.go (f' := (mkF m 7 #[.val (.int i0), .val (.int i1), .val (.int (42950 : Int32)), .unset, .unset, .unset, .unset, .unset] [(.int (i0 &&& (2147483647 : Int32)))])) (fun t k => XS.iand N0.here hx rfl (hb hby at_6) rfl k) ?_
  refine gLdcI N0 hx hZ hown (hw _ (List.mem_of_getElem? (i := 2) rfl)) (hb hby at_7) ?_
  show Ends p e below _ T0 (mkF m 9 #[.val (.int i0), .val (.int i1), .val (.int (42950 : Int32)), .unset, .unset, .unset, .unset, .unset] [(.int (100000 : Int32)), (.int (i0 &&& (2147483647 : Int32)))])
  refine Ends.go (f' := (mkF m 10 #[.val (.int i0), .val (.int i1), .val (.int (42950 : Int32)), .unset, .unset, .unset, .unset, .unset] [(.int ((i0 &&& (2147483647 : Int32)) % (100000 : Int32)))])) (fun t k => gIrem N0 hx (hb hby at_9) (by decide) k) ?_
  refine Ends.go (f' := (mkF m 11 #[.val (.int i0), .val (.int i1), .val (.int (42950 : Int32)), .val (.int ((i0 &&& (2147483647 : Int32)) % (100000 : Int32))), .unset, .unset, .unset, .unset] [])) (fun t k => XS.istoreN N0.here hx rfl (hb hby at_10) rfl (l' := #[.val (.int i0), .val (.int i1), .val (.int (42950 : Int32)), .val (.int ((i0 &&& (2147483647 : Int32)) % (100000 : Int32))), .unset, .unset, .unset, .unset]) rfl k) ?_
  refine Ends.go (f' := (mkF m 12 #[.val (.int i0), .val (.int i1), .val (.int (42950 : Int32)), .val (.int ((i0 &&& (2147483647 : Int32)) % (100000 : Int32))), .unset, .unset, .unset, .unset] [(.int i1)])) (fun t k => XS.iloadN N0.here hx rfl (hb hby at_11) rfl k) ?_
  refine gLdcI N0 hx hZ hown (hw _ (List.mem_of_getElem? (i := 1) rfl)) (hb hby at_12) ?_
  show Ends p e below _ T0 (mkF m 14 #[.val (.int i0), .val (.int i1), .val (.int (42950 : Int32)), .val (.int ((i0 &&& (2147483647 : Int32)) % (100000 : Int32))), .unset, .unset, .unset, .unset] [(.int (2147483647 : Int32)), (.int i1)])
  refine Ends.go (f' := (mkF m 15 #[.val (.int i0), .val (.int i1), .val (.int (42950 : Int32)), .val (.int ((i0 &&& (2147483647 : Int32)) % (100000 : Int32))), .unset, .unset, .unset, .unset] [(.int (i1 &&& (2147483647 : Int32)))])) (fun t k => XS.iand N0.here hx rfl (hb hby at_14) rfl k) ?_
  refine Ends.go (f' := (mkF m 17 #[.val (.int i0), .val (.int i1), .val (.int (42950 : Int32)), .val (.int ((i0 &&& (2147483647 : Int32)) % (100000 : Int32))), .val (.int (i1 &&& (2147483647 : Int32))), .unset, .unset, .unset] [])) (fun t k => XS.istore N0.here hx rfl (hb hby at_15) rfl (l' := #[.val (.int i0), .val (.int i1), .val (.int (42950 : Int32)), .val (.int ((i0 &&& (2147483647 : Int32)) % (100000 : Int32))), .val (.int (i1 &&& (2147483647 : Int32))), .unset, .unset, .unset]) rfl k) ?_
  refine gStatic (W := 0) (argsL := []) (rest := []) N0 hx hZ hown (hw _ (List.mem_of_getElem? (i := 3) rfl)) (hw _ (List.mem_of_getElem? (i := 4) rfl)) (hw _ (List.mem_of_getElem? (i := 5) rfl)) (hw _ (List.mem_of_getElem? (i := 6) rfl)) (by decide) ((rmES l Z a0 hw h0 N0.ext Sd).back (W := 0) hZ (hw _ (List.mem_of_getElem? (i := 6) rfl)) (hw _ (List.mem_of_getElem? (i := 5) rfl)) (nle rfl) (nle rfl)) (hb hby at_17) rfl (by rw [hml]; rfl) (lenOf (by decide +kernel : parseMethodDescriptor "()Ljava/util/BitSet;" = some ⟨[], (some (.object "java/util/BitSet"))⟩) rfl) (nle rfl) (nle rfl) (nle rfl) (fun _ _ _ q => q.2) ?_
  rintro _ T1 h2 _ N3 ⟨⟨bs, rfl, -, Sb⟩, -⟩
  show Ends p e below _ T1 (mkF m 20 #[.val (.int i0), .val (.int i1), .val (.int (42950 : Int32)), .val (.int ((i0 &&& (2147483647 : Int32)) % (100000 : Int32))), .val (.int (i1 &&& (2147483647 : Int32))), .unset, .unset, .unset] [(.ref bs)])
  refine Ends.go (f' := (mkF m 22 #[.val (.int i0), .val (.int i1), .val (.int (42950 : Int32)), .val (.int ((i0 &&& (2147483647 : Int32)) % (100000 : Int32))), .val (.int (i1 &&& (2147483647 : Int32))), .val (.ref bs), .unset, .unset] [])) (fun t k => XS.astore N3.here hx rfl (hb hby at_20) rfl rfl (l' := #[.val (.int i0), .val (.int i1), .val (.int (42950 : Int32)), .val (.int ((i0 &&& (2147483647 : Int32)) % (100000 : Int32))), .val (.int (i1 &&& (2147483647 : Int32))), .val (.ref bs), .unset, .unset]) rfl k) ?_
  suffices J4 : ∀ bo5 : Int32, bo5 = (if ((i0 &&& (2147483647 : Int32)) % (100000 : Int32)) < (42950 : Int32) then (1 : Int32) else (0 : Int32)) → Ends p e below (PhiN Z s (fun v _ => v = some (.int 1)) room_1.cells room_1.slots) T1 (mkF m 32 #[.val (.int i0), .val (.int i1), .val (.int (42950 : Int32)), .val (.int ((i0 &&& (2147483647 : Int32)) % (100000 : Int32))), .val (.int (i1 &&& (2147483647 : Int32))), .val (.ref bs), .unset, .unset] [(.int bo5)]) by
    refine Ends.go (f' := (mkF m 23 #[.val (.int i0), .val (.int i1), .val (.int (42950 : Int32)), .val (.int ((i0 &&& (2147483647 : Int32)) % (100000 : Int32))), .val (.int (i1 &&& (2147483647 : Int32))), .val (.ref bs), .unset, .unset] [(.int ((i0 &&& (2147483647 : Int32)) % (100000 : Int32)))])) (fun t k => XS.iloadN N3.here hx rfl (hb hby at_22) rfl k) ?_
    refine Ends.go (f' := (mkF m 24 #[.val (.int i0), .val (.int i1), .val (.int (42950 : Int32)), .val (.int ((i0 &&& (2147483647 : Int32)) % (100000 : Int32))), .val (.int (i1 &&& (2147483647 : Int32))), .val (.ref bs), .unset, .unset] [(.int (42950 : Int32)), (.int ((i0 &&& (2147483647 : Int32)) % (100000 : Int32)))])) (fun t k => XS.iloadN N3.here hx rfl (hb hby at_23) rfl k) ?_
    by_cases c7 : ((i0 &&& (2147483647 : Int32)) % (100000 : Int32)) < (42950 : Int32)
    · refine Ends.go (f' := (mkF m 27 #[.val (.int i0), .val (.int i1), .val (.int (42950 : Int32)), .val (.int ((i0 &&& (2147483647 : Int32)) % (100000 : Int32))), .val (.int (i1 &&& (2147483647 : Int32))), .val (.ref bs), .unset, .unset] [])) (fun t k => XS.icmpNo N3.here hx rfl (hb hby at_24) rfl (XT.ii_ge_f c7) k) ?_
      refine Ends.go (f' := (mkF m 28 #[.val (.int i0), .val (.int i1), .val (.int (42950 : Int32)), .val (.int ((i0 &&& (2147483647 : Int32)) % (100000 : Int32))), .val (.int (i1 &&& (2147483647 : Int32))), .val (.ref bs), .unset, .unset] [(.int (1 : Int32))])) (fun t k => XS.iconst N3.here hx rfl (hb hby at_27) k) ?_
      refine Ends.go (f' := (mkF m 32 #[.val (.int i0), .val (.int i1), .val (.int (42950 : Int32)), .val (.int ((i0 &&& (2147483647 : Int32)) % (100000 : Int32))), .val (.int (i1 &&& (2147483647 : Int32))), .val (.ref bs), .unset, .unset] [(.int (1 : Int32))])) (fun t k => XS.goto N3.here hx rfl (pc0 := 28) (pc' := 32) rfl (hb hby at_28) (by decide) (by decide) k) ?_
      exact J4 (1 : Int32) (by simp [c7])
    · refine Ends.go (f' := (mkF m 31 #[.val (.int i0), .val (.int i1), .val (.int (42950 : Int32)), .val (.int ((i0 &&& (2147483647 : Int32)) % (100000 : Int32))), .val (.int (i1 &&& (2147483647 : Int32))), .val (.ref bs), .unset, .unset] [])) (fun t k => XS.icmpYes N3.here hx rfl (pc0 := 24) (pc' := 31) rfl (hb hby at_24) rfl (XT.ii_ge_t c7) (by decide) (by decide) k) ?_
      refine Ends.go (f' := (mkF m 32 #[.val (.int i0), .val (.int i1), .val (.int (42950 : Int32)), .val (.int ((i0 &&& (2147483647 : Int32)) % (100000 : Int32))), .val (.int (i1 &&& (2147483647 : Int32))), .val (.ref bs), .unset, .unset] [(.int (0 : Int32))])) (fun t k => XS.iconst N3.here hx rfl (hb hby at_31) k) ?_
      exact J4 (0 : Int32) (by simp [c7])
  intro bo5 hbo6
  refine Ends.go (f' := (mkF m 34 #[.val (.int i0), .val (.int i1), .val (.int (42950 : Int32)), .val (.int ((i0 &&& (2147483647 : Int32)) % (100000 : Int32))), .val (.int (i1 &&& (2147483647 : Int32))), .val (.ref bs), .val (.int bo5), .unset] [])) (fun t k => XS.istore N3.here hx rfl (hb hby at_32) rfl (l' := #[.val (.int i0), .val (.int i1), .val (.int (42950 : Int32)), .val (.int ((i0 &&& (2147483647 : Int32)) % (100000 : Int32))), .val (.int (i1 &&& (2147483647 : Int32))), .val (.ref bs), .val (.int bo5), .unset]) rfl k) ?_
  suffices J8 : ∀ bo9 : Int32, bo9 = (if (i1 &&& (2147483647 : Int32)) < (42950 : Int32) then (1 : Int32) else (0 : Int32)) → Ends p e below (PhiN Z s (fun v _ => v = some (.int 1)) room_1.cells room_1.slots) T1 (mkF m 45 #[.val (.int i0), .val (.int i1), .val (.int (42950 : Int32)), .val (.int ((i0 &&& (2147483647 : Int32)) % (100000 : Int32))), .val (.int (i1 &&& (2147483647 : Int32))), .val (.ref bs), .val (.int bo5), .unset] [(.int bo9)]) by
    refine Ends.go (f' := (mkF m 36 #[.val (.int i0), .val (.int i1), .val (.int (42950 : Int32)), .val (.int ((i0 &&& (2147483647 : Int32)) % (100000 : Int32))), .val (.int (i1 &&& (2147483647 : Int32))), .val (.ref bs), .val (.int bo5), .unset] [(.int (i1 &&& (2147483647 : Int32)))])) (fun t k => XS.iload N3.here hx rfl (hb hby at_34) rfl k) ?_
    refine Ends.go (f' := (mkF m 37 #[.val (.int i0), .val (.int i1), .val (.int (42950 : Int32)), .val (.int ((i0 &&& (2147483647 : Int32)) % (100000 : Int32))), .val (.int (i1 &&& (2147483647 : Int32))), .val (.ref bs), .val (.int bo5), .unset] [(.int (42950 : Int32)), (.int (i1 &&& (2147483647 : Int32)))])) (fun t k => XS.iloadN N3.here hx rfl (hb hby at_36) rfl k) ?_
    by_cases c11 : (i1 &&& (2147483647 : Int32)) < (42950 : Int32)
    · refine Ends.go (f' := (mkF m 40 #[.val (.int i0), .val (.int i1), .val (.int (42950 : Int32)), .val (.int ((i0 &&& (2147483647 : Int32)) % (100000 : Int32))), .val (.int (i1 &&& (2147483647 : Int32))), .val (.ref bs), .val (.int bo5), .unset] [])) (fun t k => XS.icmpNo N3.here hx rfl (hb hby at_37) rfl (XT.ii_ge_f c11) k) ?_
      refine Ends.go (f' := (mkF m 41 #[.val (.int i0), .val (.int i1), .val (.int (42950 : Int32)), .val (.int ((i0 &&& (2147483647 : Int32)) % (100000 : Int32))), .val (.int (i1 &&& (2147483647 : Int32))), .val (.ref bs), .val (.int bo5), .unset] [(.int (1 : Int32))])) (fun t k => XS.iconst N3.here hx rfl (hb hby at_40) k) ?_
      refine Ends.go (f' := (mkF m 45 #[.val (.int i0), .val (.int i1), .val (.int (42950 : Int32)), .val (.int ((i0 &&& (2147483647 : Int32)) % (100000 : Int32))), .val (.int (i1 &&& (2147483647 : Int32))), .val (.ref bs), .val (.int bo5), .unset] [(.int (1 : Int32))])) (fun t k => XS.goto N3.here hx rfl (pc0 := 41) (pc' := 45) rfl (hb hby at_41) (by decide) (by decide) k) ?_
      exact J8 (1 : Int32) (by simp [c11])
    · refine Ends.go (f' := (mkF m 44 #[.val (.int i0), .val (.int i1), .val (.int (42950 : Int32)), .val (.int ((i0 &&& (2147483647 : Int32)) % (100000 : Int32))), .val (.int (i1 &&& (2147483647 : Int32))), .val (.ref bs), .val (.int bo5), .unset] [])) (fun t k => XS.icmpYes N3.here hx rfl (pc0 := 37) (pc' := 44) rfl (hb hby at_37) rfl (XT.ii_ge_t c11) (by decide) (by decide) k) ?_
      refine Ends.go (f' := (mkF m 45 #[.val (.int i0), .val (.int i1), .val (.int (42950 : Int32)), .val (.int ((i0 &&& (2147483647 : Int32)) % (100000 : Int32))), .val (.int (i1 &&& (2147483647 : Int32))), .val (.ref bs), .val (.int bo5), .unset] [(.int (0 : Int32))])) (fun t k => XS.iconst N3.here hx rfl (hb hby at_44) k) ?_
      exact J8 (0 : Int32) (by simp [c11])
  intro bo9 hbo10
  refine Ends.go (f' := (mkF m 47 #[.val (.int i0), .val (.int i1), .val (.int (42950 : Int32)), .val (.int ((i0 &&& (2147483647 : Int32)) % (100000 : Int32))), .val (.int (i1 &&& (2147483647 : Int32))), .val (.ref bs), .val (.int bo5), .val (.int bo9)] [])) (fun t k => XS.istore N3.here hx rfl (hb hby at_45) rfl (l' := #[.val (.int i0), .val (.int i1), .val (.int (42950 : Int32)), .val (.int ((i0 &&& (2147483647 : Int32)) % (100000 : Int32))), .val (.int (i1 &&& (2147483647 : Int32))), .val (.ref bs), .val (.int bo5), .val (.int bo9)]) rfl k) ?_
  refine Ends.go (f' := (mkF m 49 #[.val (.int i0), .val (.int i1), .val (.int (42950 : Int32)), .val (.int ((i0 &&& (2147483647 : Int32)) % (100000 : Int32))), .val (.int (i1 &&& (2147483647 : Int32))), .val (.ref bs), .val (.int bo5), .val (.int bo9)] [(.ref bs)])) (fun t k => XS.aload N3.here hx rfl (hb hby at_47) rfl rfl k) ?_
  refine Ends.go (f' := (mkF m 50 #[.val (.int i0), .val (.int i1), .val (.int (42950 : Int32)), .val (.int ((i0 &&& (2147483647 : Int32)) % (100000 : Int32))), .val (.int (i1 &&& (2147483647 : Int32))), .val (.ref bs), .val (.int bo5), .val (.int bo9)] [(.int ((i0 &&& (2147483647 : Int32)) % (100000 : Int32))), (.ref bs)])) (fun t k => XS.iloadN N3.here hx rfl (hb hby at_49) rfl k) ?_
  have n31 : ∀ x : Int32, 0 ≤ (x &&& (2147483647 : Int32)).toInt := fun x => (c_and x (2147483647 : Int32) (by decide)).1
  have ni : 0 ≤ (((i0 &&& (2147483647 : Int32)) % (100000 : Int32))).toInt := by
      have e5 : (100000 : Int32).toInt = 100000 := rfl
      exact ((c_iremV (i0 &&& (2147483647 : Int32)) (100000 : Int32)).1 (n31 i0) (by rw [e5]; decide)).1
  refine gVirtual (W := 0) (y := (⟨"java/util/BitSet", "get", "(I)Z"⟩ : MethodName)) (z := (⟨"java/util/BitSet", "get", "(I)Z"⟩ : MethodName)) (C := "java/util/BitSet") (b := bs) (argsL := [(.int ((i0 &&& (2147483647 : Int32)) % (100000 : Int32)))]) (rest := []) N3 hx hZ hown (hw _ (List.mem_of_getElem? (i := 57) rfl)) (hw _ (List.mem_of_getElem? (i := 58) rfl)) (hw _ (List.mem_of_getElem? (i := 60) rfl)) (hw _ (List.mem_of_getElem? (i := 59) rfl)) (by decide) (notFace_of_selects (args := #[]) (mvT hZ (hw _ (List.mem_of_getElem? (i := 60) rfl)))) Sb.1 ((rmGet l Z a0 hw bs ((i0 &&& (2147483647 : Int32)) % (100000 : Int32)) h2 N3.ext Sb ni Sd).back (W := 0) hZ (hw _ (List.mem_of_getElem? (i := 61) rfl)) (hw _ (List.mem_of_getElem? (i := 9) rfl)) (nle rfl) (nle rfl)) (hb hby at_50) rfl (by rw [hml]; rfl) (lenOf (by decide +kernel : parseMethodDescriptor "(I)Z" = some ⟨[.int], (some .boolean)⟩) rfl) (nle rfl) (nle rfl) (nle rfl) (fun _ _ _ q => q.2) ?_
  rintro _ T12 _ _ N13 ⟨⟨rfl, e_h⟩, -⟩; rw [e_h] at N13; clear e_h
  show Ends p e below _ T12 (mkF m 53 #[.val (.int i0), .val (.int i1), .val (.int (42950 : Int32)), .val (.int ((i0 &&& (2147483647 : Int32)) % (100000 : Int32))), .val (.int (i1 &&& (2147483647 : Int32))), .val (.ref bs), .val (.int bo5), .val (.int bo9)] [(.int (if ((i0 &&& (2147483647 : Int32)) % (100000 : Int32)) < (42950 : Int32) then (1 : Int32) else (0 : Int32)))])
  refine Ends.go (f' := (mkF m 55 #[.val (.int i0), .val (.int i1), .val (.int (42950 : Int32)), .val (.int ((i0 &&& (2147483647 : Int32)) % (100000 : Int32))), .val (.int (i1 &&& (2147483647 : Int32))), .val (.ref bs), .val (.int bo5), .val (.int bo9)] [(.int bo5), (.int (if ((i0 &&& (2147483647 : Int32)) % (100000 : Int32)) < (42950 : Int32) then (1 : Int32) else (0 : Int32)))])) (fun t k => XS.iload N13.here hx rfl (hb hby at_53) rfl k) ?_
  refine Ends.go (f' := (mkF m 58 #[.val (.int i0), .val (.int i1), .val (.int (42950 : Int32)), .val (.int ((i0 &&& (2147483647 : Int32)) % (100000 : Int32))), .val (.int (i1 &&& (2147483647 : Int32))), .val (.ref bs), .val (.int bo5), .val (.int bo9)] [])) (fun t k => XS.icmpNo N13.here hx rfl (hb hby at_55) rfl (XT.ii_ne_f hbo6.symm) k) ?_
  refine Ends.go (f' := (mkF m 60 #[.val (.int i0), .val (.int i1), .val (.int (42950 : Int32)), .val (.int ((i0 &&& (2147483647 : Int32)) % (100000 : Int32))), .val (.int (i1 &&& (2147483647 : Int32))), .val (.ref bs), .val (.int bo5), .val (.int bo9)] [(.ref bs)])) (fun t k => XS.aload N13.here hx rfl (hb hby at_58) rfl rfl k) ?_
  refine Ends.go (f' := (mkF m 62 #[.val (.int i0), .val (.int i1), .val (.int (42950 : Int32)), .val (.int ((i0 &&& (2147483647 : Int32)) % (100000 : Int32))), .val (.int (i1 &&& (2147483647 : Int32))), .val (.ref bs), .val (.int bo5), .val (.int bo9)] [(.int (i1 &&& (2147483647 : Int32))), (.ref bs)])) (fun t k => XS.iload N13.here hx rfl (hb hby at_60) rfl k) ?_
  refine gVirtual (W := 0) (y := (⟨"java/util/BitSet", "get", "(I)Z"⟩ : MethodName)) (z := (⟨"java/util/BitSet", "get", "(I)Z"⟩ : MethodName)) (C := "java/util/BitSet") (b := bs) (argsL := [(.int (i1 &&& (2147483647 : Int32)))]) (rest := []) N13 hx hZ hown (hw _ (List.mem_of_getElem? (i := 57) rfl)) (hw _ (List.mem_of_getElem? (i := 58) rfl)) (hw _ (List.mem_of_getElem? (i := 60) rfl)) (hw _ (List.mem_of_getElem? (i := 59) rfl)) (by decide) (notFace_of_selects (args := #[]) (mvT hZ (hw _ (List.mem_of_getElem? (i := 60) rfl)))) Sb.1 ((rmGet l Z a0 hw bs (i1 &&& (2147483647 : Int32)) h2 N13.ext Sb (n31 i1) Sd).back (W := 0) hZ (hw _ (List.mem_of_getElem? (i := 61) rfl)) (hw _ (List.mem_of_getElem? (i := 9) rfl)) (nle rfl) (nle rfl)) (hb hby at_62) rfl (by rw [hml]; rfl) (lenOf (by decide +kernel : parseMethodDescriptor "(I)Z" = some ⟨[.int], (some .boolean)⟩) rfl) (nle rfl) (nle rfl) (nle rfl) (fun _ _ _ q => q.2) ?_
  rintro _ T14 _ _ N15 ⟨⟨rfl, e_h⟩, -⟩; rw [e_h] at N15; clear e_h
  show Ends p e below _ T14 (mkF m 65 #[.val (.int i0), .val (.int i1), .val (.int (42950 : Int32)), .val (.int ((i0 &&& (2147483647 : Int32)) % (100000 : Int32))), .val (.int (i1 &&& (2147483647 : Int32))), .val (.ref bs), .val (.int bo5), .val (.int bo9)] [(.int (if (i1 &&& (2147483647 : Int32)) < (42950 : Int32) then (1 : Int32) else (0 : Int32)))])
  refine Ends.go (f' := (mkF m 67 #[.val (.int i0), .val (.int i1), .val (.int (42950 : Int32)), .val (.int ((i0 &&& (2147483647 : Int32)) % (100000 : Int32))), .val (.int (i1 &&& (2147483647 : Int32))), .val (.ref bs), .val (.int bo5), .val (.int bo9)] [(.int bo9), (.int (if (i1 &&& (2147483647 : Int32)) < (42950 : Int32) then (1 : Int32) else (0 : Int32)))])) (fun t k => XS.iload N15.here hx rfl (hb hby at_65) rfl k) ?_
  refine Ends.go (f' := (mkF m 70 #[.val (.int i0), .val (.int i1), .val (.int (42950 : Int32)), .val (.int ((i0 &&& (2147483647 : Int32)) % (100000 : Int32))), .val (.int (i1 &&& (2147483647 : Int32))), .val (.ref bs), .val (.int bo5), .val (.int bo9)] [])) (fun t k => XS.icmpNo N15.here hx rfl (hb hby at_67) rfl (XT.ii_ne_f hbo10.symm) k) ?_
  refine Ends.go (f' := (mkF m 72 #[.val (.int i0), .val (.int i1), .val (.int (42950 : Int32)), .val (.int ((i0 &&& (2147483647 : Int32)) % (100000 : Int32))), .val (.int (i1 &&& (2147483647 : Int32))), .val (.ref bs), .val (.int bo5), .val (.int bo9)] [(.ref bs)])) (fun t k => XS.aload N15.here hx rfl (hb hby at_70) rfl rfl k) ?_
  refine gVirtual (W := 0) (y := (⟨"java/util/BitSet", "cardinality", "()I"⟩ : MethodName)) (z := (⟨"java/util/BitSet", "cardinality", "()I"⟩ : MethodName)) (C := "java/util/BitSet") (b := bs) (argsL := []) (rest := []) N15 hx hZ hown (hw _ (List.mem_of_getElem? (i := 62) rfl)) (hw _ (List.mem_of_getElem? (i := 63) rfl)) (hw _ (List.mem_of_getElem? (i := 65) rfl)) (hw _ (List.mem_of_getElem? (i := 64) rfl)) (by decide) (notFace_of_selects (args := #[]) (mvT hZ (hw _ (List.mem_of_getElem? (i := 65) rfl)))) Sb.1 ((rmCard l Z a0 hw bs h2 N15.ext Sb).back (W := 0) hZ (hw _ (List.mem_of_getElem? (i := 66) rfl)) (hw _ (List.mem_of_getElem? (i := 9) rfl)) (nle rfl) (nle rfl)) (hb hby at_72) rfl (by rw [hml]; rfl) (lenOf (by decide +kernel : parseMethodDescriptor "()I" = some ⟨[], (some .int)⟩) rfl) (nle rfl) (nle rfl) (nle rfl) (fun _ _ _ q => q.2) ?_
  rintro _ T16 _ _ N17 ⟨⟨rfl, e_h⟩, -⟩; rw [e_h] at N17; clear e_h
  show Ends p e below _ T16 (mkF m 75 #[.val (.int i0), .val (.int i1), .val (.int (42950 : Int32)), .val (.int ((i0 &&& (2147483647 : Int32)) % (100000 : Int32))), .val (.int (i1 &&& (2147483647 : Int32))), .val (.ref bs), .val (.int bo5), .val (.int bo9)] [(.int (42950 : Int32))])
  refine Ends.go (f' := (mkF m 76 #[.val (.int i0), .val (.int i1), .val (.int (42950 : Int32)), .val (.int ((i0 &&& (2147483647 : Int32)) % (100000 : Int32))), .val (.int (i1 &&& (2147483647 : Int32))), .val (.ref bs), .val (.int bo5), .val (.int bo9)] [(.int (42950 : Int32)), (.int (42950 : Int32))])) (fun t k => XS.iloadN N17.here hx rfl (hb hby at_75) rfl k) ?_
  refine Ends.go (f' := (mkF m 79 #[.val (.int i0), .val (.int i1), .val (.int (42950 : Int32)), .val (.int ((i0 &&& (2147483647 : Int32)) % (100000 : Int32))), .val (.int (i1 &&& (2147483647 : Int32))), .val (.ref bs), .val (.int bo5), .val (.int bo9)] [])) (fun t k => XS.icmpNo N17.here hx rfl (hb hby at_76) rfl (XT.ii_ne_f rfl) k) ?_
  refine Ends.go (f' := (mkF m 81 #[.val (.int i0), .val (.int i1), .val (.int (42950 : Int32)), .val (.int ((i0 &&& (2147483647 : Int32)) % (100000 : Int32))), .val (.int (i1 &&& (2147483647 : Int32))), .val (.ref bs), .val (.int bo5), .val (.int bo9)] [(.ref bs)])) (fun t k => XS.aload N17.here hx rfl (hb hby at_79) rfl rfl k) ?_
  refine gVirtual (W := 0) (y := (⟨"java/util/BitSet", "length", "()I"⟩ : MethodName)) (z := (⟨"java/util/BitSet", "length", "()I"⟩ : MethodName)) (C := "java/util/BitSet") (b := bs) (argsL := []) (rest := []) N17 hx hZ hown (hw _ (List.mem_of_getElem? (i := 74) rfl)) (hw _ (List.mem_of_getElem? (i := 75) rfl)) (hw _ (List.mem_of_getElem? (i := 77) rfl)) (hw _ (List.mem_of_getElem? (i := 76) rfl)) (by decide) (notFace_of_selects (args := #[]) (mvT hZ (hw _ (List.mem_of_getElem? (i := 77) rfl)))) Sb.1 ((rmLen l Z a0 hw bs h2 N17.ext Sb).back (W := 0) hZ (hw _ (List.mem_of_getElem? (i := 78) rfl)) (hw _ (List.mem_of_getElem? (i := 9) rfl)) (nle rfl) (nle rfl)) (hb hby at_81) rfl (by rw [hml]; rfl) (lenOf (by decide +kernel : parseMethodDescriptor "()I" = some ⟨[], (some .int)⟩) rfl) (nle rfl) (nle rfl) (nle rfl) (fun _ _ _ q => q.2) ?_
  rintro _ T18 _ _ N19 ⟨⟨rfl, e_h⟩, -⟩; rw [e_h] at N19; clear e_h
  show Ends p e below _ T18 (mkF m 84 #[.val (.int i0), .val (.int i1), .val (.int (42950 : Int32)), .val (.int ((i0 &&& (2147483647 : Int32)) % (100000 : Int32))), .val (.int (i1 &&& (2147483647 : Int32))), .val (.ref bs), .val (.int bo5), .val (.int bo9)] [(.int (42950 : Int32))])
  refine Ends.go (f' := (mkF m 85 #[.val (.int i0), .val (.int i1), .val (.int (42950 : Int32)), .val (.int ((i0 &&& (2147483647 : Int32)) % (100000 : Int32))), .val (.int (i1 &&& (2147483647 : Int32))), .val (.ref bs), .val (.int bo5), .val (.int bo9)] [(.int (42950 : Int32)), (.int (42950 : Int32))])) (fun t k => XS.iloadN N19.here hx rfl (hb hby at_84) rfl k) ?_
  refine Ends.go (f' := (mkF m 88 #[.val (.int i0), .val (.int i1), .val (.int (42950 : Int32)), .val (.int ((i0 &&& (2147483647 : Int32)) % (100000 : Int32))), .val (.int (i1 &&& (2147483647 : Int32))), .val (.ref bs), .val (.int bo5), .val (.int bo9)] [])) (fun t k => XS.icmpNo N19.here hx rfl (hb hby at_85) rfl (XT.ii_ne_f rfl) k) ?_
  refine Ends.go (f' := (mkF m 89 #[.val (.int i0), .val (.int i1), .val (.int (42950 : Int32)), .val (.int ((i0 &&& (2147483647 : Int32)) % (100000 : Int32))), .val (.int (i1 &&& (2147483647 : Int32))), .val (.ref bs), .val (.int bo5), .val (.int bo9)] [(.int (1 : Int32))])) (fun t k => XS.iconst N19.here hx rfl (hb hby at_88) k) ?_
  refine Ends.go (f' := (mkF m 93 #[.val (.int i0), .val (.int i1), .val (.int (42950 : Int32)), .val (.int ((i0 &&& (2147483647 : Int32)) % (100000 : Int32))), .val (.int (i1 &&& (2147483647 : Int32))), .val (.ref bs), .val (.int bo5), .val (.int bo9)] [(.int (1 : Int32))])) (fun t k => XS.goto N19.here hx rfl (pc0 := 89) (pc' := 93) rfl (hb hby at_89) (by decide) (by decide) k) ?_
  exact retZ N19 hx hlk hret (by simp) (hb hby at_93) rfl (nle rfl) (nle rfl)
set_option maxRecDepth 65536 in
set_option maxHeartbeats 40000000 in
theorem comes_1 {Post : Tables → Env → Array Value → State → Outcome → State → Prop} (hpost : ∀ tb e args s v u, (limb_1_1.after args s (.returned v) u = true ∧ limb_1_2.after args s (.returned v) u = true ∧ True) → FrameEnd s (.returned v) u (Jvm.fieldLocs frame_1_writes args s ++ Jvm.arrayLocs frame_1_arrays args s ++ Jvm.staticLocs frame_1_statics s) 16 1472 → Post tb e args s (.returned v) u) :
    ArmFor flags0 classFile x code maxLocals ret World_1 tables_1 room_1 Calls_1 rest_1 Pre_1 Post := by
  intro l hfl _ _ p e ha hc hk s m args below hf hA hF happ hP
  obtain ⟨hcalls, hrest, hpre⟩ := hP
  obtain ⟨-, -, -, hnamed, -, -, -, hat⟩ := (Spec.applies_iff hf).mp happ
  obtain ⟨hg, hn⟩ := and_e (Cond.before_iff.mp (show (Jvm.Cond.and given_1 narrow_1).before args s = true from hpre))
  obtain ⟨hct, hg0⟩ := and_e hg
  obtain ⟨ha0, hg1⟩ := and_e hg0
  obtain ⟨w0, w1, rfl⟩ : ∃ w0 w1 : Value, args = #[w0, w1] := by
    have hs : args.size = 2 := by simpa [Cond.value, given_1] using hct
    obtain ⟨L⟩ := args
    match L, hs with
    | [w0, w1], _ => exact ⟨w0, w1, rfl⟩
  have hw := fun d (hd : d ∈ tables_1) => atoms_spec (ws := Jvm.Cond.code x code maxLocals ret :: tables_1) hat d (List.mem_cons_of_mem _ hd)
  obtain ⟨hsets, hown0⟩ := atoms_of _ (rest_1_c_eq ▸ (show rest_1_c.before _ s = true from hrest))
  have hfit : Fit s := fun {y c} hc i hi => by
    obtain ⟨ha, rfl⟩ := Array.getElem?_eq_some_iff.mp hc
    have q := List.all_eq_true.mp ((Array.all_eq_true_iff_forall_mem.mp hF) _ (Array.getElem_mem ha)) i (List.mem_range.mpr hi)
    simpa [Array.getElem?_eq_getElem hi] using q
  obtain ⟨i0, ei0⟩ := is_v ha0
  obtain rfl : w0 = (.int i0) := Option.some.inj ei0
  obtain ⟨i1, ei1⟩ := is_v hg1
  obtain rfl : w1 = (.int i1) := Option.some.inj ei1
  obtain ⟨vd, evd, fvd⟩ := static_fit hfit (hsets _ (List.mem_of_getElem? (i := 0) rfl)) (ty := .boolean) (by decide)
  obtain ⟨xd, rfl⟩ := fit_I fvd (Or.inr (Or.inl rfl))
  have ed : xd = (1 : Int32) := gotT (Cond.eq_ints evd (Term.int_eval (1))) (Cond.before_iff.mp (hsets _ (List.mem_of_getElem? (i := 2) rfl)))
  subst ed
  have Sd : Sta s s.heap "java/util/BitSet" "$assertionsDisabled" "Z" (.int 1) := Sta.start evd (Or.inl (hsets _ (List.mem_of_getElem? (i := 1) rfl)))
  obtain ⟨n, o, h1, h2, h3, _, L, rfl, ⟨rfl, N⟩, hq⟩ := rmLaw l s _ hw tables_1 i0 i1 s.heap (ext_refl _) Sd p e ha hc hk s m _ below hf ((Spec.applies_iff_loose hf).mp happ).1 ⟨rfl, State.Warmed39.refl s, rfl⟩ trivial
  refine ⟨n, _, h1, h2, h3, hpost _ _ _ _ _ _ ⟨Cond.after_iff.mpr rfl, Cond.after_iff.mpr (eq_i res_at (Term.int_eval (1)) rfl), trivial⟩ ⟨hq.1, hq.2.1, (hq.2.2.sift fun y hy => Or.inr (N y hy)).mono (by decide) (by decide)⟩⟩
theorem main_1_1 : Claimed_1_1 := comes_1 fun _ _ _ _ _ _ h hF => ⟨h.1, hF⟩
theorem main_1_2 : Claimed_1_2 := comes_1 fun _ _ _ _ _ _ h hF => ⟨h.2.1, hF⟩
end Jvm.Pilot.@@N@@
namespace Jvm.Pilot.@@N@@
open Jvm Jvm.ClassFile Sem Op Lib Jvm.Free Jvm.Stand Jvm.Pilot.@@N@@.Jvm.D
/-! MADE BY PROGRAM (witnessworld.py) out of the Statement's table words and the real class files: 18 classes; the members and pool entries that the words name. The judged class is class 1, her method 1. -/
namespace start1
open Jvm.ClassFile
def u (s : String) : CpInfo := .utf8 (stringToUtf16 s)
/-- a pool by its gaps: so many unusable entries, then the entry; so many at the end -/
def gap : Nat → List CpInfo → List CpInfo
  | 0, r => r
  | n + 1, r => .unusable :: gap n r
def poolList (es : List (Nat × CpInfo)) (last : Nat) : List CpInfo := es.foldr (fun e r => gap e.1 (e.2 :: r)) (gap last [])
def pool (es : List (Nat × CpInfo)) (last : Nat) : Array CpInfo := ⟨poolList es last⟩
def fileOf (pool : Array CpInfo) (this : Nat) (attrs : Array Attribute := #[]) (ms : Array MethodInfo := #[]) (fl : Nat := 33) (sup : Nat := 0) (ifs : Array Nat := #[]) (fds : Array FieldInfo := #[]) : ClassFile where
  minorVersion := 0
  majorVersion := 65
  constantPool := pool
  accessFlags := fl
  thisClass := this
  superClass := sup
  interfaces := ifs
  fields := fds
  methods := ms
  attributes := attrs
def plain (name : String) (sup : Option ClassId) : Class where
  name := name
  kind := .ordinary
  loader := none
  accessFlags := 33
  super := sup
  interfaces := #[]
  cf := none
  fields := #[]
  methods := #[]
  instanceTypes := #[]
  staticTypes := #[]
  resolved := #[]
  callSites := []
  init := .initialized
  statics := none
  mirror := none

def pool0 : Array CpInfo := pool [(5, u "<init>"), (0, u "()V"), (1, .class_ 10), (1, u "java/lang/Object")] 113

def k0c0 : Code := { maxStack := 0, maxLocals := 1, code := object_method_1_code, exceptionTable := #[], attributes := #[] }
def k0m0 : Method := { name := "<init>", desc := "()V", sig := { parameters := [], returnType := none }, accessFlags := 1, code := some k0c0 }
/-- java/lang/Object -/
def k0 : Class := { plain "java/lang/Object" none with
  accessFlags := 33
  interfaces := #[]
  cf := some (fileOf pool0 8 #[] #[{ accessFlags := 1, nameIndex := 5, descriptorIndex := 6, attributes := #[] }] 33 0 #[] #[])
  fields := #[]
  methods := #[k0m0]
  instanceTypes := #[]
  staticTypes := #[]
  resolved := Array.replicate 124 none
  statics := none }

def pool1 : Array CpInfo := pool [(2, .class_ 4), (1, u "java/lang/Object"), (0, u "<init>"), (0, u "()V"), (2, .integer 42950), (0, .integer 2147483647), (0, .integer 100000), (0, .methodref 13 14), (0, .class_ 15), (0, .nameAndType 16 17), (0, u "com/example/askel/askel/Allocator"), (0, u "everySection"), (0, u "()Ljava/util/BitSet;"), (0, .methodref 19 20), (0, .class_ 21), (0, .nameAndType 22 23), (0, u "java/util/BitSet"), (0, u "get"), (0, u "(I)Z"), (0, .methodref 19 25), (0, .nameAndType 26 27), (0, u "cardinality"), (0, u "()I"), (0, .methodref 19 29), (0, .nameAndType 30 27), (0, u "length"), (0, .class_ 32), (0, u "com/example/askel/askel/AllocatorEverySectionPinLaw"), (2, u "law"), (0, u "(II)Z")] 3

def k1m0 : Method := { name := "<init>", desc := "()V", sig := { parameters := [], returnType := none }, accessFlags := 1, code := none }
def k1c1 : Code := { maxStack := 2, maxLocals := 8, code := code, exceptionTable := #[], attributes := #[] }
def k1m1 : Method := { name := "law", desc := "(II)Z", sig := { parameters := [.int, .int], returnType := some .boolean }, accessFlags := 9, code := some k1c1 }
/-- com/example/askel/askel/AllocatorEverySectionPinLaw -/
def k1 : Class := { plain "com/example/askel/askel/AllocatorEverySectionPinLaw" (some 0) with
  accessFlags := 49
  interfaces := #[]
  cf := some (fileOf pool1 31 #[] #[{ accessFlags := 1, nameIndex := 5, descriptorIndex := 6, attributes := #[] }, { accessFlags := 9, nameIndex := 35, descriptorIndex := 36, attributes := #[] }] 49 2 #[] #[])
  fields := #[]
  methods := #[k1m0, k1m1]
  instanceTypes := #[]
  staticTypes := #[]
  resolved := Array.replicate 40 none
  statics := none }

def pool2 : Array CpInfo := pool [(2, .class_ 4), (1, u "com/example/askel/askel/Allocator"), (0, u "everySection"), (0, u "()Ljava/util/BitSet;"), (2, u "<init>"), (2, .class_ 14), (1, u "java/lang/Object"), (5, .integer 42950), (1, .nameAndType 9 23), (0, u "(I)V"), (2, u "sections"), (0, u "Ljava/util/concurrent/atomic/AtomicReferenceArray;"), (5, u "allocations"), (0, u "Ljava/util/concurrent/atomic/LongAdder;"), (2, u "maxSeqWrites"), (11, u "store"), (0, u "Lcom/example/askel/askel/MaxSeqStore;"), (2, u "step"), (0, u "J"), (5, .class_ 62), (1, u "java/util/BitSet"), (16, .class_ 80), (0, u "com/example/askel/askel/Allocator$Section"), (5, u "set"), (1, .methodref 60 22), (0, .methodref 60 90), (0, .nameAndType 86 91), (0, u "(II)V"), (28, u "DEFAULT_STEP"), (3, u "SINGLE_READS"), (0, u "I"), (1, u "ABOVE_CEILING"), (17, .class_ 146), (0, u "com/example/askel/askel/Allocator$Waiting"), (0, .class_ 148), (0, u "com/example/askel/askel/Allocator$ExhaustedException")] 20

def k2c0 : Code := { maxStack := 3, maxLocals := 1, code := prog_1_method_4_code, exceptionTable := #[], attributes := #[] }
def k2m0 : Method := { name := "everySection", desc := "()Ljava/util/BitSet;", sig := { parameters := [], returnType := some (.object "java/util/BitSet") }, accessFlags := 8, code := some k2c0 }
/-- com/example/askel/askel/Allocator -/
def k2 : Class := { plain "com/example/askel/askel/Allocator" (some 0) with
  accessFlags := 48
  interfaces := #[]
  cf := some (fileOf pool2 2 #[.nestMembers #[145, 79, 147]] #[{ accessFlags := 8, nameIndex := 5, descriptorIndex := 6, attributes := #[] }] 48 12 #[] #[{ accessFlags := 24, nameIndex := 120, descriptorIndex := 54, attributes := #[] }, { accessFlags := 26, nameIndex := 124, descriptorIndex := 125, attributes := #[] }, { accessFlags := 26, nameIndex := 127, descriptorIndex := 54, attributes := #[] }, { accessFlags := 18, nameIndex := 49, descriptorIndex := 50, attributes := #[] }, { accessFlags := 18, nameIndex := 53, descriptorIndex := 54, attributes := #[] }, { accessFlags := 18, nameIndex := 26, descriptorIndex := 27, attributes := #[] }, { accessFlags := 18, nameIndex := 33, descriptorIndex := 34, attributes := #[] }, { accessFlags := 18, nameIndex := 37, descriptorIndex := 34, attributes := #[] }])
  fields := #[{ name := "DEFAULT_STEP", type := .long, accessFlags := 24, slot := 0, constantValue := 0 }, { name := "SINGLE_READS", type := .int, accessFlags := 26, slot := 1, constantValue := 0 }, { name := "ABOVE_CEILING", type := .long, accessFlags := 26, slot := 2, constantValue := 0 }, { name := "store", type := (.object "com/example/askel/askel/MaxSeqStore"), accessFlags := 18, slot := 0, constantValue := 0 }, { name := "step", type := .long, accessFlags := 18, slot := 1, constantValue := 0 }, { name := "sections", type := (.object "java/util/concurrent/atomic/AtomicReferenceArray"), accessFlags := 18, slot := 2, constantValue := 0 }, { name := "allocations", type := (.object "java/util/concurrent/atomic/LongAdder"), accessFlags := 18, slot := 3, constantValue := 0 }, { name := "maxSeqWrites", type := (.object "java/util/concurrent/atomic/LongAdder"), accessFlags := 18, slot := 4, constantValue := 0 }]
  methods := #[k2m0]
  instanceTypes := #[(.object "com/example/askel/askel/MaxSeqStore"), .long, (.object "java/util/concurrent/atomic/AtomicReferenceArray"), (.object "java/util/concurrent/atomic/LongAdder"), (.object "java/util/concurrent/atomic/LongAdder")]
  staticTypes := #[.long, .int, .long]
  resolved := Array.replicate 169 none
  statics := none }

def pool3 : Array CpInfo := pool [(1, .class_ 2), (0, u "java/lang/Cloneable"), (0, .class_ 4), (0, u "java/lang/Object")] 2

/-- java/lang/Cloneable -/
def k3 : Class := { plain "java/lang/Cloneable" (some 0) with
  accessFlags := 1537
  interfaces := #[]
  cf := some (fileOf pool3 1 #[] #[] 1537 3 #[] #[])
  fields := #[]
  methods := #[]
  instanceTypes := #[]
  staticTypes := #[]
  resolved := Array.replicate 7 none
  statics := none }

def pool4 : Array CpInfo := pool [(1, .class_ 2), (0, u "java/io/Serializable"), (0, .class_ 4), (0, u "java/lang/Object")] 2

/-- java/io/Serializable -/
def k4 : Class := { plain "java/io/Serializable" (some 0) with
  accessFlags := 1537
  interfaces := #[]
  cf := some (fileOf pool4 1 #[] #[] 1537 3 #[] #[])
  fields := #[]
  methods := #[]
  instanceTypes := #[]
  staticTypes := #[]
  resolved := Array.replicate 7 none
  statics := none }

def pool5 : Array CpInfo := pool [(1, .class_ 2), (0, u "java/util/BitSet"), (0, .fieldref 1 4), (0, .nameAndType 5 6), (0, u "$assertionsDisabled"), (0, u "Z"), (0, .fieldref 1 8), (0, .nameAndType 9 10), (0, u "wordsInUse"), (0, u "I"), (0, .fieldref 1 12), (0, .nameAndType 13 14), (0, u "words"), (0, u "[J"), (3, .nameAndType 19 20), (0, u "<init>"), (0, u "()V"), (0, .methodref 22 18), (0, .class_ 23), (0, u "java/lang/Object"), (0, .fieldref 1 25), (0, .nameAndType 26 6), (0, u "sizeIsSticky"), (0, .methodref 1 28), (0, .nameAndType 29 30), (0, u "initWords"), (0, u "(I)V"), (21, .methodref 1 53), (0, .nameAndType 54 55), (0, u "wordIndex"), (0, u "(I)I"), (0, .methodref 1 57), (0, .nameAndType 58 20), (0, u "checkInvariants"), (18, u "()I"), (2, u "get"), (58, .methodref 1 140), (0, .nameAndType 141 30), (0, u "ensureCapacity"), (13, .methodref 1 156), (0, .nameAndType 157 30), (0, u "expandTo"), (3, .methodref 1 162), (0, .nameAndType 163 164), (0, u "checkRange"), (0, u "(II)V"), (0, .long 18446744073709551615), (3, u "set"), (9, u "length"), (3, .class_ 185), (1, u "java/lang/Long"), (1, u "(J)I"), (2, .methodref 183 191), (0, .nameAndType 192 187), (0, u "numberOfLeadingZeros"), (3, .methodref 183 197), (0, .nameAndType 198 187), (0, u "bitCount"), (56, u "cardinality"), (13, .class_ 270), (0, u "java/util/BitSet$1BitSetSpliterator"), (22, u "serialPersistentFields"), (0, u "[Ljava/io/ObjectStreamField;"), (0, .class_ 296), (0, u "java/lang/Cloneable"), (0, .class_ 298), (0, u "java/io/Serializable"), (0, u "ADDRESS_BITS_PER_WORD"), (2, u "BITS_PER_WORD"), (1, u "BIT_INDEX_MASK"), (1, u "WORD_MASK"), (0, u "J"), (0, u "serialVersionUID"), (42, u "(I)Z")] 65

def k5c0 : Code := { maxStack := 2, maxLocals := 1, code := jdk_92_method_1_code, exceptionTable := #[], attributes := #[] }
def k5m0 : Method := { name := "wordIndex", desc := "(I)I", sig := { parameters := [.int], returnType := some .int }, accessFlags := 10, code := some k5c0 }
def k5c1 : Code := { maxStack := 4, maxLocals := 1, code := jdk_92_method_2_code, exceptionTable := #[], attributes := #[] }
def k5m1 : Method := { name := "checkInvariants", desc := "()V", sig := { parameters := [], returnType := none }, accessFlags := 2, code := some k5c1 }
def k5m2 : Method := { name := "<init>", desc := "()V", sig := { parameters := [], returnType := none }, accessFlags := 1, code := none }
def k5c3 : Code := { maxStack := 4, maxLocals := 2, code := jdk_92_method_5_code, exceptionTable := #[], attributes := #[] }
def k5m3 : Method := { name := "<init>", desc := "(I)V", sig := { parameters := [.int], returnType := none }, accessFlags := 1, code := some k5c3 }
def k5c4 : Code := { maxStack := 3, maxLocals := 2, code := jdk_92_method_6_code, exceptionTable := #[], attributes := #[] }
def k5m4 : Method := { name := "initWords", desc := "(I)V", sig := { parameters := [.int], returnType := none }, accessFlags := 2, code := some k5c4 }
def k5c5 : Code := { maxStack := 3, maxLocals := 3, code := jdk_92_method_14_code, exceptionTable := #[], attributes := #[] }
def k5m5 : Method := { name := "ensureCapacity", desc := "(I)V", sig := { parameters := [.int], returnType := none }, accessFlags := 2, code := some k5c5 }
def k5c6 : Code := { maxStack := 2, maxLocals := 3, code := jdk_92_method_15_code, exceptionTable := #[], attributes := #[] }
def k5m6 : Method := { name := "expandTo", desc := "(I)V", sig := { parameters := [.int], returnType := none }, accessFlags := 2, code := some k5c6 }
def k5c7 : Code := { maxStack := 4, maxLocals := 2, code := jdk_92_method_16_code, exceptionTable := #[], attributes := #[] }
def k5m7 : Method := { name := "checkRange", desc := "(II)V", sig := { parameters := [.int, .int], returnType := none }, accessFlags := 10, code := some k5c7 }
def k5c8 : Code := { maxStack := 8, maxLocals := 10, code := jdk_92_method_21_code, exceptionTable := #[], attributes := #[] }
def k5m8 : Method := { name := "set", desc := "(II)V", sig := { parameters := [.int, .int], returnType := none }, accessFlags := 1, code := some k5c8 }
def k5c9 : Code := { maxStack := 5, maxLocals := 3, code := jdk_92_method_26_code, exceptionTable := #[], attributes := #[] }
def k5m9 : Method := { name := "get", desc := "(I)Z", sig := { parameters := [.int], returnType := some .boolean }, accessFlags := 1, code := some k5c9 }
def k5c10 : Code := { maxStack := 5, maxLocals := 1, code := jdk_92_method_32_code, exceptionTable := #[], attributes := #[] }
def k5m10 : Method := { name := "length", desc := "()I", sig := { parameters := [], returnType := some .int }, accessFlags := 1, code := some k5c10 }
def k5c11 : Code := { maxStack := 3, maxLocals := 3, code := jdk_92_method_35_code, exceptionTable := #[], attributes := #[] }
def k5m11 : Method := { name := "cardinality", desc := "()I", sig := { parameters := [], returnType := some .int }, accessFlags := 1, code := some k5c11 }
/-- java/util/BitSet -/
def k5 : Class := { plain "java/util/BitSet" (some 0) with
  accessFlags := 33
  interfaces := #[3, 4]
  cf := some (fileOf pool5 1 #[.nestMembers #[269]] #[{ accessFlags := 10, nameIndex := 54, descriptorIndex := 55, attributes := #[] }, { accessFlags := 2, nameIndex := 58, descriptorIndex := 20, attributes := #[] }, { accessFlags := 1, nameIndex := 19, descriptorIndex := 20, attributes := #[] }, { accessFlags := 1, nameIndex := 19, descriptorIndex := 30, attributes := #[] }, { accessFlags := 2, nameIndex := 29, descriptorIndex := 30, attributes := #[] }, { accessFlags := 2, nameIndex := 141, descriptorIndex := 30, attributes := #[] }, { accessFlags := 2, nameIndex := 157, descriptorIndex := 30, attributes := #[] }, { accessFlags := 10, nameIndex := 163, descriptorIndex := 164, attributes := #[] }, { accessFlags := 1, nameIndex := 169, descriptorIndex := 164, attributes := #[] }, { accessFlags := 1, nameIndex := 80, descriptorIndex := 351, attributes := #[] }, { accessFlags := 1, nameIndex := 179, descriptorIndex := 77, attributes := #[] }, { accessFlags := 1, nameIndex := 255, descriptorIndex := 77, attributes := #[] }] 33 22 #[295, 297] #[{ accessFlags := 26, nameIndex := 299, descriptorIndex := 10, attributes := #[] }, { accessFlags := 26, nameIndex := 302, descriptorIndex := 10, attributes := #[] }, { accessFlags := 26, nameIndex := 304, descriptorIndex := 10, attributes := #[] }, { accessFlags := 26, nameIndex := 306, descriptorIndex := 307, attributes := #[] }, { accessFlags := 26, nameIndex := 293, descriptorIndex := 294, attributes := #[] }, { accessFlags := 2, nameIndex := 13, descriptorIndex := 14, attributes := #[] }, { accessFlags := 130, nameIndex := 9, descriptorIndex := 10, attributes := #[] }, { accessFlags := 130, nameIndex := 26, descriptorIndex := 6, attributes := #[] }, { accessFlags := 26, nameIndex := 308, descriptorIndex := 307, attributes := #[] }, { accessFlags := 4120, nameIndex := 5, descriptorIndex := 6, attributes := #[] }])
  fields := #[{ name := "ADDRESS_BITS_PER_WORD", type := .int, accessFlags := 26, slot := 0, constantValue := 0 }, { name := "BITS_PER_WORD", type := .int, accessFlags := 26, slot := 1, constantValue := 0 }, { name := "BIT_INDEX_MASK", type := .int, accessFlags := 26, slot := 2, constantValue := 0 }, { name := "WORD_MASK", type := .long, accessFlags := 26, slot := 3, constantValue := 0 }, { name := "serialPersistentFields", type := (.array (.object "java/io/ObjectStreamField")), accessFlags := 26, slot := 4, constantValue := 0 }, { name := "words", type := (.array .long), accessFlags := 2, slot := 0, constantValue := 0 }, { name := "wordsInUse", type := .int, accessFlags := 130, slot := 1, constantValue := 0 }, { name := "sizeIsSticky", type := .boolean, accessFlags := 130, slot := 2, constantValue := 0 }, { name := "serialVersionUID", type := .long, accessFlags := 26, slot := 5, constantValue := 0 }, { name := "$assertionsDisabled", type := .boolean, accessFlags := 4120, slot := 6, constantValue := 0 }]
  methods := #[k5m0, k5m1, k5m2, k5m3, k5m4, k5m5, k5m6, k5m7, k5m8, k5m9, k5m10, k5m11]
  instanceTypes := #[(.array .long), .int, .boolean]
  staticTypes := #[.int, .int, .int, .long, (.array (.object "java/io/ObjectStreamField")), .long, .boolean]
  resolved := Array.replicate 417 none
  statics := some 0 }

def pool6 : Array CpInfo := pool [(2, .class_ 4), (1, u "java/lang/Object"), (0, u "<init>"), (0, u "()V"), (1, .class_ 10), (1, u "java/lang/Number"), (2, .class_ 14), (0, u "java/io/Serializable"), (0, u "serialVersionUID"), (0, u "J")] 20

def k6m0 : Method := { name := "<init>", desc := "()V", sig := { parameters := [], returnType := none }, accessFlags := 1, code := none }
/-- java/lang/Number -/
def k6 : Class := { plain "java/lang/Number" (some 0) with
  accessFlags := 1057
  interfaces := #[4]
  cf := some (fileOf pool6 8 #[] #[{ accessFlags := 1, nameIndex := 5, descriptorIndex := 6, attributes := #[] }] 1057 2 #[13] #[{ accessFlags := 26, nameIndex := 15, descriptorIndex := 16, attributes := #[] }])
  fields := #[{ name := "serialVersionUID", type := .long, accessFlags := 26, slot := 0, constantValue := 0 }]
  methods := #[k6m0]
  instanceTypes := #[]
  staticTypes := #[.long]
  resolved := Array.replicate 37 none
  statics := none }

def pool7 : Array CpInfo := pool [(1, .class_ 2), (0, u "java/lang/Comparable"), (0, .class_ 4), (0, u "java/lang/Object")] 7

/-- java/lang/Comparable -/
def k7 : Class := { plain "java/lang/Comparable" (some 0) with
  accessFlags := 1537
  interfaces := #[]
  cf := some (fileOf pool7 1 #[] #[] 1537 3 #[] #[])
  fields := #[]
  methods := #[]
  instanceTypes := #[]
  staticTypes := #[]
  resolved := Array.replicate 12 none
  statics := none }

def pool8 : Array CpInfo := pool [(1, .class_ 2), (0, u "java/lang/constant/Constable"), (0, .class_ 4), (0, u "java/lang/Object")] 6

/-- java/lang/constant/Constable -/
def k8 : Class := { plain "java/lang/constant/Constable" (some 0) with
  accessFlags := 1537
  interfaces := #[]
  cf := some (fileOf pool8 1 #[] #[] 1537 3 #[] #[])
  fields := #[]
  methods := #[]
  instanceTypes := #[]
  staticTypes := #[]
  resolved := Array.replicate 11 none
  statics := none }

def pool9 : Array CpInfo := pool [(1, .class_ 2), (0, u "java/lang/constant/ConstantDesc"), (0, .class_ 4), (0, u "java/lang/Object")] 32

/-- java/lang/constant/ConstantDesc -/
def k9 : Class := { plain "java/lang/constant/ConstantDesc" (some 0) with
  accessFlags := 1537
  interfaces := #[]
  cf := some (fileOf pool9 1 #[] #[] 1537 3 #[] #[])
  fields := #[]
  methods := #[]
  instanceTypes := #[]
  staticTypes := #[]
  resolved := Array.replicate 37 none
  statics := none }

def pool10 : Array CpInfo := pool [(1, .class_ 2), (0, u "java/lang/Long"), (15, .class_ 20), (1, u "java/lang/Integer"), (79, u "numberOfLeadingZeros"), (0, u "(J)I"), (133, .class_ 237), (1, u "java/lang/Long$LongCache"), (33, .class_ 272), (0, u "java/lang/Number"), (2, u "value"), (0, u "J"), (31, .methodref 18 309), (0, .nameAndType 100 310), (0, u "(I)I"), (3, .long 6148914691236517205), (1, .long 3689348814741910323), (1, .long 1085102592571150095), (42, u "TYPE"), (0, u "Ljava/lang/Class;"), (0, .class_ 364), (0, u "java/lang/Comparable"), (0, .class_ 366), (0, u "java/lang/constant/Constable"), (0, .class_ 368), (0, u "java/lang/constant/ConstantDesc"), (0, u "MIN_VALUE"), (1, u "MAX_VALUE"), (4, u "SIZE"), (0, u "I"), (1, u "BYTES"), (1, u "serialVersionUID"), (94, u "bitCount")] 47

def k10c0 : Code := { maxStack := 3, maxLocals := 3, code := jdk_35_method_48_code, exceptionTable := #[], attributes := #[] }
def k10m0 : Method := { name := "numberOfLeadingZeros", desc := "(J)I", sig := { parameters := [.long], returnType := some .int }, accessFlags := 9, code := some k10c0 }
def k10c1 : Code := { maxStack := 6, maxLocals := 2, code := jdk_35_method_50_code, exceptionTable := #[], attributes := #[] }
def k10m1 : Method := { name := "bitCount", desc := "(J)I", sig := { parameters := [.long], returnType := some .int }, accessFlags := 9, code := some k10c1 }
/-- java/lang/Long -/
def k10 : Class := { plain "java/lang/Long" (some 6) with
  accessFlags := 49
  interfaces := #[7, 8, 9]
  cf := some (fileOf pool10 1 #[.nestMembers #[235]] #[{ accessFlags := 9, nameIndex := 100, descriptorIndex := 101, attributes := #[] }, { accessFlags := 9, nameIndex := 476, descriptorIndex := 101, attributes := #[] }] 49 271 #[363, 365, 367] #[{ accessFlags := 25, nameIndex := 369, descriptorIndex := 276, attributes := #[] }, { accessFlags := 25, nameIndex := 371, descriptorIndex := 276, attributes := #[] }, { accessFlags := 25, nameIndex := 361, descriptorIndex := 362, attributes := #[] }, { accessFlags := 18, nameIndex := 275, descriptorIndex := 276, attributes := #[] }, { accessFlags := 25, nameIndex := 376, descriptorIndex := 377, attributes := #[] }, { accessFlags := 25, nameIndex := 379, descriptorIndex := 377, attributes := #[] }, { accessFlags := 26, nameIndex := 381, descriptorIndex := 276, attributes := #[] }])
  fields := #[{ name := "MIN_VALUE", type := .long, accessFlags := 25, slot := 0, constantValue := 0 }, { name := "MAX_VALUE", type := .long, accessFlags := 25, slot := 1, constantValue := 0 }, { name := "TYPE", type := (.object "java/lang/Class"), accessFlags := 25, slot := 2, constantValue := 0 }, { name := "value", type := .long, accessFlags := 18, slot := 0, constantValue := 0 }, { name := "SIZE", type := .int, accessFlags := 25, slot := 3, constantValue := 0 }, { name := "BYTES", type := .int, accessFlags := 25, slot := 4, constantValue := 0 }, { name := "serialVersionUID", type := .long, accessFlags := 26, slot := 5, constantValue := 0 }]
  methods := #[k10m0, k10m1]
  instanceTypes := #[.long]
  staticTypes := #[.long, .long, (.object "java/lang/Class"), .int, .int, .long]
  resolved := Array.replicate 524 none
  statics := none }

def pool11 : Array CpInfo := pool [(1, .class_ 2), (0, u "java/lang/Integer"), (16, u "digits"), (0, u "[C"), (32, u "numberOfLeadingZeros"), (0, u "(I)I"), (30, u "DigitOnes"), (0, u "[B"), (2, u "DigitTens"), (99, .class_ 190), (0, u "java/lang/Integer$IntegerCache"), (3, u "I"), (8, .class_ 204), (0, u "java/lang/Number"), (2, u "value"), (56, .integer 65536), (37, u "TYPE"), (0, u "Ljava/lang/Class;"), (0, .class_ 305), (0, u "java/lang/Comparable"), (0, .class_ 307), (0, u "java/lang/constant/Constable"), (0, .class_ 309), (0, u "java/lang/constant/ConstantDesc"), (0, u "MIN_VALUE"), (1, u "MAX_VALUE"), (3, u "SIZE"), (1, u "BYTES"), (1, u "serialVersionUID"), (0, u "J")] 131

def k11c0 : Code := { maxStack := 3, maxLocals := 2, code := jdk_33_method_47_code, exceptionTable := #[], attributes := #[] }
def k11m0 : Method := { name := "numberOfLeadingZeros", desc := "(I)I", sig := { parameters := [.int], returnType := some .int }, accessFlags := 9, code := some k11c0 }
/-- java/lang/Integer -/
def k11 : Class := { plain "java/lang/Integer" (some 6) with
  accessFlags := 49
  interfaces := #[7, 8, 9]
  cf := some (fileOf pool11 1 #[.nestMembers #[189]] #[{ accessFlags := 9, nameIndex := 53, descriptorIndex := 54, attributes := #[] }] 49 203 #[304, 306, 308] #[{ accessFlags := 25, nameIndex := 310, descriptorIndex := 194, attributes := #[] }, { accessFlags := 25, nameIndex := 312, descriptorIndex := 194, attributes := #[] }, { accessFlags := 25, nameIndex := 302, descriptorIndex := 303, attributes := #[] }, { accessFlags := 24, nameIndex := 19, descriptorIndex := 20, attributes := #[] }, { accessFlags := 24, nameIndex := 89, descriptorIndex := 86, attributes := #[] }, { accessFlags := 24, nameIndex := 85, descriptorIndex := 86, attributes := #[] }, { accessFlags := 18, nameIndex := 207, descriptorIndex := 194, attributes := #[] }, { accessFlags := 25, nameIndex := 316, descriptorIndex := 194, attributes := #[] }, { accessFlags := 25, nameIndex := 318, descriptorIndex := 194, attributes := #[] }, { accessFlags := 26, nameIndex := 320, descriptorIndex := 321, attributes := #[] }])
  fields := #[{ name := "MIN_VALUE", type := .int, accessFlags := 25, slot := 0, constantValue := 0 }, { name := "MAX_VALUE", type := .int, accessFlags := 25, slot := 1, constantValue := 0 }, { name := "TYPE", type := (.object "java/lang/Class"), accessFlags := 25, slot := 2, constantValue := 0 }, { name := "digits", type := (.array .char), accessFlags := 24, slot := 3, constantValue := 0 }, { name := "DigitTens", type := (.array .byte), accessFlags := 24, slot := 4, constantValue := 0 }, { name := "DigitOnes", type := (.array .byte), accessFlags := 24, slot := 5, constantValue := 0 }, { name := "value", type := .int, accessFlags := 18, slot := 0, constantValue := 0 }, { name := "SIZE", type := .int, accessFlags := 25, slot := 6, constantValue := 0 }, { name := "BYTES", type := .int, accessFlags := 25, slot := 7, constantValue := 0 }, { name := "serialVersionUID", type := .long, accessFlags := 26, slot := 8, constantValue := 0 }]
  methods := #[k11m0]
  instanceTypes := #[.int]
  staticTypes := #[.int, .int, (.object "java/lang/Class"), (.array .char), (.array .byte), (.array .byte), .int, .int, .long]
  resolved := Array.replicate 453 none
  statics := none }

/-- the primitive byte -/
def k12 : Class := { plain "byte" none with kind := .primitive 'B', accessFlags := 0x411 }
/-- [B -/
def k13 : Class := { plain "[B" (some 0) with kind := .array 12 .byte, interfaces := #[3, 4], accessFlags := 1041 }

/-- the primitive int -/
def k14 : Class := { plain "int" none with kind := .primitive 'I', accessFlags := 0x411 }
/-- [I -/
def k15 : Class := { plain "[I" (some 0) with kind := .array 14 .int, interfaces := #[3, 4], accessFlags := 1041 }

/-- the primitive long -/
def k16 : Class := { plain "long" none with kind := .primitive 'J', accessFlags := 0x411 }
/-- [J -/
def k17 : Class := { plain "[J" (some 0) with kind := .array 16 .long, interfaces := #[3, 4], accessFlags := 1041 }

def heap : Heap := #[{ cls := 5, slots := #[.int 0, .int 0, .int 0, .long 0, .null, .long 0, .int 1], vm := .statics 5 }]
def classes : Array Class := #[k0, k1, k2, k3, k4, k5, k6, k7, k8, k9, k10, k11, k12, k13, k14, k15, k16, k17]
def interned : List (Array UInt16 × Addr) := []
def slotsUsed : Nat := 7
def theMethod : MethodId := ⟨1, 1⟩
def args0 : Array Value := #[.int 5, .int 50000]
def aboutOver (below : List Frame) : State where
  vm := { classes := classes, interned := interned.toArray }
  heap := heap
  slotsUsed := slotsUsed
  threads := #[{ frames := .invoking theMethod args0 :: below }]
def below0 : List Frame := [.native { method := ⟨0, 0⟩, args := #[] }]
def about1 : State := aboutOver below0
def p0 : Program := .bare "" "" ""
def e0 : Env := launch0.env 0 0 0
theorem w_frames : about1.frames = Frame.invoking theMethod args0 :: below0 := rfl
set_option maxRecDepth 65536 in
theorem w_args : argsFit about1.vm theMethod args0 = true := by decide +kernel
set_option maxRecDepth 65536 in
theorem w_heap : heapFits about1 = true := by decide +kernel
set_option maxRecDepth 65536 in
theorem w_runnable : about1.curStatus? = some .runnable := by decide +kernel
set_option maxRecDepth 65536 in
theorem w_alone : about1.alone = true := by decide +kernel
set_option maxRecDepth 65536 in
theorem w_named : about1.methodNamed? x = some theMethod := by decide +kernel
set_option maxRecDepth 65536 in
theorem w_hears : about1.hears theMethod below0 = true := by decide +kernel
set_option maxRecDepth 65536 in
theorem w_ripe : about1.ripe theMethod args0 below0 = true := by decide +kernel
theorem w_running : about1.status = .running := rfl
set_option maxRecDepth 65536 in
theorem w_room : about1.hasRoom e0.platform room_1 = true :=
  launch0.hasRoom_least _ room_1 (by decide +kernel) (by decide +kernel) (by decide +kernel) (by decide +kernel) (by decide +kernel) (by decide +kernel)
theorem allAtoms_all (ts : List Jvm.Cond) (a : Array Jvm.Value) (st : Jvm.State) : (allAtoms ts).before a st = ts.all (fun c => c.before a st) := by
  induction ts with
  | nil => rfl
  | cons c t ih =>
    show (Jvm.Cond.and c (allAtoms t)).before a st = _
    rw [Jvm.Cond.before_and, ih, List.all_cons]
def words1 : List Jvm.Cond := Jvm.Cond.code x code maxLocals ret :: tables_1
/-- a 'code' word, met by the world's own term for the bytes: nothing is compared byte by byte -/
theorem code_word {y : MethodName} {bytes : ByteArray} {mx : Nat} {rt : Option FieldType} {a : Array Value} {s : State} {m : MethodId} {meth : Method} {c : Code} (h1 : s.methodNamed? y = some m) (h2 : s.vm.method? m = some meth) (h3 : meth.code = some c) (h4 : c.code = bytes)
    (h5 : (c.maxLocals == mx && c.exceptionTable.isEmpty && decide (c.maxStack ≤ mostOperands) && decide (meth.sig.returnType = rt) && !meth.locks && decide (parseMethodDescriptor y.desc = some meth.sig)) = true) : (Jvm.Cond.code y bytes mx rt).before a s = true := by
  simp only [Bool.and_eq_true, beq_iff_eq, Bool.not_eq_true', decide_eq_true_eq] at h5
  obtain ⟨⟨⟨⟨⟨g1, g2⟩, g3⟩, g4⟩, g5⟩, g6⟩ := h5
  simp [Cond.before, Cond.holds, Cond.value, h1, h2, h3, h4, g1, g2, g3, g4, g5, g6]
def isCode : Jvm.Cond → Bool
  | .code _ _ _ _ => true
  | _ => false
theorem all_split {L : List Jvm.Cond} {P : Jvm.Cond → Bool} (h1 : L.all (fun c => isCode c || P c) = true) (h2 : ∀ c ∈ L.filter isCode, P c = true) : L.all P = true := by
  refine List.all_eq_true.mpr fun c hc => ?_
  have h := List.all_eq_true.mp h1 c hc
  rcases Bool.eq_false_or_eq_true (isCode c) with hi | hi
  · exact h2 c (List.mem_filter.mpr ⟨hc, hi⟩)
  · simpa [hi] using h
set_option maxRecDepth 65536 in
theorem w_c0 : (Jvm.Cond.code x code maxLocals ret).before args0 about1 = true := code_word (m := ⟨1, 1⟩) (meth := k1m1) (c := k1c1) (by decide +kernel) rfl rfl rfl (by decide +kernel)
set_option maxRecDepth 65536 in
theorem w_c1 : (Jvm.Cond.code ({ cls := "com/example/askel/askel/Allocator", name := "everySection", desc := "()Ljava/util/BitSet;" } : Jvm.MethodName) prog_1_method_4_code (1 : Nat) (Option.some (Jvm.ClassFile.FieldType.object "java/util/BitSet"))).before args0 about1 = true := code_word (m := ⟨2, 0⟩) (meth := k2m0) (c := k2c0) (by decide +kernel) rfl rfl rfl (by decide +kernel)
set_option maxRecDepth 65536 in
theorem w_c2 : (Jvm.Cond.code ({ cls := "java/util/BitSet", name := "<init>", desc := "(I)V" } : Jvm.MethodName) jdk_92_method_5_code (2 : Nat) (Option.none : Option Jvm.ClassFile.FieldType)).before args0 about1 = true := code_word (m := ⟨5, 3⟩) (meth := k5m3) (c := k5c3) (by decide +kernel) rfl rfl rfl (by decide +kernel)
set_option maxRecDepth 65536 in
theorem w_c3 : (Jvm.Cond.code ({ cls := "java/lang/Object", name := "<init>", desc := "()V" } : Jvm.MethodName) object_method_1_code (1 : Nat) (Option.none : Option Jvm.ClassFile.FieldType)).before args0 about1 = true := code_word (m := ⟨0, 0⟩) (meth := k0m0) (c := k0c0) (by decide +kernel) rfl rfl rfl (by decide +kernel)
set_option maxRecDepth 65536 in
theorem w_c4 : (Jvm.Cond.code ({ cls := "java/util/BitSet", name := "initWords", desc := "(I)V" } : Jvm.MethodName) jdk_92_method_6_code (2 : Nat) (Option.none : Option Jvm.ClassFile.FieldType)).before args0 about1 = true := code_word (m := ⟨5, 4⟩) (meth := k5m4) (c := k5c4) (by decide +kernel) rfl rfl rfl (by decide +kernel)
set_option maxRecDepth 65536 in
theorem w_c5 : (Jvm.Cond.code ({ cls := "java/util/BitSet", name := "wordIndex", desc := "(I)I" } : Jvm.MethodName) jdk_92_method_1_code (1 : Nat) (Option.some Jvm.ClassFile.FieldType.int)).before args0 about1 = true := code_word (m := ⟨5, 0⟩) (meth := k5m0) (c := k5c0) (by decide +kernel) rfl rfl rfl (by decide +kernel)
set_option maxRecDepth 65536 in
theorem w_c6 : (Jvm.Cond.code ({ cls := "java/util/BitSet", name := "set", desc := "(II)V" } : Jvm.MethodName) jdk_92_method_21_code (10 : Nat) (Option.none : Option Jvm.ClassFile.FieldType)).before args0 about1 = true := code_word (m := ⟨5, 8⟩) (meth := k5m8) (c := k5c8) (by decide +kernel) rfl rfl rfl (by decide +kernel)
set_option maxRecDepth 65536 in
theorem w_c7 : (Jvm.Cond.code ({ cls := "java/util/BitSet", name := "checkRange", desc := "(II)V" } : Jvm.MethodName) jdk_92_method_16_code (2 : Nat) (Option.none : Option Jvm.ClassFile.FieldType)).before args0 about1 = true := code_word (m := ⟨5, 7⟩) (meth := k5m7) (c := k5c7) (by decide +kernel) rfl rfl rfl (by decide +kernel)
set_option maxRecDepth 65536 in
theorem w_c8 : (Jvm.Cond.code ({ cls := "java/util/BitSet", name := "expandTo", desc := "(I)V" } : Jvm.MethodName) jdk_92_method_15_code (3 : Nat) (Option.none : Option Jvm.ClassFile.FieldType)).before args0 about1 = true := code_word (m := ⟨5, 6⟩) (meth := k5m6) (c := k5c6) (by decide +kernel) rfl rfl rfl (by decide +kernel)
set_option maxRecDepth 65536 in
theorem w_c9 : (Jvm.Cond.code ({ cls := "java/util/BitSet", name := "ensureCapacity", desc := "(I)V" } : Jvm.MethodName) jdk_92_method_14_code (3 : Nat) (Option.none : Option Jvm.ClassFile.FieldType)).before args0 about1 = true := code_word (m := ⟨5, 5⟩) (meth := k5m5) (c := k5c5) (by decide +kernel) rfl rfl rfl (by decide +kernel)
set_option maxRecDepth 65536 in
theorem w_c10 : (Jvm.Cond.code ({ cls := "java/util/BitSet", name := "checkInvariants", desc := "()V" } : Jvm.MethodName) jdk_92_method_2_code (1 : Nat) (Option.none : Option Jvm.ClassFile.FieldType)).before args0 about1 = true := code_word (m := ⟨5, 1⟩) (meth := k5m1) (c := k5c1) (by decide +kernel) rfl rfl rfl (by decide +kernel)
set_option maxRecDepth 65536 in
theorem w_c11 : (Jvm.Cond.code ({ cls := "java/util/BitSet", name := "get", desc := "(I)Z" } : Jvm.MethodName) jdk_92_method_26_code (3 : Nat) (Option.some Jvm.ClassFile.FieldType.boolean)).before args0 about1 = true := code_word (m := ⟨5, 9⟩) (meth := k5m9) (c := k5c9) (by decide +kernel) rfl rfl rfl (by decide +kernel)
set_option maxRecDepth 65536 in
theorem w_c12 : (Jvm.Cond.code ({ cls := "java/util/BitSet", name := "cardinality", desc := "()I" } : Jvm.MethodName) jdk_92_method_35_code (3 : Nat) (Option.some Jvm.ClassFile.FieldType.int)).before args0 about1 = true := code_word (m := ⟨5, 11⟩) (meth := k5m11) (c := k5c11) (by decide +kernel) rfl rfl rfl (by decide +kernel)
set_option maxRecDepth 65536 in
theorem w_c13 : (Jvm.Cond.code ({ cls := "java/lang/Long", name := "bitCount", desc := "(J)I" } : Jvm.MethodName) jdk_35_method_50_code (2 : Nat) (Option.some Jvm.ClassFile.FieldType.int)).before args0 about1 = true := code_word (m := ⟨10, 1⟩) (meth := k10m1) (c := k10c1) (by decide +kernel) rfl rfl rfl (by decide +kernel)
set_option maxRecDepth 65536 in
theorem w_c14 : (Jvm.Cond.code ({ cls := "java/util/BitSet", name := "length", desc := "()I" } : Jvm.MethodName) jdk_92_method_32_code (1 : Nat) (Option.some Jvm.ClassFile.FieldType.int)).before args0 about1 = true := code_word (m := ⟨5, 10⟩) (meth := k5m10) (c := k5c10) (by decide +kernel) rfl rfl rfl (by decide +kernel)
set_option maxRecDepth 65536 in
theorem w_c15 : (Jvm.Cond.code ({ cls := "java/lang/Long", name := "numberOfLeadingZeros", desc := "(J)I" } : Jvm.MethodName) jdk_35_method_48_code (3 : Nat) (Option.some Jvm.ClassFile.FieldType.int)).before args0 about1 = true := code_word (m := ⟨10, 0⟩) (meth := k10m0) (c := k10c0) (by decide +kernel) rfl rfl rfl (by decide +kernel)
set_option maxRecDepth 65536 in
theorem w_c16 : (Jvm.Cond.code ({ cls := "java/lang/Integer", name := "numberOfLeadingZeros", desc := "(I)I" } : Jvm.MethodName) jdk_33_method_47_code (2 : Nat) (Option.some Jvm.ClassFile.FieldType.int)).before args0 about1 = true := code_word (m := ⟨11, 0⟩) (meth := k11m0) (c := k11c0) (by decide +kernel) rfl rfl rfl (by decide +kernel)
def codes1 : List Jvm.Cond := [Jvm.Cond.code x code maxLocals ret, Jvm.Cond.code ({ cls := "com/example/askel/askel/Allocator", name := "everySection", desc := "()Ljava/util/BitSet;" } : Jvm.MethodName) prog_1_method_4_code (1 : Nat) (Option.some (Jvm.ClassFile.FieldType.object "java/util/BitSet")), Jvm.Cond.code ({ cls := "java/util/BitSet", name := "<init>", desc := "(I)V" } : Jvm.MethodName) jdk_92_method_5_code (2 : Nat) (Option.none : Option Jvm.ClassFile.FieldType), Jvm.Cond.code ({ cls := "java/lang/Object", name := "<init>", desc := "()V" } : Jvm.MethodName) object_method_1_code (1 : Nat) (Option.none : Option Jvm.ClassFile.FieldType), Jvm.Cond.code ({ cls := "java/util/BitSet", name := "initWords", desc := "(I)V" } : Jvm.MethodName) jdk_92_method_6_code (2 : Nat) (Option.none : Option Jvm.ClassFile.FieldType), Jvm.Cond.code ({ cls := "java/util/BitSet", name := "wordIndex", desc := "(I)I" } : Jvm.MethodName) jdk_92_method_1_code (1 : Nat) (Option.some Jvm.ClassFile.FieldType.int), Jvm.Cond.code ({ cls := "java/util/BitSet", name := "set", desc := "(II)V" } : Jvm.MethodName) jdk_92_method_21_code (10 : Nat) (Option.none : Option Jvm.ClassFile.FieldType), Jvm.Cond.code ({ cls := "java/util/BitSet", name := "checkRange", desc := "(II)V" } : Jvm.MethodName) jdk_92_method_16_code (2 : Nat) (Option.none : Option Jvm.ClassFile.FieldType), Jvm.Cond.code ({ cls := "java/util/BitSet", name := "expandTo", desc := "(I)V" } : Jvm.MethodName) jdk_92_method_15_code (3 : Nat) (Option.none : Option Jvm.ClassFile.FieldType), Jvm.Cond.code ({ cls := "java/util/BitSet", name := "ensureCapacity", desc := "(I)V" } : Jvm.MethodName) jdk_92_method_14_code (3 : Nat) (Option.none : Option Jvm.ClassFile.FieldType), Jvm.Cond.code ({ cls := "java/util/BitSet", name := "checkInvariants", desc := "()V" } : Jvm.MethodName) jdk_92_method_2_code (1 : Nat) (Option.none : Option Jvm.ClassFile.FieldType), Jvm.Cond.code ({ cls := "java/util/BitSet", name := "get", desc := "(I)Z" } : Jvm.MethodName) jdk_92_method_26_code (3 : Nat) (Option.some Jvm.ClassFile.FieldType.boolean), Jvm.Cond.code ({ cls := "java/util/BitSet", name := "cardinality", desc := "()I" } : Jvm.MethodName) jdk_92_method_35_code (3 : Nat) (Option.some Jvm.ClassFile.FieldType.int), Jvm.Cond.code ({ cls := "java/lang/Long", name := "bitCount", desc := "(J)I" } : Jvm.MethodName) jdk_35_method_50_code (2 : Nat) (Option.some Jvm.ClassFile.FieldType.int), Jvm.Cond.code ({ cls := "java/util/BitSet", name := "length", desc := "()I" } : Jvm.MethodName) jdk_92_method_32_code (1 : Nat) (Option.some Jvm.ClassFile.FieldType.int), Jvm.Cond.code ({ cls := "java/lang/Long", name := "numberOfLeadingZeros", desc := "(J)I" } : Jvm.MethodName) jdk_35_method_48_code (3 : Nat) (Option.some Jvm.ClassFile.FieldType.int), Jvm.Cond.code ({ cls := "java/lang/Integer", name := "numberOfLeadingZeros", desc := "(I)I" } : Jvm.MethodName) jdk_33_method_47_code (2 : Nat) (Option.some Jvm.ClassFile.FieldType.int)]
set_option maxRecDepth 65536 in
theorem codes_eq : words1.filter isCode = codes1 := rfl
theorem w_codes : ∀ c ∈ words1.filter isCode, c.before args0 about1 = true := by
  rw [codes_eq]
  intro c hc
  simp only [codes1, List.mem_cons, List.not_mem_nil, or_false] at hc
  rcases hc with rfl | rfl | rfl | rfl | rfl | rfl | rfl | rfl | rfl | rfl | rfl | rfl | rfl | rfl | rfl | rfl | rfl
  · exact w_c0
  · exact w_c1
  · exact w_c2
  · exact w_c3
  · exact w_c4
  · exact w_c5
  · exact w_c6
  · exact w_c7
  · exact w_c8
  · exact w_c9
  · exact w_c10
  · exact w_c11
  · exact w_c12
  · exact w_c13
  · exact w_c14
  · exact w_c15
  · exact w_c16
set_option maxRecDepth 65536 in
theorem w_t1 : (words1.take 24).all (fun c => isCode c || c.before args0 about1) = true := by decide +kernel
set_option maxRecDepth 65536 in
theorem w_t2 : ((words1.drop 24).take 24).all (fun c => isCode c || c.before args0 about1) = true := by decide +kernel
set_option maxRecDepth 65536 in
theorem w_t3 : (((words1.drop 24).drop 24).take 24).all (fun c => isCode c || c.before args0 about1) = true := by decide +kernel
set_option maxRecDepth 65536 in
theorem w_t4 : (((words1.drop 24).drop 24).drop 24).all (fun c => isCode c || c.before args0 about1) = true := by decide +kernel
theorem w_tables : (allAtoms (Jvm.Cond.code x code maxLocals ret :: tables_1)).before args0 about1 = true := by
  rw [allAtoms_all]
  show words1.all (fun c => c.before args0 about1) = true
  refine all_split ?_ w_codes
  rw [← List.take_append_drop 24 words1, List.all_append, w_t1, ← List.take_append_drop 24 (words1.drop 24), List.all_append, w_t2, ← List.take_append_drop 24 ((words1.drop 24).drop 24), List.all_append, w_t3, w_t4]
  rfl
set_option maxRecDepth 65536 in
theorem w_rest : rest_1_c.before args0 about1 = true := by decide +kernel
set_option maxRecDepth 65536 in
theorem w_case : (Jvm.Cond.and given_1 narrow_1).before args0 about1 = true := by decide +kernel
theorem w_applies : (headSpec (Jvm.Cond.code x code maxLocals ret :: tables_1) room_1).applies x e0.platform about1 = true :=
  (Spec.applies_iff w_frames).mpr ⟨w_running, w_runnable, w_alone, w_named, w_hears, w_ripe, w_room, w_tables⟩
theorem atStart : AtStart classFile x code maxLocals ret World_1 tables_1 room_1 Calls_1 rest_1 Pre_1 launch0 p0 e0 about1 theMethod args0 below0 :=
  ⟨lists_1, trivial, launch0.admits_env _ _ _, launch0.least_env, fairChoices_fair.cas, fairChoices_fair.clock, w_frames, w_args, w_heap, w_applies, trivial, w_rest, w_case⟩
end start1
theorem witness_1 : WitnessClaimed_1 := ⟨start1.p0, start1.e0, start1.about1, start1.theMethod, start1.args0, start1.below0, start1.atStart⟩
end Jvm.Pilot.@@N@@
