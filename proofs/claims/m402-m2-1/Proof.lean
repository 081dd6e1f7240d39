import JvmDerived
import JvmDerived.Pilot.@@N@@Statement
import JvmDerived.Pilot.@@N@@Code
set_option linter.unusedVariables false
set_option linter.unusedSimpArgs false
@@BLOCK:NumsL.lean.txt@@
namespace Jvm.Pilot.@@N@@
open Jvm Jvm.ClassFile Sem Op Lib Jvm.Free Jvm.Stand Jvm.LawKit Jvm.RoadKit Bundle Jvm.Pilot.@@N@@.Jvm.D
section Kit
variable {p : Program} {l : Launch} {e : Env} {R : Room} {s : State} {m : MethodId} {args : Array Value} {below : List Frame} {meth : Method} {c : Code} {T : State} {locs : List Loc} {cells slots : Nat} {Z : State} {a0 : Array Value} {h : Heap}
variable {Q : Option Value → Heap → List Loc → Prop} {C S : Nat} {pc pc' : Nat} {Ls Ls' : Array Slot} {rest : List Value}
/-- the goal of a walk: from the state σ the run comes to its end, which is as Q says -/
def Go (p : Program) (e : Env) (below : List Frame) (s : State) (Q : Option Value → Heap → List Loc → Prop) (C S : Nat) (σ : State) : Prop :=
  ∃ s₂ o, Steps p.tables e below σ s₂ ∧ s₂.status = .running ∧ Ended s₂ below o ∧ ∃ v L, o = .returned v ∧ Q v s₂.heap L ∧ FrameEnd s o s₂ L C S
theorem Go.step {σ τ : State} (st : ∀ t, Steps p.tables e below τ t → Steps p.tables e below σ t) (k : Go p e below s Q C S τ) : Go p e below s Q C S σ := by
  obtain ⟨s₂, o, h1, h2⟩ := k
  exact ⟨s₂, o, st _ h1, h2⟩
theorem Go.mono {Q' : Option Value → Heap → List Loc → Prop} {σ : State} (k : Go p e below s Q C S σ) (hq : ∀ v h L, Q v h L → Q' v h L) : Go p e below s Q' C S σ := by
  obtain ⟨s₂, o, h1, h2, h3, v, L, h4, h5, h6⟩ := k
  exact ⟨s₂, o, h1, h2, h3, v, L, h4, hq _ _ _ h5, h6⟩
/-- a join: the road behind it is walked once -/
theorem w_j1 {A0 : Type} {σ : State} (F : A0 → State) (P : A0 → Prop) (hJ : ∀ a0, P a0 → Go p e below s Q C S (F a0)) (hB : (∀ a0, P a0 → Go p e below s Q C S (F a0)) → Go p e below s Q C S σ) : Go p e below s Q C S σ := hB hJ
theorem w_j2 {A0 A1 : Type} {σ : State} (F : A0 → A1 → State) (P : A0 → A1 → Prop) (hJ : ∀ a0 a1, P a0 a1 → Go p e below s Q C S (F a0 a1)) (hB : (∀ a0 a1, P a0 a1 → Go p e below s Q C S (F a0 a1)) → Go p e below s Q C S σ) : Go p e below s Q C S σ := hB hJ
theorem w_j3 {A0 A1 A2 : Type} {σ : State} (F : A0 → A1 → A2 → State) (P : A0 → A1 → A2 → Prop) (hJ : ∀ a0 a1 a2, P a0 a1 a2 → Go p e below s Q C S (F a0 a1 a2)) (hB : (∀ a0 a1 a2, P a0 a1 a2 → Go p e below s Q C S (F a0 a1 a2)) → Go p e below s Q C S σ) : Go p e below s Q C S σ := hB hJ
theorem w_j4 {A0 A1 A2 A3 : Type} {σ : State} (F : A0 → A1 → A2 → A3 → State) (P : A0 → A1 → A2 → A3 → Prop) (hJ : ∀ a0 a1 a2 a3, P a0 a1 a2 a3 → Go p e below s Q C S (F a0 a1 a2 a3)) (hB : (∀ a0 a1 a2 a3, P a0 a1 a2 a3 → Go p e below s Q C S (F a0 a1 a2 a3)) → Go p e below s Q C S σ) : Go p e below s Q C S σ := hB hJ
theorem w_j5 {A0 A1 A2 A3 A4 : Type} {σ : State} (F : A0 → A1 → A2 → A3 → A4 → State) (P : A0 → A1 → A2 → A3 → A4 → Prop) (hJ : ∀ a0 a1 a2 a3 a4, P a0 a1 a2 a3 a4 → Go p e below s Q C S (F a0 a1 a2 a3 a4)) (hB : (∀ a0 a1 a2 a3 a4, P a0 a1 a2 a3 a4 → Go p e below s Q C S (F a0 a1 a2 a3 a4)) → Go p e below s Q C S σ) : Go p e below s Q C S σ := hB hJ
theorem w_j6 {A0 A1 A2 A3 A4 A5 : Type} {σ : State} (F : A0 → A1 → A2 → A3 → A4 → A5 → State) (P : A0 → A1 → A2 → A3 → A4 → A5 → Prop) (hJ : ∀ a0 a1 a2 a3 a4 a5, P a0 a1 a2 a3 a4 a5 → Go p e below s Q C S (F a0 a1 a2 a3 a4 a5)) (hB : (∀ a0 a1 a2 a3 a4 a5, P a0 a1 a2 a3 a4 a5 → Go p e below s Q C S (F a0 a1 a2 a3 a4 a5)) → Go p e below s Q C S σ) : Go p e below s Q C S σ := hB hJ
theorem w_j7 {A0 A1 A2 A3 A4 A5 A6 : Type} {σ : State} (F : A0 → A1 → A2 → A3 → A4 → A5 → A6 → State) (P : A0 → A1 → A2 → A3 → A4 → A5 → A6 → Prop) (hJ : ∀ a0 a1 a2 a3 a4 a5 a6, P a0 a1 a2 a3 a4 a5 a6 → Go p e below s Q C S (F a0 a1 a2 a3 a4 a5 a6)) (hB : (∀ a0 a1 a2 a3 a4 a5 a6, P a0 a1 a2 a3 a4 a5 a6 → Go p e below s Q C S (F a0 a1 a2 a3 a4 a5 a6)) → Go p e below s Q C S σ) : Go p e below s Q C S σ := hB hJ
theorem w_eqI {x z : Int32} (hz : x = z) (k : Go p e below s Q C S (T.setTop (mkF m pc Ls (.int z :: rest)))) : Go p e below s Q C S (T.setTop (mkF m pc Ls (.int x :: rest))) := hz ▸ k
theorem w_eqJ {x z : Int64} (hz : x = z) (k : Go p e below s Q C S (T.setTop (mkF m pc Ls (.long z :: rest)))) : Go p e below s Q C S (T.setTop (mkF m pc Ls (.long x :: rest))) := hz ▸ k
def Dc (code : ByteArray) (pc : Nat) (i : Instr) (n pc' : Nat) : Prop := decode code pc = .ok (i, n) ∧ pc + n = pc'
def Dj (code : ByteArray) (pc : Nat) (i : Instr) (o : Int) (pcT pcF : Nat) : Prop := decode code pc = .ok (i, 3) ∧ 0 ≤ (pc : Int) + o ∧ ((pc : Int) + o).toNat = pcT ∧ pc + 3 = pcF
theorem dq {code : ByteArray} {i : Instr} {n : Nat} (hq : c.code = code) (d : Dc code pc i n pc') : Dc c.code pc i n pc' := hq ▸ d
theorem dj {code : ByteArray} {i : Instr} {o : Int} {pcT pcF : Nat} (hq : c.code = code) (d : Dj code pc i o pcT pcF) : Dj c.code pc i o pcT pcF := hq ▸ d
abbrev St (p : Program) (l : Launch) (e : Env) (R : Room) (s : State) (m : MethodId) (args : Array Value) (below : List Frame) (meth : Method) (c : Code) (T : State) (locs : List Loc) (cells slots : Nat) : Prop := Stand p l e R s m args below meth c T locs cells slots
/-! loads, stores, constants -/
theorem w_iload (X : Stand p l e R s m args below meth c T locs cells slots) (hx : p.tables.exec = Jvm.exec) {n : Nat} {z : Int32} (hd : Dc c.code pc (.iload n) 2 pc') (hl : Ls[n]? = some (.val (.int z))) (k : Go p e below s Q C S (T.setTop (mkF m pc' Ls (.int z :: rest)))) : Go p e below s Q C S (T.setTop (mkF m pc Ls (rest))) := by
  obtain ⟨hd, rfl⟩ := hd; exact k.step fun _ t => XS.iload X.here hx rfl hd hl t
theorem w_iloadN (X : Stand p l e R s m args below meth c T locs cells slots) (hx : p.tables.exec = Jvm.exec) {n : Fin 4} {z : Int32} (hd : Dc c.code pc (.iload_n n) 1 pc') (hl : Ls[n.val]? = some (.val (.int z))) (k : Go p e below s Q C S (T.setTop (mkF m pc' Ls (.int z :: rest)))) : Go p e below s Q C S (T.setTop (mkF m pc Ls (rest))) := by
  obtain ⟨hd, rfl⟩ := hd; exact k.step fun _ t => XS.iloadN X.here hx rfl hd hl t
theorem w_istore (X : Stand p l e R s m args below meth c T locs cells slots) (hx : p.tables.exec = Jvm.exec) {n : Nat} {x z : Int32} (hd : Dc c.code pc (.istore n) 2 pc') (hz : z = x) (hs : storeLocals Ls n (.int z) = some Ls') (k : Go p e below s Q C S (T.setTop (mkF m pc' Ls' (rest)))) : Go p e below s Q C S (T.setTop (mkF m pc Ls (.int x :: rest))) := by
  obtain ⟨hd, rfl⟩ := hd; subst hz; exact k.step fun _ t => XS.istore X.here hx rfl hd rfl hs t
theorem w_istoreN (X : Stand p l e R s m args below meth c T locs cells slots) (hx : p.tables.exec = Jvm.exec) {n : Fin 4} {x z : Int32} (hd : Dc c.code pc (.istore_n n) 1 pc') (hz : z = x) (hs : storeLocals Ls n.val (.int z) = some Ls') (k : Go p e below s Q C S (T.setTop (mkF m pc' Ls' (rest)))) : Go p e below s Q C S (T.setTop (mkF m pc Ls (.int x :: rest))) := by
  obtain ⟨hd, rfl⟩ := hd; subst hz; exact k.step fun _ t => XS.istoreN X.here hx rfl hd rfl hs t
theorem w_lload (X : Stand p l e R s m args below meth c T locs cells slots) (hx : p.tables.exec = Jvm.exec) {n : Nat} {z : Int64} (hd : Dc c.code pc (.lload n) 2 pc') (hl : Ls[n]? = some (.val (.long z))) (k : Go p e below s Q C S (T.setTop (mkF m pc' Ls (.long z :: rest)))) : Go p e below s Q C S (T.setTop (mkF m pc Ls (rest))) := by
  obtain ⟨hd, rfl⟩ := hd; exact k.step fun _ t => XS.lload X.here hx rfl hd hl t
theorem w_lloadN (X : Stand p l e R s m args below meth c T locs cells slots) (hx : p.tables.exec = Jvm.exec) {n : Fin 4} {z : Int64} (hd : Dc c.code pc (.lload_n n) 1 pc') (hl : Ls[n.val]? = some (.val (.long z))) (k : Go p e below s Q C S (T.setTop (mkF m pc' Ls (.long z :: rest)))) : Go p e below s Q C S (T.setTop (mkF m pc Ls (rest))) := by
  obtain ⟨hd, rfl⟩ := hd; exact k.step fun _ t => XS.lloadN X.here hx rfl hd hl t
theorem w_lstore (X : Stand p l e R s m args below meth c T locs cells slots) (hx : p.tables.exec = Jvm.exec) {n : Nat} {x z : Int64} (hd : Dc c.code pc (.lstore n) 2 pc') (hz : z = x) (hs : storeLocals Ls n (.long z) = some Ls') (k : Go p e below s Q C S (T.setTop (mkF m pc' Ls' (rest)))) : Go p e below s Q C S (T.setTop (mkF m pc Ls (.long x :: rest))) := by
  obtain ⟨hd, rfl⟩ := hd; subst hz; exact k.step fun _ t => XS.lstore X.here hx rfl hd rfl hs t
theorem w_lstoreN (X : Stand p l e R s m args below meth c T locs cells slots) (hx : p.tables.exec = Jvm.exec) {n : Fin 4} {x z : Int64} (hd : Dc c.code pc (.lstore_n n) 1 pc') (hz : z = x) (hs : storeLocals Ls n.val (.long z) = some Ls') (k : Go p e below s Q C S (T.setTop (mkF m pc' Ls' (rest)))) : Go p e below s Q C S (T.setTop (mkF m pc Ls (.long x :: rest))) := by
  obtain ⟨hd, rfl⟩ := hd; subst hz; exact k.step fun _ t => XS.lstoreN X.here hx rfl hd rfl hs t
theorem w_aload (X : Stand p l e R s m args below meth c T locs cells slots) (hx : p.tables.exec = Jvm.exec) {n : Nat} {v : Value} (hd : Dc c.code pc (.aload n) 2 pc') (hl : Ls[n]? = some (.val v)) (hv : v.isRef = true) (k : Go p e below s Q C S (T.setTop (mkF m pc' Ls (v :: rest)))) : Go p e below s Q C S (T.setTop (mkF m pc Ls (rest))) := by
  obtain ⟨hd, rfl⟩ := hd; exact k.step fun _ t => XS.aload X.here hx rfl hd hl hv t
theorem w_aloadN (X : Stand p l e R s m args below meth c T locs cells slots) (hx : p.tables.exec = Jvm.exec) {n : Fin 4} {v : Value} (hd : Dc c.code pc (.aload_n n) 1 pc') (hl : Ls[n.val]? = some (.val v)) (hv : v.isRef = true) (k : Go p e below s Q C S (T.setTop (mkF m pc' Ls (v :: rest)))) : Go p e below s Q C S (T.setTop (mkF m pc Ls (rest))) := by
  obtain ⟨hd, rfl⟩ := hd; exact k.step fun _ t => XS.aloadN X.here hx rfl hd hl hv t
theorem w_astore (X : Stand p l e R s m args below meth c T locs cells slots) (hx : p.tables.exec = Jvm.exec) {n : Nat} {v : Value} (hd : Dc c.code pc (.astore n) 2 pc') (hv : v.isRef = true) (hs : storeLocals Ls n v = some Ls') (k : Go p e below s Q C S (T.setTop (mkF m pc' Ls' (rest)))) : Go p e below s Q C S (T.setTop (mkF m pc Ls (v :: rest))) := by
  obtain ⟨hd, rfl⟩ := hd; exact k.step fun _ t => XS.astore X.here hx rfl hd rfl hv hs t
theorem w_astoreN (X : Stand p l e R s m args below meth c T locs cells slots) (hx : p.tables.exec = Jvm.exec) {n : Fin 4} {v : Value} (hd : Dc c.code pc (.astore_n n) 1 pc') (hv : v.isRef = true) (hs : storeLocals Ls n.val v = some Ls') (k : Go p e below s Q C S (T.setTop (mkF m pc' Ls' (rest)))) : Go p e below s Q C S (T.setTop (mkF m pc Ls (v :: rest))) := by
  obtain ⟨hd, rfl⟩ := hd; exact k.step fun _ t => XS.astoreN X.here hx rfl hd rfl hv hs t
theorem w_iconst (X : Stand p l e R s m args below meth c T locs cells slots) (hx : p.tables.exec = Jvm.exec) {i : Int} {z : Int32} (hd : Dc c.code pc (.iconst i) 1 pc') (hz : Int32.ofInt i = z) (k : Go p e below s Q C S (T.setTop (mkF m pc' Ls (.int z :: rest)))) : Go p e below s Q C S (T.setTop (mkF m pc Ls rest)) := by
  obtain ⟨hd, rfl⟩ := hd; subst hz; exact k.step fun _ t => XS.iconst X.here hx rfl hd t
theorem w_bipush (X : Stand p l e R s m args below meth c T locs cells slots) (hx : p.tables.exec = Jvm.exec) {i : Int} {z : Int32} (hd : Dc c.code pc (.bipush i) 2 pc') (hz : (Int8.ofInt i).toInt32 = z) (k : Go p e below s Q C S (T.setTop (mkF m pc' Ls (.int z :: rest)))) : Go p e below s Q C S (T.setTop (mkF m pc Ls rest)) := by
  obtain ⟨hd, rfl⟩ := hd; subst hz; exact k.step fun _ t => XS.bipush X.here hx rfl hd t
theorem w_sipush (X : Stand p l e R s m args below meth c T locs cells slots) (hx : p.tables.exec = Jvm.exec) {i : Int} {z : Int32} (hd : Dc c.code pc (.sipush i) 3 pc') (hz : (Int16.ofInt i).toInt32 = z) (k : Go p e below s Q C S (T.setTop (mkF m pc' Ls (.int z :: rest)))) : Go p e below s Q C S (T.setTop (mkF m pc Ls rest)) := by
  obtain ⟨hd, rfl⟩ := hd; subst hz; exact k.step fun _ t => XS.sipush X.here hx rfl hd t
theorem w_lconst (X : Stand p l e R s m args below meth c T locs cells slots) (hx : p.tables.exec = Jvm.exec) {i : Fin 2} {z : Int64} (hd : Dc c.code pc (.lconst i) 1 pc') (hz : Int64.ofNat i = z) (k : Go p e below s Q C S (T.setTop (mkF m pc' Ls (.long z :: rest)))) : Go p e below s Q C S (T.setTop (mkF m pc Ls rest)) := by
  obtain ⟨hd, rfl⟩ := hd; subst hz; exact k.step fun _ t => XS.lconst X.here hx rfl hd t
theorem w_null (X : Stand p l e R s m args below meth c T locs cells slots) (hx : p.tables.exec = Jvm.exec) (hd : Dc c.code pc .aconst_null 1 pc') (k : Go p e below s Q C S (T.setTop (mkF m pc' Ls (.null :: rest)))) : Go p e below s Q C S (T.setTop (mkF m pc Ls rest)) := by
  obtain ⟨hd, rfl⟩ := hd; exact k.step fun _ t => XS.aconstNull X.here hx rfl hd t
theorem w_ldc (X : Stand p l e R s m args below meth c T locs cells slots) (hx : p.tables.exec = Jvm.exec) (hZ : Z.Warmed39 s.vm) {own : String} {index : Nat} {z : Int32} (hown : s.vm.findClass own = some m.cls) (w : (Jvm.Cond.constant own index z).before a0 Z = true) (hd : Dc c.code pc (.ldc index) 2 pc') (k : Go p e below s Q C S (T.setTop (mkF m pc' Ls (.int z :: rest)))) : Go p e below s Q C S (T.setTop (mkF m pc Ls rest)) := by
  obtain ⟨hd, rfl⟩ := hd; exact k.step fun t q => X.ldcInt hx hown (mvT hZ w) (g := mkF m pc Ls rest) rfl hd t q
theorem w_ldcw (X : Stand p l e R s m args below meth c T locs cells slots) (hx : p.tables.exec = Jvm.exec) (hZ : Z.Warmed39 s.vm) {own : String} {index : Nat} {z : Int32} (hown : s.vm.findClass own = some m.cls) (w : (Jvm.Cond.constant own index z).before a0 Z = true) (hd : Dc c.code pc (.ldc_w index) 3 pc') (k : Go p e below s Q C S (T.setTop (mkF m pc' Ls (.int z :: rest)))) : Go p e below s Q C S (T.setTop (mkF m pc Ls rest)) := by
  obtain ⟨hd, rfl⟩ := hd; exact k.step fun t q => X.ldcwInt hx hown (mvT hZ w) (g := mkF m pc Ls rest) rfl hd t q
theorem w_ldc2 (X : Stand p l e R s m args below meth c T locs cells slots) (hx : p.tables.exec = Jvm.exec) (hZ : Z.Warmed39 s.vm) {own : String} {index : Nat} {z : Int64} (hown : s.vm.findClass own = some m.cls) (w : (Jvm.Cond.constantLong own index z).before a0 Z = true) (hd : Dc c.code pc (.ldc2_w index) 3 pc') (k : Go p e below s Q C S (T.setTop (mkF m pc' Ls (.long z :: rest)))) : Go p e below s Q C S (T.setTop (mkF m pc Ls rest)) := by
  obtain ⟨hd, rfl⟩ := hd; exact k.step fun t q => X.ldc2Long hx hown (mvT hZ w) (g := mkF m pc Ls rest) rfl hd t q
theorem w_iinc (X : Stand p l e R s m args below meth c T locs cells slots) (hx : p.tables.exec = Jvm.exec) {n : Nat} {i : Int} {x z : Int32} (hd : Dc c.code pc (.iinc n i) 3 pc') (hl : Ls[n]? = some (.val (.int x))) (hz : x + Int32.ofInt i = z) (hs : storeLocals Ls n (.int z) = some Ls') (k : Go p e below s Q C S (T.setTop (mkF m pc' Ls' rest))) : Go p e below s Q C S (T.setTop (mkF m pc Ls rest)) := by
  obtain ⟨hd, rfl⟩ := hd; subst hz; exact k.step fun _ t => XS.iinc X.here hx rfl hd hl hs t
/-! arithmetic -/
def IShl (x y : Int32) : Int32 := x <<< (y &&& 31)
def IShr (x y : Int32) : Int32 := x >>> (y &&& 31)
def IUshr (x y : Int32) : Int32 := (x.toUInt32 >>> (y &&& 31).toUInt32).toInt32
def LShl (x : Int64) (y : Int32) : Int64 := x <<< (y &&& 0x3f).toInt64
def LShr (x : Int64) (y : Int32) : Int64 := x >>> (y &&& 0x3f).toInt64
def LUshr (x : Int64) (y : Int32) : Int64 := (x.toUInt64 >>> (y &&& 0x3f).toInt64.toUInt64).toInt64
theorem w_iadd (X : Stand p l e R s m args below meth c T locs cells slots) (hx : p.tables.exec = Jvm.exec) {x y : Int32} (hd : Dc c.code pc .iadd 1 pc') (k : Go p e below s Q C S (T.setTop (mkF m pc' Ls (.int (x + y) :: rest)))) : Go p e below s Q C S (T.setTop (mkF m pc Ls (.int y :: .int x :: rest))) := by
  obtain ⟨hd, rfl⟩ := hd; exact k.step fun _ t => XS.iadd X.here hx rfl hd rfl t
theorem w_isub (X : Stand p l e R s m args below meth c T locs cells slots) (hx : p.tables.exec = Jvm.exec) {x y : Int32} (hd : Dc c.code pc .isub 1 pc') (k : Go p e below s Q C S (T.setTop (mkF m pc' Ls (.int (x - y) :: rest)))) : Go p e below s Q C S (T.setTop (mkF m pc Ls (.int y :: .int x :: rest))) := by
  obtain ⟨hd, rfl⟩ := hd; exact k.step fun _ t => XS.isub X.here hx rfl hd rfl t
theorem w_imul (X : Stand p l e R s m args below meth c T locs cells slots) (hx : p.tables.exec = Jvm.exec) {x y : Int32} (hd : Dc c.code pc .imul 1 pc') (k : Go p e below s Q C S (T.setTop (mkF m pc' Ls (.int (x * y) :: rest)))) : Go p e below s Q C S (T.setTop (mkF m pc Ls (.int y :: .int x :: rest))) := by
  obtain ⟨hd, rfl⟩ := hd; exact k.step fun _ t => XS.imul X.here hx rfl hd rfl t
theorem w_iand (X : Stand p l e R s m args below meth c T locs cells slots) (hx : p.tables.exec = Jvm.exec) {x y : Int32} (hd : Dc c.code pc .iand 1 pc') (k : Go p e below s Q C S (T.setTop (mkF m pc' Ls (.int (x &&& y) :: rest)))) : Go p e below s Q C S (T.setTop (mkF m pc Ls (.int y :: .int x :: rest))) := by
  obtain ⟨hd, rfl⟩ := hd; exact k.step fun _ t => XS.iand X.here hx rfl hd rfl t
theorem w_ior (X : Stand p l e R s m args below meth c T locs cells slots) (hx : p.tables.exec = Jvm.exec) {x y : Int32} (hd : Dc c.code pc .ior 1 pc') (k : Go p e below s Q C S (T.setTop (mkF m pc' Ls (.int (x ||| y) :: rest)))) : Go p e below s Q C S (T.setTop (mkF m pc Ls (.int y :: .int x :: rest))) := by
  obtain ⟨hd, rfl⟩ := hd; exact k.step fun _ t => XS.ior X.here hx rfl hd rfl t
theorem w_ixor (X : Stand p l e R s m args below meth c T locs cells slots) (hx : p.tables.exec = Jvm.exec) {x y : Int32} (hd : Dc c.code pc .ixor 1 pc') (k : Go p e below s Q C S (T.setTop (mkF m pc' Ls (.int (x ^^^ y) :: rest)))) : Go p e below s Q C S (T.setTop (mkF m pc Ls (.int y :: .int x :: rest))) := by
  obtain ⟨hd, rfl⟩ := hd; exact k.step fun _ t => XS.ixor X.here hx rfl hd rfl t
theorem w_ishl (X : Stand p l e R s m args below meth c T locs cells slots) (hx : p.tables.exec = Jvm.exec) {x : Int32} {y : Int32} (hd : Dc c.code pc .ishl 1 pc') (k : Go p e below s Q C S (T.setTop (mkF m pc' Ls (.int (IShl x y) :: rest)))) : Go p e below s Q C S (T.setTop (mkF m pc Ls (.int y :: .int x :: rest))) := by
  obtain ⟨hd, rfl⟩ := hd; exact k.step fun _ t => XS.ishl X.here hx rfl hd rfl t
theorem w_ishr (X : Stand p l e R s m args below meth c T locs cells slots) (hx : p.tables.exec = Jvm.exec) {x : Int32} {y : Int32} (hd : Dc c.code pc .ishr 1 pc') (k : Go p e below s Q C S (T.setTop (mkF m pc' Ls (.int (IShr x y) :: rest)))) : Go p e below s Q C S (T.setTop (mkF m pc Ls (.int y :: .int x :: rest))) := by
  obtain ⟨hd, rfl⟩ := hd; exact k.step fun _ t => XS.ishr X.here hx rfl hd rfl t
theorem w_iushr (X : Stand p l e R s m args below meth c T locs cells slots) (hx : p.tables.exec = Jvm.exec) {x : Int32} {y : Int32} (hd : Dc c.code pc .iushr 1 pc') (k : Go p e below s Q C S (T.setTop (mkF m pc' Ls (.int (IUshr x y) :: rest)))) : Go p e below s Q C S (T.setTop (mkF m pc Ls (.int y :: .int x :: rest))) := by
  obtain ⟨hd, rfl⟩ := hd; exact k.step fun _ t => XS.iushr X.here hx rfl hd rfl t
theorem w_ladd (X : Stand p l e R s m args below meth c T locs cells slots) (hx : p.tables.exec = Jvm.exec) {x y : Int64} (hd : Dc c.code pc .ladd 1 pc') (k : Go p e below s Q C S (T.setTop (mkF m pc' Ls (.long (x + y) :: rest)))) : Go p e below s Q C S (T.setTop (mkF m pc Ls (.long y :: .long x :: rest))) := by
  obtain ⟨hd, rfl⟩ := hd; exact k.step fun _ t => XS.ladd X.here hx rfl hd rfl t
theorem w_lsub (X : Stand p l e R s m args below meth c T locs cells slots) (hx : p.tables.exec = Jvm.exec) {x y : Int64} (hd : Dc c.code pc .lsub 1 pc') (k : Go p e below s Q C S (T.setTop (mkF m pc' Ls (.long (x - y) :: rest)))) : Go p e below s Q C S (T.setTop (mkF m pc Ls (.long y :: .long x :: rest))) := by
  obtain ⟨hd, rfl⟩ := hd; exact k.step fun _ t => XS.lsub X.here hx rfl hd rfl t
theorem w_lmul (X : Stand p l e R s m args below meth c T locs cells slots) (hx : p.tables.exec = Jvm.exec) {x y : Int64} (hd : Dc c.code pc .lmul 1 pc') (k : Go p e below s Q C S (T.setTop (mkF m pc' Ls (.long (x * y) :: rest)))) : Go p e below s Q C S (T.setTop (mkF m pc Ls (.long y :: .long x :: rest))) := by
  obtain ⟨hd, rfl⟩ := hd; exact k.step fun _ t => XS.lmul X.here hx rfl hd rfl t
theorem w_land (X : Stand p l e R s m args below meth c T locs cells slots) (hx : p.tables.exec = Jvm.exec) {x y : Int64} (hd : Dc c.code pc .land 1 pc') (k : Go p e below s Q C S (T.setTop (mkF m pc' Ls (.long (x &&& y) :: rest)))) : Go p e below s Q C S (T.setTop (mkF m pc Ls (.long y :: .long x :: rest))) := by
  obtain ⟨hd, rfl⟩ := hd; exact k.step fun _ t => XS.land X.here hx rfl hd rfl t
theorem w_lor (X : Stand p l e R s m args below meth c T locs cells slots) (hx : p.tables.exec = Jvm.exec) {x y : Int64} (hd : Dc c.code pc .lor 1 pc') (k : Go p e below s Q C S (T.setTop (mkF m pc' Ls (.long (x ||| y) :: rest)))) : Go p e below s Q C S (T.setTop (mkF m pc Ls (.long y :: .long x :: rest))) := by
  obtain ⟨hd, rfl⟩ := hd; exact k.step fun _ t => XS.lor X.here hx rfl hd rfl t
theorem w_lxor (X : Stand p l e R s m args below meth c T locs cells slots) (hx : p.tables.exec = Jvm.exec) {x y : Int64} (hd : Dc c.code pc .lxor 1 pc') (k : Go p e below s Q C S (T.setTop (mkF m pc' Ls (.long (x ^^^ y) :: rest)))) : Go p e below s Q C S (T.setTop (mkF m pc Ls (.long y :: .long x :: rest))) := by
  obtain ⟨hd, rfl⟩ := hd; exact k.step fun _ t => XS.lxor X.here hx rfl hd rfl t
theorem w_lshl (X : Stand p l e R s m args below meth c T locs cells slots) (hx : p.tables.exec = Jvm.exec) {x : Int64} {y : Int32} (hd : Dc c.code pc .lshl 1 pc') (k : Go p e below s Q C S (T.setTop (mkF m pc' Ls (.long (LShl x y) :: rest)))) : Go p e below s Q C S (T.setTop (mkF m pc Ls (.int y :: .long x :: rest))) := by
  obtain ⟨hd, rfl⟩ := hd; exact k.step fun _ t => XS.lshl X.here hx rfl hd rfl t
theorem w_lshr (X : Stand p l e R s m args below meth c T locs cells slots) (hx : p.tables.exec = Jvm.exec) {x : Int64} {y : Int32} (hd : Dc c.code pc .lshr 1 pc') (k : Go p e below s Q C S (T.setTop (mkF m pc' Ls (.long (LShr x y) :: rest)))) : Go p e below s Q C S (T.setTop (mkF m pc Ls (.int y :: .long x :: rest))) := by
  obtain ⟨hd, rfl⟩ := hd; exact k.step fun _ t => XS.lshr X.here hx rfl hd rfl t
theorem w_lushr (X : Stand p l e R s m args below meth c T locs cells slots) (hx : p.tables.exec = Jvm.exec) {x : Int64} {y : Int32} (hd : Dc c.code pc .lushr 1 pc') (k : Go p e below s Q C S (T.setTop (mkF m pc' Ls (.long (LUshr x y) :: rest)))) : Go p e below s Q C S (T.setTop (mkF m pc Ls (.int y :: .long x :: rest))) := by
  obtain ⟨hd, rfl⟩ := hd; exact k.step fun _ t => XS.lushr X.here hx rfl hd rfl t
theorem w_ineg (X : Stand p l e R s m args below meth c T locs cells slots) (hx : p.tables.exec = Jvm.exec) {x : Int32} (hd : Dc c.code pc .ineg 1 pc') (k : Go p e below s Q C S (T.setTop (mkF m pc' Ls (.int (-x) :: rest)))) : Go p e below s Q C S (T.setTop (mkF m pc Ls (.int x :: rest))) := by
  obtain ⟨hd, rfl⟩ := hd; exact k.step fun _ t => XS.ineg X.here hx rfl hd rfl t
theorem w_lneg (X : Stand p l e R s m args below meth c T locs cells slots) (hx : p.tables.exec = Jvm.exec) {x : Int64} (hd : Dc c.code pc .lneg 1 pc') (k : Go p e below s Q C S (T.setTop (mkF m pc' Ls (.long (-x) :: rest)))) : Go p e below s Q C S (T.setTop (mkF m pc Ls (.long x :: rest))) := by
  obtain ⟨hd, rfl⟩ := hd; exact k.step fun _ t => XS.lneg X.here hx rfl hd rfl t
theorem w_i2l (X : Stand p l e R s m args below meth c T locs cells slots) (hx : p.tables.exec = Jvm.exec) {x : Int32} (hd : Dc c.code pc .i2l 1 pc') (k : Go p e below s Q C S (T.setTop (mkF m pc' Ls (.long (x.toInt64) :: rest)))) : Go p e below s Q C S (T.setTop (mkF m pc Ls (.int x :: rest))) := by
  obtain ⟨hd, rfl⟩ := hd; exact k.step fun _ t => XS.i2l X.here hx rfl hd rfl t
theorem w_l2i (X : Stand p l e R s m args below meth c T locs cells slots) (hx : p.tables.exec = Jvm.exec) {x : Int64} (hd : Dc c.code pc .l2i 1 pc') (k : Go p e below s Q C S (T.setTop (mkF m pc' Ls (.int (x.toInt32) :: rest)))) : Go p e below s Q C S (T.setTop (mkF m pc Ls (.long x :: rest))) := by
  obtain ⟨hd, rfl⟩ := hd; exact k.step fun _ t => XS.l2i X.here hx rfl hd rfl t
theorem w_i2b (X : Stand p l e R s m args below meth c T locs cells slots) (hx : p.tables.exec = Jvm.exec) {x : Int32} (hd : Dc c.code pc .i2b 1 pc') (k : Go p e below s Q C S (T.setTop (mkF m pc' Ls (.int (x.toInt8.toInt32) :: rest)))) : Go p e below s Q C S (T.setTop (mkF m pc Ls (.int x :: rest))) := by
  obtain ⟨hd, rfl⟩ := hd; exact k.step fun _ t => XS.i2b X.here hx rfl hd rfl t
theorem w_i2c (X : Stand p l e R s m args below meth c T locs cells slots) (hx : p.tables.exec = Jvm.exec) {x : Int32} (hd : Dc c.code pc .i2c 1 pc') (k : Go p e below s Q C S (T.setTop (mkF m pc' Ls (.int (x.toUInt32.toUInt16.toUInt32.toInt32) :: rest)))) : Go p e below s Q C S (T.setTop (mkF m pc Ls (.int x :: rest))) := by
  obtain ⟨hd, rfl⟩ := hd; exact k.step fun _ t => XS.i2c X.here hx rfl hd rfl t
theorem w_i2s (X : Stand p l e R s m args below meth c T locs cells slots) (hx : p.tables.exec = Jvm.exec) {x : Int32} (hd : Dc c.code pc .i2s 1 pc') (k : Go p e below s Q C S (T.setTop (mkF m pc' Ls (.int (x.toInt16.toInt32) :: rest)))) : Go p e below s Q C S (T.setTop (mkF m pc Ls (.int x :: rest))) := by
  obtain ⟨hd, rfl⟩ := hd; exact k.step fun _ t => XS.i2s X.here hx rfl hd rfl t
theorem w_idiv (X : Stand p l e R s m args below meth c T locs cells slots) (hx : p.tables.exec = Jvm.exec) {x y : Int32} (hd : Dc c.code pc .idiv 1 pc') (hy : y ≠ 0) (k : Go p e below s Q C S (T.setTop (mkF m pc' Ls (.int (x / y) :: rest)))) : Go p e below s Q C S (T.setTop (mkF m pc Ls (.int y :: .int x :: rest))) := by
  obtain ⟨hd, rfl⟩ := hd; exact k.step fun _ t => XS.idiv X.here hx rfl hd rfl hy t
theorem w_irem (X : Stand p l e R s m args below meth c T locs cells slots) (hx : p.tables.exec = Jvm.exec) {x y : Int32} (hd : Dc c.code pc .irem 1 pc') (hy : y ≠ 0) (k : Go p e below s Q C S (T.setTop (mkF m pc' Ls (.int (x % y) :: rest)))) : Go p e below s Q C S (T.setTop (mkF m pc Ls (.int y :: .int x :: rest))) := by
  obtain ⟨hd, rfl⟩ := hd; exact k.step fun _ t => iremM X hx rfl hd rfl hy t
theorem w_ldiv (X : Stand p l e R s m args below meth c T locs cells slots) (hx : p.tables.exec = Jvm.exec) {x y : Int64} (hd : Dc c.code pc .ldiv 1 pc') (hy : y ≠ 0) (k : Go p e below s Q C S (T.setTop (mkF m pc' Ls (.long (x / y) :: rest)))) : Go p e below s Q C S (T.setTop (mkF m pc Ls (.long y :: .long x :: rest))) := by
  obtain ⟨hd, rfl⟩ := hd; exact k.step fun _ t => XS.ldiv X.here hx rfl hd rfl hy t
theorem w_dup (X : Stand p l e R s m args below meth c T locs cells slots) (hx : p.tables.exec = Jvm.exec) {v : Value} (hd : Dc c.code pc .dup 1 pc') (hc : v.category = 1) (k : Go p e below s Q C S (T.setTop (mkF m pc' Ls (v :: v :: rest)))) : Go p e below s Q C S (T.setTop (mkF m pc Ls (v :: rest))) := by
  obtain ⟨hd, rfl⟩ := hd; exact k.step fun _ t => XS.dup X.here hx rfl hd rfl hc t
theorem w_dupx1 (X : Stand p l e R s m args below meth c T locs cells slots) (hx : p.tables.exec = Jvm.exec) {v w : Value} (hd : Dc c.code pc .dup_x1 1 pc') (hc : v.category = 1) (hc' : w.category = 1) (k : Go p e below s Q C S (T.setTop (mkF m pc' Ls (v :: w :: v :: rest)))) : Go p e below s Q C S (T.setTop (mkF m pc Ls (v :: w :: rest))) := by
  obtain ⟨hd, rfl⟩ := hd; exact k.step fun _ t => XS.dupX1 X.here hx rfl hd rfl hc hc' t
theorem w_dup2 (X : Stand p l e R s m args below meth c T locs cells slots) (hx : p.tables.exec = Jvm.exec) {v w : Value} (hd : Dc c.code pc .dup2 1 pc') (hc : v.category = 1) (hc' : w.category = 1) (k : Go p e below s Q C S (T.setTop (mkF m pc' Ls (v :: w :: v :: w :: rest)))) : Go p e below s Q C S (T.setTop (mkF m pc Ls (v :: w :: rest))) := by
  obtain ⟨hd, rfl⟩ := hd; exact k.step fun _ t => XT.dup2 X.here hx rfl hd rfl hc hc' t
theorem w_dup2L (X : Stand p l e R s m args below meth c T locs cells slots) (hx : p.tables.exec = Jvm.exec) {x : Int64} (hd : Dc c.code pc .dup2 1 pc') (k : Go p e below s Q C S (T.setTop (mkF m pc' Ls (.long x :: .long x :: rest)))) : Go p e below s Q C S (T.setTop (mkF m pc Ls (.long x :: rest))) := by
  obtain ⟨hd, rfl⟩ := hd; exact k.step fun _ t => XT.dup2L X.here hx rfl hd rfl t
theorem w_pop (X : Stand p l e R s m args below meth c T locs cells slots) (hx : p.tables.exec = Jvm.exec) {v : Value} (hd : Dc c.code pc .pop 1 pc') (hc : v.category = 1) (k : Go p e below s Q C S (T.setTop (mkF m pc' Ls rest))) : Go p e below s Q C S (T.setTop (mkF m pc Ls (v :: rest))) := by
  obtain ⟨hd, rfl⟩ := hd; exact k.step fun _ t => XS.pop X.here hx rfl hd rfl hc t
/-! branches -/
theorem w_goto (X : Stand p l e R s m args below meth c T locs cells slots) (hx : p.tables.exec = Jvm.exec) {o : Int} {pcT pcF : Nat} (hd : Dj c.code pc (.goto o) o pcT pcF) (k : Go p e below s Q C S (T.setTop (mkF m pcT Ls rest))) : Go p e below s Q C S (T.setTop (mkF m pc Ls rest)) := by
  obtain ⟨hd, ho, rfl, -⟩ := hd; exact k.step fun _ t => XS.goto X.here hx rfl rfl hd ho rfl t
theorem w_icmp_eq (X : Stand p l e R s m args below meth c T locs cells slots) (hx : p.tables.exec = Jvm.exec) {o : Int} {x y : Int32} {pcT pcF : Nat} (hd : Dj c.code pc (.if_icmp .eq o) o pcT pcF) (kt : x = y → Go p e below s Q C S (T.setTop (mkF m pcT Ls (rest)))) (kf : x ≠ y → Go p e below s Q C S (T.setTop (mkF m pcF Ls (rest)))) : Go p e below s Q C S (T.setTop (mkF m pc Ls (.int y :: .int x :: rest))) := by
  obtain ⟨hd, ho, rfl, rfl⟩ := hd
  by_cases hb : x = y
  · exact (kt hb).step fun _ t => XS.icmpYes X.here hx rfl rfl hd rfl (teq hb).1 ho rfl t
  · exact (kf hb).step fun _ t => XS.icmpNo X.here hx rfl hd rfl (feq hb).1 t
theorem w_if_eq (X : Stand p l e R s m args below meth c T locs cells slots) (hx : p.tables.exec = Jvm.exec) {o : Int} {x : Int32} {pcT pcF : Nat} (hd : Dj c.code pc (.ifCond .eq o) o pcT pcF) (kt : x = 0 → Go p e below s Q C S (T.setTop (mkF m pcT Ls (rest)))) (kf : x ≠ 0 → Go p e below s Q C S (T.setTop (mkF m pcF Ls (rest)))) : Go p e below s Q C S (T.setTop (mkF m pc Ls (.int x :: rest))) := by
  obtain ⟨hd, ho, rfl, rfl⟩ := hd
  have e0 : (0 : Int32).toInt = 0 := rfl
  by_cases hb : x = (0 : Int32)
  · exact (kt hb).step fun _ t => XS.ifYes X.here hx rfl rfl hd rfl ((if0 _ _).trans (teq hb).1) ho rfl t
  · exact (kf hb).step fun _ t => XS.ifNo X.here hx rfl hd rfl ((if0 _ _).trans (feq hb).1) t
theorem w_lcmp_eq (X : Stand p l e R s m args below meth c T locs cells slots) (hx : p.tables.exec = Jvm.exec) {o : Int} {x y : Int64} {pc1 pcT pcF : Nat} (hd1 : Dc c.code pc .lcmp 1 pc1) (hd : Dj c.code pc1 (.ifCond .eq o) o pcT pcF) (kt : x = y → Go p e below s Q C S (T.setTop (mkF m pcT Ls (rest)))) (kf : x ≠ y → Go p e below s Q C S (T.setTop (mkF m pcF Ls (rest)))) : Go p e below s Q C S (T.setTop (mkF m pc Ls (.long y :: .long x :: rest))) := by
  obtain ⟨hd1, rfl⟩ := hd1
  refine Go.step (fun _ t => XS.lcmp X.here hx rfl hd1 rfl t) ?_
  exact w_if_eq X hx hd (fun q => kt ((lw_eq x y).mp q)) (fun q => kf (fun r => q ((lw_eq x y).mpr r)))
theorem w_icmp_ne (X : Stand p l e R s m args below meth c T locs cells slots) (hx : p.tables.exec = Jvm.exec) {o : Int} {x y : Int32} {pcT pcF : Nat} (hd : Dj c.code pc (.if_icmp .ne o) o pcT pcF) (kt : x ≠ y → Go p e below s Q C S (T.setTop (mkF m pcT Ls (rest)))) (kf : x = y → Go p e below s Q C S (T.setTop (mkF m pcF Ls (rest)))) : Go p e below s Q C S (T.setTop (mkF m pc Ls (.int y :: .int x :: rest))) := by
  obtain ⟨hd, ho, rfl, rfl⟩ := hd
  by_cases hb : x = y
  · exact (kf hb).step fun _ t => XS.icmpNo X.here hx rfl hd rfl (teq hb).2 t
  · exact (kt hb).step fun _ t => XS.icmpYes X.here hx rfl rfl hd rfl (feq hb).2 ho rfl t
theorem w_if_ne (X : Stand p l e R s m args below meth c T locs cells slots) (hx : p.tables.exec = Jvm.exec) {o : Int} {x : Int32} {pcT pcF : Nat} (hd : Dj c.code pc (.ifCond .ne o) o pcT pcF) (kt : x ≠ 0 → Go p e below s Q C S (T.setTop (mkF m pcT Ls (rest)))) (kf : x = 0 → Go p e below s Q C S (T.setTop (mkF m pcF Ls (rest)))) : Go p e below s Q C S (T.setTop (mkF m pc Ls (.int x :: rest))) := by
  obtain ⟨hd, ho, rfl, rfl⟩ := hd
  have e0 : (0 : Int32).toInt = 0 := rfl
  by_cases hb : x = (0 : Int32)
  · exact (kf hb).step fun _ t => XS.ifNo X.here hx rfl hd rfl ((if0 _ _).trans (teq hb).2) t
  · exact (kt hb).step fun _ t => XS.ifYes X.here hx rfl rfl hd rfl ((if0 _ _).trans (feq hb).2) ho rfl t
theorem w_lcmp_ne (X : Stand p l e R s m args below meth c T locs cells slots) (hx : p.tables.exec = Jvm.exec) {o : Int} {x y : Int64} {pc1 pcT pcF : Nat} (hd1 : Dc c.code pc .lcmp 1 pc1) (hd : Dj c.code pc1 (.ifCond .ne o) o pcT pcF) (kt : x ≠ y → Go p e below s Q C S (T.setTop (mkF m pcT Ls (rest)))) (kf : x = y → Go p e below s Q C S (T.setTop (mkF m pcF Ls (rest)))) : Go p e below s Q C S (T.setTop (mkF m pc Ls (.long y :: .long x :: rest))) := by
  obtain ⟨hd1, rfl⟩ := hd1
  refine Go.step (fun _ t => XS.lcmp X.here hx rfl hd1 rfl t) ?_
  exact w_if_ne X hx hd (fun q => kt (fun r => q ((lw_eq x y).mpr r))) (fun q => kf ((lw_eq x y).mp q))
theorem w_icmp_lt (X : Stand p l e R s m args below meth c T locs cells slots) (hx : p.tables.exec = Jvm.exec) {o : Int} {x y : Int32} {pcT pcF : Nat} (hd : Dj c.code pc (.if_icmp .lt o) o pcT pcF) (kt : x.toInt < y.toInt → Go p e below s Q C S (T.setTop (mkF m pcT Ls (rest)))) (kf : y.toInt ≤ x.toInt → Go p e below s Q C S (T.setTop (mkF m pcF Ls (rest)))) : Go p e below s Q C S (T.setTop (mkF m pc Ls (.int y :: .int x :: rest))) := by
  obtain ⟨hd, ho, rfl, rfl⟩ := hd
  by_cases hb : x < y
  · exact (kt (Int32.lt_iff_toInt_lt.mp hb)).step fun _ t => XS.icmpYes X.here hx rfl rfl hd rfl (tlt hb).1 ho rfl t
  · exact (kf (by rw [Int32.lt_iff_toInt_lt] at hb; omega)).step fun _ t => XS.icmpNo X.here hx rfl hd rfl (flt hb).1 t
theorem w_if_lt (X : Stand p l e R s m args below meth c T locs cells slots) (hx : p.tables.exec = Jvm.exec) {o : Int} {x : Int32} {pcT pcF : Nat} (hd : Dj c.code pc (.ifCond .lt o) o pcT pcF) (kt : x.toInt < 0 → Go p e below s Q C S (T.setTop (mkF m pcT Ls (rest)))) (kf : 0 ≤ x.toInt → Go p e below s Q C S (T.setTop (mkF m pcF Ls (rest)))) : Go p e below s Q C S (T.setTop (mkF m pc Ls (.int x :: rest))) := by
  obtain ⟨hd, ho, rfl, rfl⟩ := hd
  have e0 : (0 : Int32).toInt = 0 := rfl
  by_cases hb : x < (0 : Int32)
  · exact (kt (by rw [Int32.lt_iff_toInt_lt] at hb; omega)).step fun _ t => XS.ifYes X.here hx rfl rfl hd rfl ((if0 _ _).trans (tlt hb).1) ho rfl t
  · exact (kf (by rw [Int32.lt_iff_toInt_lt] at hb; omega)).step fun _ t => XS.ifNo X.here hx rfl hd rfl ((if0 _ _).trans (flt hb).1) t
theorem w_lcmp_lt (X : Stand p l e R s m args below meth c T locs cells slots) (hx : p.tables.exec = Jvm.exec) {o : Int} {x y : Int64} {pc1 pcT pcF : Nat} (hd1 : Dc c.code pc .lcmp 1 pc1) (hd : Dj c.code pc1 (.ifCond .lt o) o pcT pcF) (kt : x.toInt < y.toInt → Go p e below s Q C S (T.setTop (mkF m pcT Ls (rest)))) (kf : y.toInt ≤ x.toInt → Go p e below s Q C S (T.setTop (mkF m pcF Ls (rest)))) : Go p e below s Q C S (T.setTop (mkF m pc Ls (.long y :: .long x :: rest))) := by
  obtain ⟨hd1, rfl⟩ := hd1
  have e0 : (0 : Int32).toInt = 0 := rfl
  have L : (lcmpW x y).toInt < 0 → x.toInt < y.toInt := fun q => by have := (lw_lt x y).mp (by rw [Int32.lt_iff_toInt_lt]; omega); rwa [Int64.lt_iff_toInt_lt] at this
  have N : 0 ≤ (lcmpW x y).toInt → y.toInt ≤ x.toInt := fun q => by
    have h1 : ¬ x < y := fun r => by have := (lw_lt x y).mpr r; rw [Int32.lt_iff_toInt_lt] at this; omega
    rw [Int64.lt_iff_toInt_lt] at h1; omega
  have M : 0 < (lcmpW x y).toInt → y.toInt < x.toInt := fun q => by have := (lw_gt x y).mp (by rw [Int32.lt_iff_toInt_lt]; omega); rwa [Int64.lt_iff_toInt_lt] at this
  have P : (lcmpW x y).toInt ≤ 0 → x.toInt ≤ y.toInt := fun q => by
    have h1 : ¬ y < x := fun r => by have := (lw_gt x y).mpr r; rw [Int32.lt_iff_toInt_lt] at this; omega
    rw [Int64.lt_iff_toInt_lt] at h1; omega
  refine Go.step (fun _ t => XS.lcmp X.here hx rfl hd1 rfl t) ?_
  exact w_if_lt X hx hd (fun q => kt (L q)) (fun q => kf (N q))
theorem w_icmp_ge (X : Stand p l e R s m args below meth c T locs cells slots) (hx : p.tables.exec = Jvm.exec) {o : Int} {x y : Int32} {pcT pcF : Nat} (hd : Dj c.code pc (.if_icmp .ge o) o pcT pcF) (kt : y.toInt ≤ x.toInt → Go p e below s Q C S (T.setTop (mkF m pcT Ls (rest)))) (kf : x.toInt < y.toInt → Go p e below s Q C S (T.setTop (mkF m pcF Ls (rest)))) : Go p e below s Q C S (T.setTop (mkF m pc Ls (.int y :: .int x :: rest))) := by
  obtain ⟨hd, ho, rfl, rfl⟩ := hd
  by_cases hb : x < y
  · exact (kf (Int32.lt_iff_toInt_lt.mp hb)).step fun _ t => XS.icmpNo X.here hx rfl hd rfl (tlt hb).2.1 t
  · exact (kt (by rw [Int32.lt_iff_toInt_lt] at hb; omega)).step fun _ t => XS.icmpYes X.here hx rfl rfl hd rfl (flt hb).2.1 ho rfl t
theorem w_if_ge (X : Stand p l e R s m args below meth c T locs cells slots) (hx : p.tables.exec = Jvm.exec) {o : Int} {x : Int32} {pcT pcF : Nat} (hd : Dj c.code pc (.ifCond .ge o) o pcT pcF) (kt : 0 ≤ x.toInt → Go p e below s Q C S (T.setTop (mkF m pcT Ls (rest)))) (kf : x.toInt < 0 → Go p e below s Q C S (T.setTop (mkF m pcF Ls (rest)))) : Go p e below s Q C S (T.setTop (mkF m pc Ls (.int x :: rest))) := by
  obtain ⟨hd, ho, rfl, rfl⟩ := hd
  have e0 : (0 : Int32).toInt = 0 := rfl
  by_cases hb : x < (0 : Int32)
  · exact (kf (by rw [Int32.lt_iff_toInt_lt] at hb; omega)).step fun _ t => XS.ifNo X.here hx rfl hd rfl ((if0 _ _).trans (tlt hb).2.1) t
  · exact (kt (by rw [Int32.lt_iff_toInt_lt] at hb; omega)).step fun _ t => XS.ifYes X.here hx rfl rfl hd rfl ((if0 _ _).trans (flt hb).2.1) ho rfl t
theorem w_lcmp_ge (X : Stand p l e R s m args below meth c T locs cells slots) (hx : p.tables.exec = Jvm.exec) {o : Int} {x y : Int64} {pc1 pcT pcF : Nat} (hd1 : Dc c.code pc .lcmp 1 pc1) (hd : Dj c.code pc1 (.ifCond .ge o) o pcT pcF) (kt : y.toInt ≤ x.toInt → Go p e below s Q C S (T.setTop (mkF m pcT Ls (rest)))) (kf : x.toInt < y.toInt → Go p e below s Q C S (T.setTop (mkF m pcF Ls (rest)))) : Go p e below s Q C S (T.setTop (mkF m pc Ls (.long y :: .long x :: rest))) := by
  obtain ⟨hd1, rfl⟩ := hd1
  have e0 : (0 : Int32).toInt = 0 := rfl
  have L : (lcmpW x y).toInt < 0 → x.toInt < y.toInt := fun q => by have := (lw_lt x y).mp (by rw [Int32.lt_iff_toInt_lt]; omega); rwa [Int64.lt_iff_toInt_lt] at this
  have N : 0 ≤ (lcmpW x y).toInt → y.toInt ≤ x.toInt := fun q => by
    have h1 : ¬ x < y := fun r => by have := (lw_lt x y).mpr r; rw [Int32.lt_iff_toInt_lt] at this; omega
    rw [Int64.lt_iff_toInt_lt] at h1; omega
  have M : 0 < (lcmpW x y).toInt → y.toInt < x.toInt := fun q => by have := (lw_gt x y).mp (by rw [Int32.lt_iff_toInt_lt]; omega); rwa [Int64.lt_iff_toInt_lt] at this
  have P : (lcmpW x y).toInt ≤ 0 → x.toInt ≤ y.toInt := fun q => by
    have h1 : ¬ y < x := fun r => by have := (lw_gt x y).mpr r; rw [Int32.lt_iff_toInt_lt] at this; omega
    rw [Int64.lt_iff_toInt_lt] at h1; omega
  refine Go.step (fun _ t => XS.lcmp X.here hx rfl hd1 rfl t) ?_
  exact w_if_ge X hx hd (fun q => kt (N q)) (fun q => kf (L q))
theorem w_icmp_gt (X : Stand p l e R s m args below meth c T locs cells slots) (hx : p.tables.exec = Jvm.exec) {o : Int} {x y : Int32} {pcT pcF : Nat} (hd : Dj c.code pc (.if_icmp .gt o) o pcT pcF) (kt : y.toInt < x.toInt → Go p e below s Q C S (T.setTop (mkF m pcT Ls (rest)))) (kf : x.toInt ≤ y.toInt → Go p e below s Q C S (T.setTop (mkF m pcF Ls (rest)))) : Go p e below s Q C S (T.setTop (mkF m pc Ls (.int y :: .int x :: rest))) := by
  obtain ⟨hd, ho, rfl, rfl⟩ := hd
  by_cases hb : y < x
  · exact (kt (Int32.lt_iff_toInt_lt.mp hb)).step fun _ t => XS.icmpYes X.here hx rfl rfl hd rfl (tlt hb).2.2.1 ho rfl t
  · exact (kf (by rw [Int32.lt_iff_toInt_lt] at hb; omega)).step fun _ t => XS.icmpNo X.here hx rfl hd rfl (flt hb).2.2.1 t
theorem w_if_gt (X : Stand p l e R s m args below meth c T locs cells slots) (hx : p.tables.exec = Jvm.exec) {o : Int} {x : Int32} {pcT pcF : Nat} (hd : Dj c.code pc (.ifCond .gt o) o pcT pcF) (kt : 0 < x.toInt → Go p e below s Q C S (T.setTop (mkF m pcT Ls (rest)))) (kf : x.toInt ≤ 0 → Go p e below s Q C S (T.setTop (mkF m pcF Ls (rest)))) : Go p e below s Q C S (T.setTop (mkF m pc Ls (.int x :: rest))) := by
  obtain ⟨hd, ho, rfl, rfl⟩ := hd
  have e0 : (0 : Int32).toInt = 0 := rfl
  by_cases hb : (0 : Int32) < x
  · exact (kt (by rw [Int32.lt_iff_toInt_lt] at hb; omega)).step fun _ t => XS.ifYes X.here hx rfl rfl hd rfl ((if0 _ _).trans (tlt hb).2.2.1) ho rfl t
  · exact (kf (by rw [Int32.lt_iff_toInt_lt] at hb; omega)).step fun _ t => XS.ifNo X.here hx rfl hd rfl ((if0 _ _).trans (flt hb).2.2.1) t
theorem w_lcmp_gt (X : Stand p l e R s m args below meth c T locs cells slots) (hx : p.tables.exec = Jvm.exec) {o : Int} {x y : Int64} {pc1 pcT pcF : Nat} (hd1 : Dc c.code pc .lcmp 1 pc1) (hd : Dj c.code pc1 (.ifCond .gt o) o pcT pcF) (kt : y.toInt < x.toInt → Go p e below s Q C S (T.setTop (mkF m pcT Ls (rest)))) (kf : x.toInt ≤ y.toInt → Go p e below s Q C S (T.setTop (mkF m pcF Ls (rest)))) : Go p e below s Q C S (T.setTop (mkF m pc Ls (.long y :: .long x :: rest))) := by
  obtain ⟨hd1, rfl⟩ := hd1
  have e0 : (0 : Int32).toInt = 0 := rfl
  have L : (lcmpW x y).toInt < 0 → x.toInt < y.toInt := fun q => by have := (lw_lt x y).mp (by rw [Int32.lt_iff_toInt_lt]; omega); rwa [Int64.lt_iff_toInt_lt] at this
  have N : 0 ≤ (lcmpW x y).toInt → y.toInt ≤ x.toInt := fun q => by
    have h1 : ¬ x < y := fun r => by have := (lw_lt x y).mpr r; rw [Int32.lt_iff_toInt_lt] at this; omega
    rw [Int64.lt_iff_toInt_lt] at h1; omega
  have M : 0 < (lcmpW x y).toInt → y.toInt < x.toInt := fun q => by have := (lw_gt x y).mp (by rw [Int32.lt_iff_toInt_lt]; omega); rwa [Int64.lt_iff_toInt_lt] at this
  have P : (lcmpW x y).toInt ≤ 0 → x.toInt ≤ y.toInt := fun q => by
    have h1 : ¬ y < x := fun r => by have := (lw_gt x y).mpr r; rw [Int32.lt_iff_toInt_lt] at this; omega
    rw [Int64.lt_iff_toInt_lt] at h1; omega
  refine Go.step (fun _ t => XS.lcmp X.here hx rfl hd1 rfl t) ?_
  exact w_if_gt X hx hd (fun q => kt (M q)) (fun q => kf (P q))
theorem w_icmp_le (X : Stand p l e R s m args below meth c T locs cells slots) (hx : p.tables.exec = Jvm.exec) {o : Int} {x y : Int32} {pcT pcF : Nat} (hd : Dj c.code pc (.if_icmp .le o) o pcT pcF) (kt : x.toInt ≤ y.toInt → Go p e below s Q C S (T.setTop (mkF m pcT Ls (rest)))) (kf : y.toInt < x.toInt → Go p e below s Q C S (T.setTop (mkF m pcF Ls (rest)))) : Go p e below s Q C S (T.setTop (mkF m pc Ls (.int y :: .int x :: rest))) := by
  obtain ⟨hd, ho, rfl, rfl⟩ := hd
  by_cases hb : y < x
  · exact (kf (Int32.lt_iff_toInt_lt.mp hb)).step fun _ t => XS.icmpNo X.here hx rfl hd rfl (tlt hb).2.2.2 t
  · exact (kt (by rw [Int32.lt_iff_toInt_lt] at hb; omega)).step fun _ t => XS.icmpYes X.here hx rfl rfl hd rfl (flt hb).2.2.2 ho rfl t
theorem w_if_le (X : Stand p l e R s m args below meth c T locs cells slots) (hx : p.tables.exec = Jvm.exec) {o : Int} {x : Int32} {pcT pcF : Nat} (hd : Dj c.code pc (.ifCond .le o) o pcT pcF) (kt : x.toInt ≤ 0 → Go p e below s Q C S (T.setTop (mkF m pcT Ls (rest)))) (kf : 0 < x.toInt → Go p e below s Q C S (T.setTop (mkF m pcF Ls (rest)))) : Go p e below s Q C S (T.setTop (mkF m pc Ls (.int x :: rest))) := by
  obtain ⟨hd, ho, rfl, rfl⟩ := hd
  have e0 : (0 : Int32).toInt = 0 := rfl
  by_cases hb : (0 : Int32) < x
  · exact (kf (by rw [Int32.lt_iff_toInt_lt] at hb; omega)).step fun _ t => XS.ifNo X.here hx rfl hd rfl ((if0 _ _).trans (tlt hb).2.2.2) t
  · exact (kt (by rw [Int32.lt_iff_toInt_lt] at hb; omega)).step fun _ t => XS.ifYes X.here hx rfl rfl hd rfl ((if0 _ _).trans (flt hb).2.2.2) ho rfl t
theorem w_lcmp_le (X : Stand p l e R s m args below meth c T locs cells slots) (hx : p.tables.exec = Jvm.exec) {o : Int} {x y : Int64} {pc1 pcT pcF : Nat} (hd1 : Dc c.code pc .lcmp 1 pc1) (hd : Dj c.code pc1 (.ifCond .le o) o pcT pcF) (kt : x.toInt ≤ y.toInt → Go p e below s Q C S (T.setTop (mkF m pcT Ls (rest)))) (kf : y.toInt < x.toInt → Go p e below s Q C S (T.setTop (mkF m pcF Ls (rest)))) : Go p e below s Q C S (T.setTop (mkF m pc Ls (.long y :: .long x :: rest))) := by
  obtain ⟨hd1, rfl⟩ := hd1
  have e0 : (0 : Int32).toInt = 0 := rfl
  have L : (lcmpW x y).toInt < 0 → x.toInt < y.toInt := fun q => by have := (lw_lt x y).mp (by rw [Int32.lt_iff_toInt_lt]; omega); rwa [Int64.lt_iff_toInt_lt] at this
  have N : 0 ≤ (lcmpW x y).toInt → y.toInt ≤ x.toInt := fun q => by
    have h1 : ¬ x < y := fun r => by have := (lw_lt x y).mpr r; rw [Int32.lt_iff_toInt_lt] at this; omega
    rw [Int64.lt_iff_toInt_lt] at h1; omega
  have M : 0 < (lcmpW x y).toInt → y.toInt < x.toInt := fun q => by have := (lw_gt x y).mp (by rw [Int32.lt_iff_toInt_lt]; omega); rwa [Int64.lt_iff_toInt_lt] at this
  have P : (lcmpW x y).toInt ≤ 0 → x.toInt ≤ y.toInt := fun q => by
    have h1 : ¬ y < x := fun r => by have := (lw_gt x y).mpr r; rw [Int32.lt_iff_toInt_lt] at this; omega
    rw [Int64.lt_iff_toInt_lt] at h1; omega
  refine Go.step (fun _ t => XS.lcmp X.here hx rfl hd1 rfl t) ?_
  exact w_if_le X hx hd (fun q => kt (P q)) (fun q => kf (M q))
theorem w_acmp (X : Stand p l e R s m args below meth c T locs cells slots) (hx : p.tables.exec = Jvm.exec) {o : Int} {cd : ClassFile.ACond} {x y : Value} {pcT pcF : Nat} (hd : Dj c.code pc (.if_acmp cd o) o pcT pcF) (h1 : x.isRef = true) (h2 : y.isRef = true) {b : Bool} (hb : acV cd (decide (x = y)) = b) (k : Go p e below s Q C S (T.setTop (mkF m (if b = true then pcT else pcF) Ls rest))) : Go p e below s Q C S (T.setTop (mkF m pc Ls (y :: x :: rest))) := by
  obtain ⟨hd, ho, rfl, rfl⟩ := hd; subst hb; exact k.step fun _ t => Jvm.RoadKit.acmp X hx rfl h1 h2 rfl hd rfl rfl ho rfl t
theorem w_ifnullR (X : Stand p l e R s m args below meth c T locs cells slots) (hx : p.tables.exec = Jvm.exec) {o : Int} {b : Addr} {pcT pcF : Nat} (hd : Dj c.code pc (.ifnull o) o pcT pcF) (k : Go p e below s Q C S (T.setTop (mkF m pcF Ls rest))) : Go p e below s Q C S (T.setTop (mkF m pc Ls (.ref b :: rest))) := by
  obtain ⟨hd, -, -, rfl⟩ := hd; exact k.step fun _ t => XS.ifnullNo X.here hx rfl hd rfl t
/-! returns -/
theorem w_ret (X : Stand p l e R s m args below meth c T locs cells slots) (hx : p.tables.exec = Jvm.exec) (hret : meth.sig.returnType = none) (hlk : meth.locks = false) (hd : Dc c.code pc .return_ 1 pc') (hC : cells ≤ C) (hS : slots ≤ S) (hQ : Q none T.heap locs) : Go p e below s Q C S (T.setTop (mkF m pc Ls [])) := by
  obtain ⟨fs, hr, hrun, hended, hW, hsame⟩ := X.leave (v := none) (fun _ => rfl) hlk
  exact ⟨_, _, X.returnOut hx hret hd.1 hr, hrun, hended, _, _, rfl, hQ, ⟨_, rfl⟩, hW, hsame.mono hC hS⟩
theorem w_retI (X : Stand p l e R s m args below meth c T locs cells slots) (hx : p.tables.exec = Jvm.exec) (hret : meth.sig.returnType = some .int) (hlk : meth.locks = false) {z : Int32} (hd : Dc c.code pc .ireturn 1 pc') (hC : cells ≤ C) (hS : slots ≤ S) (hQ : Q (some (.int z)) T.heap locs) : Go p e below s Q C S (T.setTop (mkF m pc Ls (.int z :: rest))) := by
  obtain ⟨fs, hr, hrun, hended, hW, hsame⟩ := X.leave (v := some (.int z)) (fun h => by rw [hret] at h; cases h) hlk
  exact ⟨_, _, retOut X hx hret rfl (Or.inl ⟨rfl, Or.inl rfl, _, rfl⟩) hd.1 hr, hrun, hended, _, _, rfl, hQ, ⟨_, rfl⟩, hW, hsame.mono hC hS⟩
theorem w_retN (X : Stand p l e R s m args below meth c T locs cells slots) (hx : p.tables.exec = Jvm.exec) {t : FieldType} (hret : meth.sig.returnType = some t) (ht : t = .boolean ∨ t = .byte ∨ t = .char ∨ t = .short) (hlk : meth.locks = false) {z : Int32} (hd : Dc c.code pc .ireturn 1 pc') (hC : cells ≤ C) (hS : slots ≤ S) (hQ : Q (some (.int (nar t z))) T.heap locs) : Go p e below s Q C S (T.setTop (mkF m pc Ls (.int z :: rest))) := by
  obtain ⟨fs, hr, hrun, hended, hW, hsame⟩ := X.leave (v := some (.int (nar t z))) (fun h => by rw [hret] at h; cases h) hlk
  exact ⟨_, _, retN X hx hret ht hd.1 hr, hrun, hended, _, _, rfl, hQ, ⟨_, rfl⟩, hW, hsame.mono hC hS⟩
theorem w_retJ (X : Stand p l e R s m args below meth c T locs cells slots) (hx : p.tables.exec = Jvm.exec) (hret : meth.sig.returnType = some .long) (hlk : meth.locks = false) {z : Int64} (hd : Dc c.code pc .lreturn 1 pc') (hC : cells ≤ C) (hS : slots ≤ S) (hQ : Q (some (.long z)) T.heap locs) : Go p e below s Q C S (T.setTop (mkF m pc Ls (.long z :: rest))) := by
  obtain ⟨fs, hr, hrun, hended, hW, hsame⟩ := X.leave (v := some (.long z)) (fun h => by rw [hret] at h; cases h) hlk
  exact ⟨_, _, retOut X hx hret rfl (Or.inr (Or.inl ⟨rfl, rfl, _, rfl⟩)) hd.1 hr, hrun, hended, _, _, rfl, hQ, ⟨_, rfl⟩, hW, hsame.mono hC hS⟩
theorem w_retA (X : Stand p l e R s m args below meth c T locs cells slots) (hx : p.tables.exec = Jvm.exec) {t : FieldType} {a : Addr} (hret : meth.sig.returnType = some t) (ht : t.isReference = true) (hn : narrow t (.ref a) = .ref a) (hlk : meth.locks = false) (hd : Dc c.code pc .areturn 1 pc') (hC : cells ≤ C) (hS : slots ≤ S) (hQ : Q (some (.ref a)) T.heap locs) : Go p e below s Q C S (T.setTop (mkF m pc Ls (.ref a :: rest))) := by
  obtain ⟨fs, hr, hrun, hended, hW, hsame⟩ := X.leave (v := some (.ref a)) (fun h => by rw [hret] at h; cases h) hlk
  exact ⟨_, _, retOut X hx hret hn (Or.inr (Or.inr (Or.inr (Or.inr ⟨rfl, ht, rfl⟩)))) hd.1 hr, hrun, hended, _, _, rfl, hQ, ⟨_, rfl⟩, hW, hsame.mono hC hS⟩
/-! contracts -/
def Ct (l : Launch) (Z : State) (y : MethodName) (bytes : ByteArray) (maxL : Nat) (ret : Option FieldType) (rm : Room) (as' : Array Value) (h : Heap) (Q : Option Value → Heap → List Loc → Prop) : Prop :=
  MetFree l y (head1 [Jvm.Cond.code y bytes maxL ret] rm) (fun a U => a = as' ∧ Z.Warmed39 U.vm ∧ U.heap = h) (fun _ _ _ _ _ => True) (fun _ U o U' => ∃ v L, o = .returned v ∧ Q v U'.heap L ∧ FrameEnd U o U' L rm.cells rm.slots)
theorem w_body {y : MethodName} {bytes : ByteArray} {maxL : Nat} {ret : Option FieldType} {rm : Room} {as' : Array Value} {ws : List Jvm.Cond} (hp : plainFor y = true)
    (body : ∀ (p : Program) (e : Env) (s : State) (m : MethodId) (below : List Frame) (meth : Method) (c : Code) (T : State), Stand p l e rm s m as' below meth c T [] 0 0 → p.tables.exec = Jvm.exec → c.code = bytes → c.maxLocals = maxL → s.vm.findClass y.cls = some m.cls → meth.name = y.name → meth.sig.returnType = ret → meth.locks = false → Z.Warmed39 s.vm → T.heap = h → Go p e below s Q C S (T.setTop (entryFrame m as' maxL))) :
    MetFree l y (head1 (Jvm.Cond.code y bytes maxL ret :: ws) rm) (fun a U => a = as' ∧ Z.Warmed39 U.vm ∧ U.heap = h) (fun _ _ _ _ _ => True) (fun _ U o U' => ∃ v L, o = .returned v ∧ Q v U'.heap L ∧ FrameEnd U o U' L C S) := by
  refine MetFree.of_bodySF hp hisR ?_
  intro p e s m args below meth c s₁ Bd hml0 hP hK
  obtain ⟨rfl, hZ, hh⟩ := hP
  exact body p e s m below meth c s₁ (Stand.of_body Bd) Bd.exec Bd.bytes hml0 (findClass_of_methodNamed Bd.named) (name_of_methodNamed Bd.named Bd.method).1 Bd.returns Bd.notSynchronized hZ (by rw [← hh, Bd.state]; rfl)
theorem Ct.body {y : MethodName} {bytes : ByteArray} {maxL : Nat} {ret : Option FieldType} {rm : Room} {as' : Array Value} (hp : plainFor y = true)
    (body : ∀ (p : Program) (e : Env) (s : State) (m : MethodId) (below : List Frame) (meth : Method) (c : Code) (T : State), Stand p l e rm s m as' below meth c T [] 0 0 → p.tables.exec = Jvm.exec → c.code = bytes → c.maxLocals = maxL → s.vm.findClass y.cls = some m.cls → meth.name = y.name → meth.sig.returnType = ret → meth.locks = false → Z.Warmed39 s.vm → T.heap = h → Go p e below s Q rm.cells rm.slots (T.setTop (entryFrame m as' maxL))) :
    Ct l Z y bytes maxL ret rm as' h Q := w_body hp body
/-! calls -/
theorem w_callS (X : Stand p l e R s m args below meth c T locs cells slots) (hx : p.tables.exec = Jvm.exec) (hZ : Z.Warmed39 s.vm) (eT : T.heap = h) {kk : Nat} (hml : c.maxLocals = kk) (hkk : Ls.size = kk) {own : String} (hown : s.vm.findClass own = some m.cls) {index : Nat} {y : MethodName} {bytes : ByteArray} {maxL : Nat} {ret : Option FieldType} {rm : Room} {as' : Array Value} {Qc : Option Value → Heap → List Loc → Prop}
    (w1 : (Jvm.Cond.methodLink own index y).before a0 Z = true) (w2 : (Jvm.Cond.static y).before a0 Z = true) (w3 : (Jvm.Cond.initialized y.cls).before a0 Z = true) (w4 : (Jvm.Cond.code y bytes maxL ret).before a0 Z = true) (hy : y.cls ≠ "java/lang/invoke/MethodHandle" ∧ y.cls ≠ "java/lang/invoke/VarHandle")
    (hM : Ct l Z y bytes maxL ret rm as' h Qc) (hd : Dc c.code pc (.invokestatic index) 3 pc') {ps : List FieldType} {r : Option FieldType} (hpd : parseMethodDescriptor y.desc = some ⟨ps, r⟩) {argsL st rest : List Value} (has : argsL.toArray = as') (hst : st = argsL.reverse ++ rest) (hlen : argsL.length = ps.length) {W : Nat} (hW : (rest.map fun v => v.category).sum = W)
    (hf : rm.frames + 1 ≤ R.frames) (hl : W + (maxL + 11) + rm.locals ≤ R.locals) (hcl : cells + rm.cells ≤ R.cells) (hsl : slots + rm.slots ≤ R.slots)
    (k : ∀ (v : Option Value) (T' : State) (L : List Loc), Stand p l e R s m args below meth c T' (locs ++ L) (cells + rm.cells) (slots + rm.slots) → Qc v T'.heap L → Go p e below s Q C S (T'.setTop (mkF m pc' Ls (v.toList ++ rest)))) :
    Go p e below s Q C S (T.setTop (mkF m pc Ls st)) := by
  subst hst has hW
  obtain ⟨hd, rfl⟩ := hd
  obtain ⟨v, _, ⟨T', L', k', n'⟩, -, X', ⟨Lc, hQ, e1, e2, e3⟩, st⟩ := Jvm.LawKit.callS X hx (y := y) hown (mvT hZ w1) (mvT hZ w2) (mvT hZ w3) (mvT hZ w4) hy (backOf (W := (rest.map fun v => v.category).sum) hM hZ w4 w3 hf hl) (g := mkF m pc Ls (argsL.reverse ++ rest)) rfl (hkk.trans hml.symm) (argsL := argsL) (rest := rest) (lenOf hpd hlen) rfl (by show 2 * 0 + _ ≤ _; omega) hd (fun _ _ => ⟨rfl, eT, hcl, hsl⟩)
  dsimp only [Pt.U, Pt.locs, Pt.cells, Pt.slots] at X' e1 e2 e3 st hQ
  subst e1 e2 e3
  exact (k v T' Lc X' hQ).step st
theorem w_callV (X : Stand p l e R s m args below meth c T locs cells slots) (hx : p.tables.exec = Jvm.exec) (hZ : Z.Warmed39 s.vm) (eT : T.heap = h) {kk : Nat} (hml : c.maxLocals = kk) (hkk : Ls.size = kk) {own : String} (hown : s.vm.findClass own = some m.cls) {index : Nat} {y : MethodName} {bytes : ByteArray} {maxL : Nat} {ret : Option FieldType} {rm : Room} {as' : Array Value} {Qc : Option Value → Heap → List Loc → Prop}
    (w1 : (Jvm.Cond.methodLink own index y).before a0 Z = true) (w2 : (Jvm.Cond.declares y).before a0 Z = true) (w5 : (Jvm.Cond.selects y.cls y y).before a0 Z = true) (w6 : (Jvm.Cond.instanceMethod y).before a0 Z = true) (w3 : (Jvm.Cond.initialized y.cls).before a0 Z = true) (w4 : (Jvm.Cond.code y bytes maxL ret).before a0 Z = true) (hy : y.cls ≠ "java/lang/invoke/MethodHandle" ∧ y.cls ≠ "java/lang/invoke/VarHandle")
    (hM : Ct l Z y bytes maxL ret rm as' h Qc) {b : Addr} (E : Exa Z h b y.cls) (hd : Dc c.code pc (.invokevirtual index) 3 pc') {ps : List FieldType} {r : Option FieldType} (hpd : parseMethodDescriptor y.desc = some ⟨ps, r⟩) {argsL st rest : List Value} (has : (.ref b :: argsL).toArray = as') (hst : st = argsL.reverse ++ .ref b :: rest) (hlen : argsL.length = ps.length) {W : Nat} (hW : (rest.map fun v => v.category).sum = W)
    (hf : rm.frames + 1 ≤ R.frames) (hl : W + (maxL + 11) + rm.locals ≤ R.locals) (hcl : cells + rm.cells ≤ R.cells) (hsl : slots + rm.slots ≤ R.slots)
    (k : ∀ (v : Option Value) (T' : State) (L : List Loc), Stand p l e R s m args below meth c T' (locs ++ L) (cells + rm.cells) (slots + rm.slots) → Qc v T'.heap L → Go p e below s Q C S (T'.setTop (mkF m pc' Ls (v.toList ++ rest)))) :
    Go p e below s Q C S (T.setTop (mkF m pc Ls st)) := by
  subst hst has hW
  obtain ⟨hd, rfl⟩ := hd
  obtain ⟨cq, kq, qa, qb, qc⟩ := isOf hZ eT E
  obtain ⟨v, _, ⟨T', L', k', n'⟩, -, X', ⟨Lc, hQ, e1, e2, e3⟩, st⟩ := X.virtualBack hx (y := y) (z := y) hown (mvT hZ w1) (mvT hZ w2) (notFace_of_selects (args := #[]) (mvT hZ w5)) (mvT hZ w5) (mvT hZ w6) hy (backOf (W := (rest.map fun v => v.category).sum) hM hZ w4 w3 hf hl) qa qc (g := mkF m pc Ls (argsL.reverse ++ .ref b :: rest)) rfl (hkk.trans hml.symm) (Steps.refl _) (argsL := argsL) (rest := rest) (lenOf hpd hlen) rfl (by show 2 * 0 + _ ≤ _; omega) hd (fun _ _ => ⟨rfl, eT, hcl, hsl⟩)
  dsimp only [Pt.U, Pt.locs, Pt.cells, Pt.slots] at X' e1 e2 e3 st hQ
  subst e1 e2 e3
  exact (k v T' Lc X' hQ).step fun _ q => st.trans q
theorem w_callSP (X : Stand p l e R s m args below meth c T locs cells slots) (hx : p.tables.exec = Jvm.exec) (hZ : Z.Warmed39 s.vm) (eT : T.heap = h) {kk : Nat} (hml : c.maxLocals = kk) (hkk : Ls.size = kk) {own : String} (hown : s.vm.findClass own = some m.cls) {index : Nat} {y : MethodName} {bytes : ByteArray} {maxL : Nat} {ret : Option FieldType} {f lo : Nat} {as' : Array Value} {rv : Value}
    (w1 : (Jvm.Cond.methodLink own index y).before a0 Z = true) (w2 : (Jvm.Cond.static y).before a0 Z = true) (w3 : (Jvm.Cond.initialized y.cls).before a0 Z = true) (w4 : (Jvm.Cond.code y bytes maxL ret).before a0 Z = true) (hy : y.cls ≠ "java/lang/invoke/MethodHandle" ∧ y.cls ≠ "java/lang/invoke/VarHandle")
    (hM : Ct l Z y bytes maxL ret ({ frames := f, cells := 0, slots := 0, locals := lo } : Room) as' h (fun v h' L => v = some rv ∧ h' = h ∧ L = [])) (hd : Dc c.code pc (.invokestatic index) 3 pc') {ps : List FieldType} {r : Option FieldType} (hpd : parseMethodDescriptor y.desc = some ⟨ps, r⟩) {argsL st rest : List Value} (has : argsL.toArray = as') (hst : st = argsL.reverse ++ rest) (hlen : argsL.length = ps.length) {W : Nat} (hW : (rest.map fun v => v.category).sum = W)
    (hf : f + 1 ≤ R.frames) (hl : W + (maxL + 11) + lo ≤ R.locals) (hcl : cells ≤ R.cells) (hsl : slots ≤ R.slots)
    (k : ∀ T', Stand p l e R s m args below meth c T' locs cells slots → T'.heap = h → Go p e below s Q C S (T'.setTop (mkF m pc' Ls (rv :: rest)))) :
    Go p e below s Q C S (T.setTop (mkF m pc Ls st)) := by
  refine w_callS X hx hZ eT hml hkk hown w1 w2 w3 w4 hy hM hd hpd has hst hlen hW hf hl hcl hsl fun v T' L X' hQ => ?_
  obtain ⟨rfl, e', rfl⟩ := hQ
  rw [List.append_nil] at X'
  exact k T' X' e'
theorem w_callVP (X : Stand p l e R s m args below meth c T locs cells slots) (hx : p.tables.exec = Jvm.exec) (hZ : Z.Warmed39 s.vm) (eT : T.heap = h) {kk : Nat} (hml : c.maxLocals = kk) (hkk : Ls.size = kk) {own : String} (hown : s.vm.findClass own = some m.cls) {index : Nat} {y : MethodName} {bytes : ByteArray} {maxL : Nat} {ret : Option FieldType} {f lo : Nat} {as' : Array Value} {rv : Value}
    (w1 : (Jvm.Cond.methodLink own index y).before a0 Z = true) (w2 : (Jvm.Cond.declares y).before a0 Z = true) (w5 : (Jvm.Cond.selects y.cls y y).before a0 Z = true) (w6 : (Jvm.Cond.instanceMethod y).before a0 Z = true) (w3 : (Jvm.Cond.initialized y.cls).before a0 Z = true) (w4 : (Jvm.Cond.code y bytes maxL ret).before a0 Z = true) (hy : y.cls ≠ "java/lang/invoke/MethodHandle" ∧ y.cls ≠ "java/lang/invoke/VarHandle")
    (hM : Ct l Z y bytes maxL ret ({ frames := f, cells := 0, slots := 0, locals := lo } : Room) as' h (fun v h' L => v = some rv ∧ h' = h ∧ L = [])) {b : Addr} (E : Exa Z h b y.cls) (hd : Dc c.code pc (.invokevirtual index) 3 pc') {ps : List FieldType} {r : Option FieldType} (hpd : parseMethodDescriptor y.desc = some ⟨ps, r⟩) {argsL st rest : List Value} (has : (.ref b :: argsL).toArray = as') (hst : st = argsL.reverse ++ .ref b :: rest) (hlen : argsL.length = ps.length) {W : Nat} (hW : (rest.map fun v => v.category).sum = W)
    (hf : f + 1 ≤ R.frames) (hl : W + (maxL + 11) + lo ≤ R.locals) (hcl : cells ≤ R.cells) (hsl : slots ≤ R.slots)
    (k : ∀ T', Stand p l e R s m args below meth c T' locs cells slots → T'.heap = h → Go p e below s Q C S (T'.setTop (mkF m pc' Ls (rv :: rest)))) :
    Go p e below s Q C S (T.setTop (mkF m pc Ls st)) := by
  refine w_callV X hx hZ eT hml hkk hown w1 w2 w5 w6 w3 w4 hy hM E hd hpd has hst hlen hW hf hl hcl hsl fun v T' L X' hQ => ?_
  obtain ⟨rfl, e', rfl⟩ := hQ
  rw [List.append_nil] at X'
  exact k T' X' e'
theorem w_callI (X : Stand p l e R s m args below meth c T locs cells slots) (hx : p.tables.exec = Jvm.exec) (hZ : Z.Warmed39 s.vm) (eT : T.heap = h) {kk : Nat} (hml : c.maxLocals = kk) (hkk : Ls.size = kk) {own : String} (hown : s.vm.findClass own = some m.cls) {index : Nat} {y : MethodName} {bytes : ByteArray} {maxL : Nat} {rm : Room} {as' : Array Value} {Qc : Option Value → Heap → List Loc → Prop} (hy1 : y.name = "<init>")
    (w1 : (Jvm.Cond.methodLink own index y).before a0 Z = true) (w6 : (Jvm.Cond.instanceMethod y).before a0 Z = true) (w3 : (Jvm.Cond.initialized y.cls).before a0 Z = true) (w4 : (Jvm.Cond.code y bytes maxL none).before a0 Z = true) (hy : y.cls ≠ "java/lang/invoke/MethodHandle" ∧ y.cls ≠ "java/lang/invoke/VarHandle")
    (hM : Ct l Z y bytes maxL none rm as' h Qc) {b : Addr} (hd : Dc c.code pc (.invokespecial index) 3 pc') {ps : List FieldType} {r : Option FieldType} (hpd : parseMethodDescriptor y.desc = some ⟨ps, r⟩) {argsL st rest : List Value} (has : (.ref b :: argsL).toArray = as') (hst : st = argsL.reverse ++ .ref b :: rest) (hlen : argsL.length = ps.length) {W : Nat} (hW : (rest.map fun v => v.category).sum = W)
    (hf : rm.frames + 1 ≤ R.frames) (hl : W + (maxL + 11) + rm.locals ≤ R.locals) (hcl : cells + rm.cells ≤ R.cells) (hsl : slots + rm.slots ≤ R.slots)
    (k : ∀ (v : Option Value) (T' : State) (L : List Loc), Stand p l e R s m args below meth c T' (locs ++ L) (cells + rm.cells) (slots + rm.slots) → Qc v T'.heap L → Go p e below s Q C S (T'.setTop (mkF m pc' Ls (v.toList ++ rest)))) :
    Go p e below s Q C S (T.setTop (mkF m pc Ls st)) := by
  subst hst has hW
  obtain ⟨hd, rfl⟩ := hd
  obtain ⟨v, _, ⟨T', L', k', n'⟩, -, X', ⟨Lc, hQ, e1, e2, e3⟩, st⟩ := X.specialBack hx (y := y) hy1 hown (mvT hZ w1) (mvT hZ w6) (mvT hZ w4) hy (backOf (W := (rest.map fun v => v.category).sum) hM hZ w4 w3 hf hl) (g := mkF m pc Ls (argsL.reverse ++ .ref b :: rest)) rfl (hkk.trans hml.symm) (Steps.refl _) (a := b) (argsL := argsL) (rest := rest) (lenOf hpd hlen) rfl (by show 2 * 0 + _ ≤ _; omega) hd (fun _ _ => ⟨rfl, eT, hcl, hsl⟩)
  dsimp only [Pt.U, Pt.locs, Pt.cells, Pt.slots] at X' e1 e2 e3 st hQ
  subst e1 e2 e3
  exact (k v T' Lc X' hQ).step fun _ q => st.trans q
theorem w_objinit (X : Stand p l e R s m args below meth c T locs cells slots) (hx : p.tables.exec = Jvm.exec) (hZ : Z.Warmed39 s.vm) (eT : T.heap = h) {kk : Nat} (hml : c.maxLocals = kk) (hkk : Ls.size = kk) {own : String} (hown : s.vm.findClass own = some m.cls) {index : Nat}
    (w1 : (Jvm.Cond.methodLink own index Lib.objectInit).before a0 Z = true) (w2 : (Jvm.Cond.instanceMethod Lib.objectInit).before a0 Z = true) (w3 : (Jvm.Cond.code Lib.objectInit ⟨#[0xb1]⟩ 1 none).before a0 Z = true) (hd : Dc c.code pc (.invokespecial index) 3 pc') {a : Addr} (hf : 1 ≤ R.frames) {W : Nat} (hW : (rest.map fun v => v.category).sum = W) (hl : W + 12 ≤ R.locals)
    (k : ∀ T', Stand p l e R s m args below meth c T' locs cells slots → T'.heap = h → Go p e below s Q C S (T'.setTop (mkF m pc' Ls rest))) : Go p e below s Q C S (T.setTop (mkF m pc Ls (.ref a :: rest))) := by
  obtain ⟨hd, rfl⟩ := hd
  obtain ⟨T', X', e', st⟩ := initO X hx hZ hown w1 w2 w3 eT (g := mkF m pc Ls (.ref a :: rest)) rfl (hkk.trans hml.symm) rfl hd hf (W := W) (by show 2 * 0 + _ ≤ _; omega) hl
  exact (k T' X' e').step st
/-! fields -/
theorem w_getf (X : Stand p l e R s m args below meth c T locs cells slots) (hx : p.tables.exec = Jvm.exec) (hZ : Z.Warmed39 s.vm) (eT : T.heap = h) {own O n d : String} {index : Nat} (hown : s.vm.findClass own = some m.cls) (w : (Jvm.Cond.fieldLink own index O n d).before a0 Z = true) {a : Addr} {v : Value} (F : Fld Z h a O n d v) (hd : Dc c.code pc (.getfield index) 3 pc')
    (k : ∀ T', Stand p l e R s m args below meth c T' locs cells slots → T'.heap = h → Go p e below s Q C S (T'.setTop (mkF m pc' Ls (v :: rest)))) : Go p e below s Q C S (T.setTop (mkF m pc Ls (.ref a :: rest))) := by
  obtain ⟨hd, rfl⟩ := hd
  obtain ⟨T', X', e', st⟩ := getF X hx hZ hown (host := "") (Or.inl w) Via.refl eT F (g := mkF m pc Ls (.ref a :: rest)) rfl rfl hd
  exact (k T' X' e').step st
theorem w_putf (X : Stand p l e R s m args below meth c T locs cells slots) (hx : p.tables.exec = Jvm.exec) (hZ : Z.Warmed39 s.vm) (eT : T.heap = h) {own O n d : String} {index kk : Nat} {ty : FieldType} (hown : s.vm.findClass own = some m.cls) (w : (Jvm.Cond.fieldLink own index O n d).before a0 Z = true) {a : Addr} {v old : Value} (F : Fld Z h a O n d old) (E : Exa Z h a O) (L : (Jvm.Cond.lays O O n d).before a0 Z = true ∨ ((Jvm.Cond.laysFinal O O n d).before a0 Z = true ∧ own = O ∧ meth.name = "<init>")) (wi : (Jvm.Cond.instantiable O kk).before a0 Z = true)
    (hty : parseFieldDescriptor d = some ty) (hn : narrow ty v = v) (hf : fits ty v = true) (hd : Dc c.code pc (.putfield index) 3 pc')
    (k : ∀ T' h', Stand p l e R s m args below meth c T' (locs ++ [⟨a, Jvm.RoadKit.slotOf Z O n d⟩]) cells slots → T'.heap = h' → Wr h h' a (Jvm.RoadKit.slotOf Z O n d) v → Go p e below s Q C S (T'.setTop (mkF m pc' Ls rest))) : Go p e below s Q C S (T.setTop (mkF m pc Ls (v :: .ref a :: rest))) := by
  obtain ⟨hd, rfl⟩ := hd
  obtain ⟨T', h', X', e', W, st⟩ := putF X hx hZ hown (host := "") (Or.inl w) Via.refl eT F E L wi hty hn hf (g := mkF m pc Ls (v :: .ref a :: rest)) rfl rfl hd
  exact (k T' h' X' e' W).step st
theorem w_new (X : Stand p l e R s m args below meth c T locs cells slots) (hx : p.tables.exec = Jvm.exec) (hZ : Z.Warmed39 s.vm) (eT : T.heap = h) {own K : String} {index n : Nat} (hown : s.vm.findClass own = some m.cls) (w : (Jvm.Cond.classLink own index K).before a0 Z = true) (wi : (Jvm.Cond.instantiable K n).before a0 Z = true) (wz : (Jvm.Cond.initialized K).before a0 Z = true) (hd : Dc c.code pc (.new index) 3 pc') (hcl : cells + 1 ≤ R.cells) (hsl : slots + n ≤ R.slots)
    (k : ∀ T' h' b, b = h.size → Stand p l e R s m args below meth c T' locs (cells + 1) (slots + n) → T'.heap = h' → Ext h h' → Exa Z h' b K → (∀ {O nm d : String} {ty : FieldType}, Laid Z a0 K O nm d → parseFieldDescriptor d = some ty → Fld Z h' b O nm d (defaultValue ty)) → Go p e below s Q C S (T'.setTop (mkF m pc' Ls (.ref b :: rest)))) : Go p e below s Q C S (T.setTop (mkF m pc Ls rest)) := by
  obtain ⟨hd, rfl⟩ := hd
  obtain ⟨T', h', X', e', E, A, D, -, st⟩ := newO X hx hZ hown w wi wz eT (g := mkF m pc Ls rest) rfl hd hcl hsl
  exact (k T' h' _ rfl X' e' E A D).step st
/-! arrays: n places, place i holds f i -/
def AV (Z : State) (h : Heap) (a : Addr) (ty : FieldType) (n : Nat) (f : Nat → Value) : Prop := n < 2 ^ 31 ∧ ∃ cl : Cell, Arr Z h a cl ty ∧ cl.slots.size = n ∧ ∀ i, i < n → cl.slots[i]? = some (f i)
theorem AV.lt {a : Addr} {ty : FieldType} {n : Nat} {f : Nat → Value} (A : AV Z h a ty n f) : a < h.size := by obtain ⟨-, c, A, -⟩ := A; exact A.lt
theorem AV.ext {a : Addr} {ty : FieldType} {n : Nat} {f : Nat → Value} {h' : Heap} (A : AV Z h a ty n f) (E : Ext h h') : AV Z h' a ty n f := by obtain ⟨h1, c, A, r⟩ := A; exact ⟨h1, c, A.ext E, r⟩
theorem AV.other {a b : Addr} {ty : FieldType} {n sl : Nat} {v : Value} {f : Nat → Value} {h' : Heap} (A : AV Z h a ty n f) (W : Wr h h' b sl v) (q : a ≠ b) : AV Z h' a ty n f := by obtain ⟨h1, c, A, r⟩ := A; exact ⟨h1, c, A.other W q, r⟩
theorem AV.keep {a : Addr} {ty : FieldType} {n : Nat} {ws : List Addr} {f : Nat → Value} {h' : Heap} (A : AV Z h a ty n f) (K : Keep h h' ws) (q : a ∉ ws) : AV Z h' a ty n f := by obtain ⟨h1, c, A, r⟩ := A; exact ⟨h1, c, ⟨K.2.1 a c A.1 q, A.2⟩, r⟩
theorem AV.congr {a : Addr} {ty : FieldType} {n : Nat} {f g : Nat → Value} (A : AV Z h a ty n f) (q : ∀ i, i < n → f i = g i) : AV Z h a ty n g := by obtain ⟨h1, c, A, r1, r2⟩ := A; exact ⟨h1, c, A, r1, fun i hi => by rw [r2 i hi, q i hi]⟩
theorem av_idx {j : Int32} {i n : Nat} {cl : Cell} (hj : j.toInt = (i : Int)) (hi : i < n) (hc : cl.slots.size = n) : ¬ (j < 0 ∨ cl.slots.size ≤ j.toNatClampNeg) ∧ j.toNatClampNeg = i := by
  have e0 : (0 : Int32).toInt = 0 := rfl
  simp only [Int32.lt_iff_toInt_lt, Int32.toNatClampNeg, e0, hj, hc]; omega
def put (f : Nat → Value) (i : Nat) (v : Value) : Nat → Value := fun k => if k = i then v else f k
theorem put_at (f : Nat → Value) (i : Nat) (v : Value) : put f i v i = v := by simp [put]
theorem put_ne (f : Nat → Value) {i k : Nat} (v : Value) (q : k ≠ i) : put f i v k = f k := by simp [put, q]
theorem AV.same {a : Addr} {ty : FieldType} {n : Nat} {v : Value} {f : Nat → Value} {h' : Heap} {i : Nat} (A : AV Z h a ty n f) (hi : i < n) (W : Wr h h' a i v) : AV Z h' a ty n (put f i v) := by
  obtain ⟨h1, c, A, r1, r2⟩ := A
  refine ⟨h1, _, A.same W, by rw [sz_set]; exact r1, fun k hk => ?_⟩
  by_cases u : k = i
  · subst u; rw [put_at]; simp [Cell.setSlot, r1, hk]
  · rw [put_ne _ _ u]; simp only [Cell.setSlot]; rw [Array.getElem?_setIfInBounds_ne (Ne.symm u)]; exact r2 k hk
theorem w_newarr (X : Stand p l e R s m args below meth c T locs cells slots) (hx : p.tables.exec = Jvm.exec) (hZ : Z.Warmed39 s.vm) (eT : T.heap = h) {aty : ArrayType} (w : (Jvm.Cond.arrayClass (newarray.typeOf aty)).before a0 Z = true) (hd : Dc c.code pc (.newarray aty) 2 pc') {z : Int32} {n cap : Nat} (hz : z.toInt = (n : Int)) (hcap : n ≤ cap) (hb : cap * 8 ≤ 536870912) (hcl : cells + 1 ≤ R.cells) (hsl : slots + cap ≤ R.slots)
    (k : ∀ T' h' b, b = h.size → Stand p l e R s m args below meth c T' locs (cells + 1) (slots + cap) → T'.heap = h' → Ext h h' → AV Z h' b (newarray.typeOf aty) n (fun _ => defaultValue (newarray.typeOf aty)) → Go p e below s Q C S (T'.setTop (mkF m pc' Ls (.ref b :: rest)))) : Go p e below s Q C S (T.setTop (mkF m pc Ls (.int z :: rest))) := by
  obtain ⟨hd, rfl⟩ := hd
  have e0 : (0 : Int32).toInt = 0 := rfl
  have hn : ¬ z < 0 := by rw [Int32.lt_iff_toInt_lt]; omega
  have en : z.toNatClampNeg = n := by simp only [Int32.toNatClampNeg]; omega
  have hlt := Int32.toInt_lt z
  obtain ⟨T', h', cA, X', e', E, A, st⟩ := newP X hx hZ w eT (g := mkF m pc Ls (.int z :: rest)) rfl hd rfl hn (cap := cap) (by omega) hb hcl hsl
  refine (k T' h' _ rfl X' e' E ⟨by omega, _, A, by rw [sz_new]; exact en, fun i hi => ?_⟩).step st
  simp [newA, en, hi]
theorem w_arrlen (X : Stand p l e R s m args below meth c T locs cells slots) (hx : p.tables.exec = Jvm.exec) (hZ : Z.Warmed39 s.vm) (eT : T.heap = h) {a : Addr} {ty : FieldType} {n : Nat} {f : Nat → Value} (A : AV Z h a ty n f) {z : Int32} (hz : z.toInt = (n : Int)) (hd : Dc c.code pc .arraylength 1 pc') (k : Go p e below s Q C S (T.setTop (mkF m pc' Ls (.int z :: rest)))) : Go p e below s Q C S (T.setTop (mkF m pc Ls (.ref a :: rest))) := by
  obtain ⟨hd, rfl⟩ := hd
  obtain ⟨h1, c, A, r1, -⟩ := A
  have ez : z = c.slots.size.toInt32 := Int32.toInt_inj.mp (by rw [len_toInt (by omega), hz, r1])
  subst ez
  exact k.step fun t q => X.arraylength hx (by rw [eT]; exact A.1) (State.isArrayOf_alike hZ.alike A.2.1) (g := mkF m pc Ls (.ref a :: rest)) rfl rfl hd t q
def iF (g : Nat → Int32) : Nat → Value := fun k => .int (g k)
def lF (g : Nat → Int64) : Nat → Value := fun k => .long (g k)
def upd {α : Type} (g : Nat → α) (i : Nat) (v : α) : Nat → α := fun k => if k = i then v else g k
theorem upd_at {α : Type} (g : Nat → α) (i : Nat) (v : α) : upd g i v i = v := by simp [upd]
theorem upd_ne {α : Type} (g : Nat → α) {i k : Nat} (v : α) (q : k ≠ i) : upd g i v k = g k := by simp [upd, q]
theorem put_iF (g : Nat → Int32) (i : Nat) (v : Int32) : put (iF g) i (.int v) = iF (upd g i v) := by funext k; simp only [put, iF, upd]; split <;> rfl
theorem put_lF (g : Nat → Int64) (i : Nat) (v : Int64) : put (lF g) i (.long v) = lF (upd g i v) := by funext k; simp only [put, lF, upd]; split <;> rfl
theorem w_baload (X : Stand p l e R s m args below meth c T locs cells slots) (hx : p.tables.exec = Jvm.exec) (hZ : Z.Warmed39 s.vm) (eT : T.heap = h) {a : Addr} {n : Nat} {g : Nat → Int32} (A : AV Z h a .byte n (iF g)) {j : Int32} {i : Nat} (hj : j.toInt = (i : Int)) (hi : i < n) {z : Int32} (hv : g i = z) (hd : Dc c.code pc .baload 1 pc') (k : Go p e below s Q C S (T.setTop (mkF m pc' Ls (.int z :: rest)))) : Go p e below s Q C S (T.setTop (mkF m pc Ls (.int j :: .ref a :: rest))) := by
  obtain ⟨hd, rfl⟩ := hd
  subst hv
  obtain ⟨h1, cl, A, r1, r2⟩ := A
  obtain ⟨q1, q2⟩ := av_idx hj hi r1
  exact k.step fun t q => X.baloadBytes hx (by rw [eT]; exact A.1) (State.isArrayOf_alike hZ.alike A.2.1) A.2.2 q1 (by rw [q2, r2 i hi]; rfl) (g := mkF m pc Ls (.int j :: .ref a :: rest)) rfl rfl hd t q
theorem w_iaload (X : Stand p l e R s m args below meth c T locs cells slots) (hx : p.tables.exec = Jvm.exec) (hZ : Z.Warmed39 s.vm) (eT : T.heap = h) {a : Addr} {n : Nat} {g : Nat → Int32} (A : AV Z h a .int n (iF g)) {j : Int32} {i : Nat} (hj : j.toInt = (i : Int)) (hi : i < n) {z : Int32} (hv : g i = z) (hd : Dc c.code pc .iaload 1 pc') (k : Go p e below s Q C S (T.setTop (mkF m pc' Ls (.int z :: rest)))) : Go p e below s Q C S (T.setTop (mkF m pc Ls (.int j :: .ref a :: rest))) := by
  obtain ⟨hd, rfl⟩ := hd
  subst hv
  obtain ⟨h1, cl, A, r1, r2⟩ := A
  obtain ⟨q1, q2⟩ := av_idx hj hi r1
  exact k.step fun t q => X.iaload hx (by rw [eT]; exact A.1) (State.isArrayOf_alike hZ.alike A.2.1) A.2.2 q1 (by rw [q2, r2 i hi]; rfl) (g := mkF m pc Ls (.int j :: .ref a :: rest)) rfl rfl hd t q
theorem w_laload (X : Stand p l e R s m args below meth c T locs cells slots) (hx : p.tables.exec = Jvm.exec) (hZ : Z.Warmed39 s.vm) (eT : T.heap = h) {a : Addr} {n : Nat} {g : Nat → Int64} (A : AV Z h a .long n (lF g)) {j : Int32} {i : Nat} (hj : j.toInt = (i : Int)) (hi : i < n) {z : Int64} (hv : g i = z) (hd : Dc c.code pc .laload 1 pc') (k : Go p e below s Q C S (T.setTop (mkF m pc' Ls (.long z :: rest)))) : Go p e below s Q C S (T.setTop (mkF m pc Ls (.int j :: .ref a :: rest))) := by
  obtain ⟨hd, rfl⟩ := hd
  subst hv
  obtain ⟨h1, cl, A, r1, r2⟩ := A
  obtain ⟨q1, q2⟩ := av_idx hj hi r1
  exact k.step fun t q => X.laload hx (by rw [eT]; exact A.1) (State.isArrayOf_alike hZ.alike A.2.1) A.2.2 q1 (by rw [q2, r2 i hi]; rfl) (g := mkF m pc Ls (.int j :: .ref a :: rest)) rfl rfl hd t q
theorem w_zaload (X : Stand p l e R s m args below meth c T locs cells slots) (hx : p.tables.exec = Jvm.exec) (hZ : Z.Warmed39 s.vm) (eT : T.heap = h) {a : Addr} {n : Nat} {g : Nat → Int32} (A : AV Z h a .boolean n (iF g)) {j : Int32} {i : Nat} (hj : j.toInt = (i : Int)) (hi : i < n) {z : Int32} (hv : g i = z) (hd : Dc c.code pc .baload 1 pc') (k : Go p e below s Q C S (T.setTop (mkF m pc' Ls (.int z :: rest)))) : Go p e below s Q C S (T.setTop (mkF m pc Ls (.int j :: .ref a :: rest))) := by
  obtain ⟨hd, rfl⟩ := hd
  subst hv
  obtain ⟨h1, cl, A, r1, r2⟩ := A
  obtain ⟨q1, q2⟩ := av_idx hj hi r1
  exact k.step fun t q => X.baloadBooleans hx (by rw [eT]; exact A.1) (State.isArrayOf_alike hZ.alike A.2.1) A.2.2 q1 (by rw [q2, r2 i hi]; rfl) (g := mkF m pc Ls (.int j :: .ref a :: rest)) rfl rfl hd t q
theorem w_bastore (X : Stand p l e R s m args below meth c T locs cells slots) (hx : p.tables.exec = Jvm.exec) (hZ : Z.Warmed39 s.vm) (eT : T.heap = h) {a : Addr} {n : Nat} {g : Nat → Int32} (A : AV Z h a .byte n (iF g)) {j : Int32} {x : Int32} {i : Nat} (hj : j.toInt = (i : Int)) (hi : i < n) (hd : Dc c.code pc .bastore 1 pc')
    (k : ∀ T' h', Stand p l e R s m args below meth c T' (locs ++ [⟨a, i⟩]) cells slots → T'.heap = h' → Wr h h' a i (.int (x.toInt8.toInt32)) → AV Z h' a .byte n (iF (upd g i (x.toInt8.toInt32))) → Go p e below s Q C S (T'.setTop (mkF m pc' Ls rest))) : Go p e below s Q C S (T.setTop (mkF m pc Ls (.int x :: .int j :: .ref a :: rest))) := by
  obtain ⟨hd, rfl⟩ := hd
  have A' := A
  obtain ⟨h1, cl, A, r1, r2⟩ := A
  obtain ⟨q1, q2⟩ := av_idx hj hi r1
  obtain ⟨T', h', X', e', W, st⟩ := stB X hx hZ eT A (j := j) q1 (g := mkF m pc Ls (.int x :: .int j :: .ref a :: rest)) rfl rfl hd
  rw [q2] at X' W
  exact (k T' h' X' e' W (put_iF g i _ ▸ A'.same hi W)).step st
theorem w_zastore (X : Stand p l e R s m args below meth c T locs cells slots) (hx : p.tables.exec = Jvm.exec) (hZ : Z.Warmed39 s.vm) (eT : T.heap = h) {a : Addr} {n : Nat} {g : Nat → Int32} (A : AV Z h a .boolean n (iF g)) {j : Int32} {x : Int32} {i : Nat} (hj : j.toInt = (i : Int)) (hi : i < n) (hd : Dc c.code pc .bastore 1 pc')
    (k : ∀ T' h', Stand p l e R s m args below meth c T' (locs ++ [⟨a, i⟩]) cells slots → T'.heap = h' → Wr h h' a i (.int (x &&& 1)) → AV Z h' a .boolean n (iF (upd g i (x &&& 1))) → Go p e below s Q C S (T'.setTop (mkF m pc' Ls rest))) : Go p e below s Q C S (T.setTop (mkF m pc Ls (.int x :: .int j :: .ref a :: rest))) := by
  obtain ⟨hd, rfl⟩ := hd
  have A' := A
  obtain ⟨h1, cl, A, r1, r2⟩ := A
  obtain ⟨q1, q2⟩ := av_idx hj hi r1
  obtain ⟨T', h', X', e', W, st⟩ := stZ X hx hZ eT A (j := j) q1 (g := mkF m pc Ls (.int x :: .int j :: .ref a :: rest)) rfl rfl hd
  rw [q2] at X' W
  exact (k T' h' X' e' W (put_iF g i _ ▸ A'.same hi W)).step st
theorem w_iastore (X : Stand p l e R s m args below meth c T locs cells slots) (hx : p.tables.exec = Jvm.exec) (hZ : Z.Warmed39 s.vm) (eT : T.heap = h) {a : Addr} {n : Nat} {g : Nat → Int32} (A : AV Z h a .int n (iF g)) {j : Int32} {x : Int32} {i : Nat} (hj : j.toInt = (i : Int)) (hi : i < n) (hd : Dc c.code pc .iastore 1 pc')
    (k : ∀ T' h', Stand p l e R s m args below meth c T' (locs ++ [⟨a, i⟩]) cells slots → T'.heap = h' → Wr h h' a i (.int (x)) → AV Z h' a .int n (iF (upd g i (x))) → Go p e below s Q C S (T'.setTop (mkF m pc' Ls rest))) : Go p e below s Q C S (T.setTop (mkF m pc Ls (.int x :: .int j :: .ref a :: rest))) := by
  obtain ⟨hd, rfl⟩ := hd
  have A' := A
  obtain ⟨h1, cl, A, r1, r2⟩ := A
  obtain ⟨q1, q2⟩ := av_idx hj hi r1
  obtain ⟨T', h', X', e', W, st⟩ := stI X hx hZ eT A (j := j) q1 (g := mkF m pc Ls (.int x :: .int j :: .ref a :: rest)) rfl rfl hd
  rw [q2] at X' W
  exact (k T' h' X' e' W (put_iF g i _ ▸ A'.same hi W)).step st
theorem w_lastore (X : Stand p l e R s m args below meth c T locs cells slots) (hx : p.tables.exec = Jvm.exec) (hZ : Z.Warmed39 s.vm) (eT : T.heap = h) {a : Addr} {n : Nat} {g : Nat → Int64} (A : AV Z h a .long n (lF g)) {j : Int32} {x : Int64} {i : Nat} (hj : j.toInt = (i : Int)) (hi : i < n) (hd : Dc c.code pc .lastore 1 pc')
    (k : ∀ T' h', Stand p l e R s m args below meth c T' (locs ++ [⟨a, i⟩]) cells slots → T'.heap = h' → Wr h h' a i (.long (x)) → AV Z h' a .long n (lF (upd g i (x))) → Go p e below s Q C S (T'.setTop (mkF m pc' Ls rest))) : Go p e below s Q C S (T.setTop (mkF m pc Ls (.long x :: .int j :: .ref a :: rest))) := by
  obtain ⟨hd, rfl⟩ := hd
  have A' := A
  obtain ⟨h1, cl, A, r1, r2⟩ := A
  obtain ⟨q1, q2⟩ := av_idx hj hi r1
  obtain ⟨T', h', X', e', W, st⟩ := stJ X hx hZ eT A (j := j) q1 (g := mkF m pc Ls (.long x :: .int j :: .ref a :: rest)) rfl rfl hd
  rw [q2] at X' W
  exact (k T' h' X' e' W (put_lF g i _ ▸ A'.same hi W)).step st
end Kit
section Num
/-! numbers: an int's or a long's unsigned worth -/
def u32 (x : Int32) : Nat := x.toBitVec.toNat
def u64 (x : Int64) : Nat := x.toBitVec.toNat
theorem u32_lt (x : Int32) : u32 x < 4294967296 := x.toBitVec.isLt
theorem u64_lt (x : Int64) : u64 x < 18446744073709551616 := x.toBitVec.isLt
theorem i_u32 (x : Int32) : x.toInt = if u32 x < 2147483648 then (u32 x : Int) else (u32 x : Int) - 4294967296 := by
  show x.toBitVec.toInt = _
  rw [BitVec.toInt_eq_toNat_cond]; unfold u32; split <;> split <;> omega
theorem i_u64 (x : Int64) : x.toInt = if u64 x < 9223372036854775808 then (u64 x : Int) else (u64 x : Int) - 18446744073709551616 := by
  show x.toBitVec.toInt = _
  rw [BitVec.toInt_eq_toNat_cond]; unfold u64; split <;> split <;> omega
theorem u32_i (x : Int32) : (u32 x : Int) = x.toInt % 4294967296 := by have := u32_lt x; rw [i_u32]; split <;> omega
theorem u64_i (x : Int64) : (u64 x : Int) = x.toInt % 18446744073709551616 := by have := u64_lt x; rw [i_u64]; split <;> omega
theorem u32_inj {x y : Int32} (q : u32 x = u32 y) : x = y := Int32.toBitVec_inj.mp (BitVec.eq_of_toNat_eq q)
theorem u64_inj {x y : Int64} (q : u64 x = u64 y) : x = y := Int64.toBitVec_inj.mp (BitVec.eq_of_toNat_eq q)
theorem i32_inj {x y : Int32} (q : x.toInt = y.toInt) : x = y := Int32.toInt_inj.mp q
theorem i64_inj {x y : Int64} (q : x.toInt = y.toInt) : x = y := Int64.toInt_inj.mp q
theorem i32_ne {x y : Int32} (q : x ≠ y) : x.toInt ≠ y.toInt := fun e => q (Int32.toInt_inj.mp e)
theorem i64_ne {x y : Int64} (q : x ≠ y) : x.toInt ≠ y.toInt := fun e => q (Int64.toInt_inj.mp e)
theorem i_rng32 (x : Int32) : -2147483648 ≤ x.toInt ∧ x.toInt ≤ 2147483647 := by have := u32_lt x; rw [i_u32]; split <;> omega
theorem i_rng64 (x : Int64) : -9223372036854775808 ≤ x.toInt ∧ x.toInt ≤ 9223372036854775807 := by have := u64_lt x; rw [i_u64]; split <;> omega
theorem u32_and (x m : Int32) {k : Nat} (hm : u32 m = 2 ^ k - 1) : u32 (x &&& m) = u32 x % 2 ^ k := by
  unfold u32 at *; rw [Int32.toBitVec_and, BitVec.toNat_and, hm, Nat.and_two_pow_sub_one_eq_mod]
theorem u64_and (x m : Int64) {k : Nat} (hm : u64 m = 2 ^ k - 1) : u64 (x &&& m) = u64 x % 2 ^ k := by
  unfold u64 at *; rw [Int64.toBitVec_and, BitVec.toNat_and, hm, Nat.and_two_pow_sub_one_eq_mod]
theorem and_or64 (x y z : Int64) : x &&& (y ||| z) = (x &&& y) ||| (x &&& z) := by
  apply Int64.toBitVec_inj.mp
  simp only [Int64.toBitVec_and, Int64.toBitVec_or]
  exact BitVec.and_or_distrib_left
theorem or_add {a b : Nat} (k : Nat) (ha : a % 2 ^ k = 0) (hb : b < 2 ^ k) : a ||| b = a + b := by
  obtain ⟨q, rfl⟩ := Nat.dvd_of_mod_eq_zero ha
  exact (Nat.two_pow_add_eq_or_of_lt hb q).symm
theorem u32_or {x y : Int32} (k : Nat) (ha : u32 x % 2 ^ k = 0) (hb : u32 y < 2 ^ k) : u32 (x ||| y) = u32 x + u32 y := by
  unfold u32 at *; rw [Int32.toBitVec_or, BitVec.toNat_or, or_add k ha hb]
theorem u64_or {x y : Int64} (k : Nat) (ha : u64 x % 2 ^ k = 0) (hb : u64 y < 2 ^ k) : u64 (x ||| y) = u64 x + u64 y := by
  unfold u64 at *; rw [Int64.toBitVec_or, BitVec.toNat_or, or_add k ha hb]
theorem u32_add (x y : Int32) : u32 (x + y) = (u32 x + u32 y) % 4294967296 := by unfold u32; rw [Int32.toBitVec_add, BitVec.toNat_add]
theorem u64_add (x y : Int64) : u64 (x + y) = (u64 x + u64 y) % 18446744073709551616 := by unfold u64; rw [Int64.toBitVec_add, BitVec.toNat_add]
theorem i_ofNat {k : Nat} (hk : k < 2147483648) : (Int32.ofNat k).toInt = (k : Int) := Int32.toInt_ofNat_of_lt (by omega)
theorem of_i {y : Int32} {k : Nat} (q : y.toInt = (k : Int)) : y = Int32.ofNat k := by
  have := i_rng32 y
  exact Int32.toInt_inj.mp (by rw [i_ofNat (by omega)]; exact q)
theorem sh64a : ∀ k : Fin 64, (((Int32.ofNat k.val &&& 0x3f).toInt64).toBitVec.smod 64).toNat = k.val := by decide +kernel
theorem sh64b : ∀ k : Fin 64, ((Int32.ofNat k.val &&& 0x3f).toInt64.toUInt64.toBitVec % 64).toNat = k.val := by decide +kernel
theorem sh32a : ∀ k : Fin 32, ((Int32.ofNat k.val &&& 31).toBitVec.smod 32).toNat = k.val := by decide +kernel
theorem sh32b : ∀ k : Fin 32, ((Int32.ofNat k.val &&& 31).toUInt32.toBitVec % 32).toNat = k.val := by decide +kernel
theorem u_lshl (x : Int64) {y : Int32} {k : Nat} (q : y.toInt = (k : Int)) (hk : k < 64) : u64 (LShl x y) = u64 x * 2 ^ k % 18446744073709551616 := by
  have e := sh64a ⟨k, hk⟩
  rw [of_i q]; unfold u64 LShl
  rw [Int64.toBitVec_shiftLeft, BitVec.shiftLeft_eq', e, BitVec.toNat_shiftLeft, Nat.shiftLeft_eq]
theorem i_lshr (x : Int64) {y : Int32} {k : Nat} (q : y.toInt = (k : Int)) (hk : k < 64) : (LShr x y).toInt = x.toInt / 2 ^ k := by
  have e := sh64a ⟨k, hk⟩
  rw [of_i q]; unfold LShr
  exact Jvm.Kit.i64_shr x _ e
theorem u_lushr (x : Int64) {y : Int32} {k : Nat} (q : y.toInt = (k : Int)) (hk : k < 64) : u64 (LUshr x y) = u64 x / 2 ^ k := by
  have e := sh64b ⟨k, hk⟩
  rw [of_i q]; unfold u64 LUshr
  show (x.toUInt64 >>> (Int32.ofNat k &&& 0x3f).toInt64.toUInt64).toBitVec.toNat = _
  rw [UInt64.toBitVec_shiftRight, BitVec.ushiftRight_eq', e, BitVec.toNat_ushiftRight, Nat.shiftRight_eq_div_pow]; rfl
theorem u_ishl (x : Int32) {y : Int32} {k : Nat} (q : y.toInt = (k : Int)) (hk : k < 32) : u32 (IShl x y) = u32 x * 2 ^ k % 4294967296 := by
  have e := sh32a ⟨k, hk⟩
  rw [of_i q]; unfold u32 IShl
  rw [Int32.toBitVec_shiftLeft, BitVec.shiftLeft_eq', e, BitVec.toNat_shiftLeft, Nat.shiftLeft_eq]
theorem i_ishr (x : Int32) {y : Int32} {k : Nat} (q : y.toInt = (k : Int)) (hk : k < 32) : (IShr x y).toInt = x.toInt / 2 ^ k := by
  have e := sh32a ⟨k, hk⟩
  rw [of_i q]; unfold IShr
  exact Jvm.Kit.i32_shr x _ e
theorem u_iushr (x : Int32) {y : Int32} {k : Nat} (q : y.toInt = (k : Int)) (hk : k < 32) : u32 (IUshr x y) = u32 x / 2 ^ k := by
  have e := sh32b ⟨k, hk⟩
  rw [of_i q]; unfold u32 IUshr
  show (x.toUInt32 >>> (Int32.ofNat k &&& 31).toUInt32).toBitVec.toNat = _
  rw [UInt32.toBitVec_shiftRight, BitVec.ushiftRight_eq', e, BitVec.toNat_ushiftRight, Nat.shiftRight_eq_div_pow]; rfl
theorem i_i2l (x : Int32) : x.toInt64.toInt = x.toInt := Int32.toInt_toInt64 x
theorem u_l2i (x : Int64) : u32 x.toInt32 = u64 x % 4294967296 := by
  have h1 := u32_i x.toInt32; have h2 := u64_i x
  have e : x.toInt.bmod (2 ^ 32) % 4294967296 = x.toInt % 4294967296 := Int.bmod_emod
  rw [Int64.toInt_toInt32, e] at h1
  omega
theorem i_i2b (x : Int32) : x.toInt8.toInt32.toInt = if x.toInt % 256 < 128 then x.toInt % 256 else x.toInt % 256 - 256 := by
  rw [Int8.toInt_toInt32, Int32.toInt_toInt8, Int.bmod_def]; split <;> split <;> omega
theorem u_i2b (x : Int32) : u32 x.toInt8.toInt32 % 256 = u32 x % 256 := by
  have h1 := u32_i x.toInt8.toInt32; have h2 := u32_i x; rw [i_i2b] at h1; split at h1 <;> omega
end Num
theorem d0_0 : Dc code 0 (.iload_n 2) 1 1 := ⟨at_0, rfl⟩
theorem d0_1 : Dc code 1 (.iconst 3) 1 2 := ⟨at_1, rfl⟩
theorem d0_2 : Dc code 2 (.iand) 1 3 := ⟨at_2, rfl⟩
theorem d0_3 : Dc code 3 (.istore 6) 2 5 := ⟨at_3, rfl⟩
theorem d0_5 : Dc code 5 (.bipush 12) 2 7 := ⟨at_5, rfl⟩
theorem d0_7 : Dc code 7 (.newarray .byte) 2 9 := ⟨at_7, rfl⟩
theorem d0_9 : Dc code 9 (.astore 7) 2 11 := ⟨at_9, rfl⟩
theorem d0_11 : Dc code 11 (.aload 7) 2 13 := ⟨at_11, rfl⟩
theorem d0_13 : Dc code 13 (.iconst 0) 1 14 := ⟨at_13, rfl⟩
theorem d0_14 : Dc code 14 (.lload_n 3) 1 15 := ⟨at_14, rfl⟩
theorem d0_15 : Dc code 15 (.l2i) 1 16 := ⟨at_15, rfl⟩
theorem d0_16 : Dc code 16 (.i2b) 1 17 := ⟨at_16, rfl⟩
theorem d0_17 : Dc code 17 (.bastore) 1 18 := ⟨at_17, rfl⟩
theorem d0_18 : Dc code 18 (.aload 7) 2 20 := ⟨at_18, rfl⟩
theorem d0_20 : Dc code 20 (.iconst 1) 1 21 := ⟨at_20, rfl⟩
theorem d0_21 : Dc code 21 (.lload_n 3) 1 22 := ⟨at_21, rfl⟩
theorem d0_22 : Dc code 22 (.bipush 8) 2 24 := ⟨at_22, rfl⟩
theorem d0_24 : Dc code 24 (.lushr) 1 25 := ⟨at_24, rfl⟩
theorem d0_25 : Dc code 25 (.l2i) 1 26 := ⟨at_25, rfl⟩
theorem d0_26 : Dc code 26 (.i2b) 1 27 := ⟨at_26, rfl⟩
theorem d0_27 : Dc code 27 (.bastore) 1 28 := ⟨at_27, rfl⟩
theorem d0_28 : Dc code 28 (.aload 7) 2 30 := ⟨at_28, rfl⟩
theorem d0_30 : Dc code 30 (.iconst 2) 1 31 := ⟨at_30, rfl⟩
theorem d0_31 : Dc code 31 (.lload_n 3) 1 32 := ⟨at_31, rfl⟩
theorem d0_32 : Dc code 32 (.bipush 16) 2 34 := ⟨at_32, rfl⟩
theorem d0_34 : Dc code 34 (.lushr) 1 35 := ⟨at_34, rfl⟩
theorem d0_35 : Dc code 35 (.l2i) 1 36 := ⟨at_35, rfl⟩
theorem d0_36 : Dc code 36 (.i2b) 1 37 := ⟨at_36, rfl⟩
theorem d0_37 : Dc code 37 (.bastore) 1 38 := ⟨at_37, rfl⟩
theorem d0_38 : Dc code 38 (.aload 7) 2 40 := ⟨at_38, rfl⟩
theorem d0_40 : Dc code 40 (.iconst 3) 1 41 := ⟨at_40, rfl⟩
theorem d0_41 : Dc code 41 (.lload_n 3) 1 42 := ⟨at_41, rfl⟩
theorem d0_42 : Dc code 42 (.bipush 24) 2 44 := ⟨at_42, rfl⟩
theorem d0_44 : Dc code 44 (.lushr) 1 45 := ⟨at_44, rfl⟩
theorem d0_45 : Dc code 45 (.l2i) 1 46 := ⟨at_45, rfl⟩
theorem d0_46 : Dc code 46 (.i2b) 1 47 := ⟨at_46, rfl⟩
theorem d0_47 : Dc code 47 (.bastore) 1 48 := ⟨at_47, rfl⟩
theorem d0_48 : Dc code 48 (.aload 7) 2 50 := ⟨at_48, rfl⟩
theorem d0_50 : Dc code 50 (.iconst 4) 1 51 := ⟨at_50, rfl⟩
theorem d0_51 : Dc code 51 (.lload_n 3) 1 52 := ⟨at_51, rfl⟩
theorem d0_52 : Dc code 52 (.bipush 32) 2 54 := ⟨at_52, rfl⟩
theorem d0_54 : Dc code 54 (.lushr) 1 55 := ⟨at_54, rfl⟩
theorem d0_55 : Dc code 55 (.l2i) 1 56 := ⟨at_55, rfl⟩
theorem d0_56 : Dc code 56 (.i2b) 1 57 := ⟨at_56, rfl⟩
theorem d0_57 : Dc code 57 (.bastore) 1 58 := ⟨at_57, rfl⟩
theorem d0_58 : Dc code 58 (.aload 7) 2 60 := ⟨at_58, rfl⟩
theorem d0_60 : Dc code 60 (.iconst 5) 1 61 := ⟨at_60, rfl⟩
theorem d0_61 : Dc code 61 (.lload_n 3) 1 62 := ⟨at_61, rfl⟩
theorem d0_62 : Dc code 62 (.bipush 40) 2 64 := ⟨at_62, rfl⟩
theorem d0_64 : Dc code 64 (.lushr) 1 65 := ⟨at_64, rfl⟩
theorem d0_65 : Dc code 65 (.l2i) 1 66 := ⟨at_65, rfl⟩
theorem d0_66 : Dc code 66 (.i2b) 1 67 := ⟨at_66, rfl⟩
theorem d0_67 : Dc code 67 (.bastore) 1 68 := ⟨at_67, rfl⟩
theorem d0_68 : Dc code 68 (.aload 7) 2 70 := ⟨at_68, rfl⟩
theorem d0_70 : Dc code 70 (.bipush 6) 2 72 := ⟨at_70, rfl⟩
theorem d0_72 : Dc code 72 (.lload_n 3) 1 73 := ⟨at_72, rfl⟩
theorem d0_73 : Dc code 73 (.bipush 48) 2 75 := ⟨at_73, rfl⟩
theorem d0_75 : Dc code 75 (.lushr) 1 76 := ⟨at_75, rfl⟩
theorem d0_76 : Dc code 76 (.l2i) 1 77 := ⟨at_76, rfl⟩
theorem d0_77 : Dc code 77 (.i2b) 1 78 := ⟨at_77, rfl⟩
theorem d0_78 : Dc code 78 (.bastore) 1 79 := ⟨at_78, rfl⟩
theorem d0_79 : Dc code 79 (.aload 7) 2 81 := ⟨at_79, rfl⟩
theorem d0_81 : Dc code 81 (.bipush 7) 2 83 := ⟨at_81, rfl⟩
theorem d0_83 : Dc code 83 (.lload_n 3) 1 84 := ⟨at_83, rfl⟩
theorem d0_84 : Dc code 84 (.bipush 56) 2 86 := ⟨at_84, rfl⟩
theorem d0_86 : Dc code 86 (.lushr) 1 87 := ⟨at_86, rfl⟩
theorem d0_87 : Dc code 87 (.l2i) 1 88 := ⟨at_87, rfl⟩
theorem d0_88 : Dc code 88 (.i2b) 1 89 := ⟨at_88, rfl⟩
theorem d0_89 : Dc code 89 (.bastore) 1 90 := ⟨at_89, rfl⟩
theorem d0_90 : Dc code 90 (.aload 7) 2 92 := ⟨at_90, rfl⟩
theorem d0_92 : Dc code 92 (.bipush 8) 2 94 := ⟨at_92, rfl⟩
theorem d0_94 : Dc code 94 (.iload 5) 2 96 := ⟨at_94, rfl⟩
theorem d0_96 : Dc code 96 (.i2b) 1 97 := ⟨at_96, rfl⟩
theorem d0_97 : Dc code 97 (.bastore) 1 98 := ⟨at_97, rfl⟩
theorem d0_98 : Dc code 98 (.aload 7) 2 100 := ⟨at_98, rfl⟩
theorem d0_100 : Dc code 100 (.bipush 9) 2 102 := ⟨at_100, rfl⟩
theorem d0_102 : Dc code 102 (.iload 5) 2 104 := ⟨at_102, rfl⟩
theorem d0_104 : Dc code 104 (.bipush 8) 2 106 := ⟨at_104, rfl⟩
theorem d0_106 : Dc code 106 (.iushr) 1 107 := ⟨at_106, rfl⟩
theorem d0_107 : Dc code 107 (.i2b) 1 108 := ⟨at_107, rfl⟩
theorem d0_108 : Dc code 108 (.bastore) 1 109 := ⟨at_108, rfl⟩
theorem d0_109 : Dc code 109 (.aload 7) 2 111 := ⟨at_109, rfl⟩
theorem d0_111 : Dc code 111 (.bipush 10) 2 113 := ⟨at_111, rfl⟩
theorem d0_113 : Dc code 113 (.iload 5) 2 115 := ⟨at_113, rfl⟩
theorem d0_115 : Dc code 115 (.bipush 16) 2 117 := ⟨at_115, rfl⟩
theorem d0_117 : Dc code 117 (.iushr) 1 118 := ⟨at_117, rfl⟩
theorem d0_118 : Dc code 118 (.i2b) 1 119 := ⟨at_118, rfl⟩
theorem d0_119 : Dc code 119 (.bastore) 1 120 := ⟨at_119, rfl⟩
theorem d0_120 : Dc code 120 (.aload 7) 2 122 := ⟨at_120, rfl⟩
theorem d0_122 : Dc code 122 (.bipush 11) 2 124 := ⟨at_122, rfl⟩
theorem d0_124 : Dc code 124 (.iload 5) 2 126 := ⟨at_124, rfl⟩
theorem d0_126 : Dc code 126 (.bipush 24) 2 128 := ⟨at_126, rfl⟩
theorem d0_128 : Dc code 128 (.iushr) 1 129 := ⟨at_128, rfl⟩
theorem d0_129 : Dc code 129 (.i2b) 1 130 := ⟨at_129, rfl⟩
theorem d0_130 : Dc code 130 (.bastore) 1 131 := ⟨at_130, rfl⟩
theorem d0_131 : Dc code 131 (.aload 7) 2 133 := ⟨at_131, rfl⟩
theorem d0_133 : Dc code 133 (.iload 6) 2 135 := ⟨at_133, rfl⟩
theorem d0_135 : Dc code 135 (.lload_n 0) 1 136 := ⟨at_135, rfl⟩
theorem d0_136 : Dc code 136 (.bipush 56) 2 138 := ⟨at_136, rfl⟩
theorem d0_138 : Dc code 138 (.lushr) 1 139 := ⟨at_138, rfl⟩
theorem d0_139 : Dc code 139 (.l2i) 1 140 := ⟨at_139, rfl⟩
theorem d0_140 : Dc code 140 (.i2b) 1 141 := ⟨at_140, rfl⟩
theorem d0_141 : Dc code 141 (.bastore) 1 142 := ⟨at_141, rfl⟩
theorem d0_142 : Dc code 142 (.aload 7) 2 144 := ⟨at_142, rfl⟩
theorem d0_144 : Dc code 144 (.iload 6) 2 146 := ⟨at_144, rfl⟩
theorem d0_146 : Dc code 146 (.iconst 1) 1 147 := ⟨at_146, rfl⟩
theorem d0_147 : Dc code 147 (.iadd) 1 148 := ⟨at_147, rfl⟩
theorem d0_148 : Dc code 148 (.lload_n 0) 1 149 := ⟨at_148, rfl⟩
theorem d0_149 : Dc code 149 (.bipush 48) 2 151 := ⟨at_149, rfl⟩
theorem d0_151 : Dc code 151 (.lushr) 1 152 := ⟨at_151, rfl⟩
theorem d0_152 : Dc code 152 (.l2i) 1 153 := ⟨at_152, rfl⟩
theorem d0_153 : Dc code 153 (.i2b) 1 154 := ⟨at_153, rfl⟩
theorem d0_154 : Dc code 154 (.bastore) 1 155 := ⟨at_154, rfl⟩
theorem d0_155 : Dc code 155 (.aload 7) 2 157 := ⟨at_155, rfl⟩
theorem d0_157 : Dc code 157 (.iload 6) 2 159 := ⟨at_157, rfl⟩
theorem d0_159 : Dc code 159 (.iconst 2) 1 160 := ⟨at_159, rfl⟩
theorem d0_160 : Dc code 160 (.iadd) 1 161 := ⟨at_160, rfl⟩
theorem d0_161 : Dc code 161 (.lload_n 0) 1 162 := ⟨at_161, rfl⟩
theorem d0_162 : Dc code 162 (.bipush 40) 2 164 := ⟨at_162, rfl⟩
theorem d0_164 : Dc code 164 (.lushr) 1 165 := ⟨at_164, rfl⟩
theorem d0_165 : Dc code 165 (.l2i) 1 166 := ⟨at_165, rfl⟩
theorem d0_166 : Dc code 166 (.i2b) 1 167 := ⟨at_166, rfl⟩
theorem d0_167 : Dc code 167 (.bastore) 1 168 := ⟨at_167, rfl⟩
theorem d0_168 : Dc code 168 (.aload 7) 2 170 := ⟨at_168, rfl⟩
theorem d0_170 : Dc code 170 (.iload 6) 2 172 := ⟨at_170, rfl⟩
theorem d0_172 : Dc code 172 (.iconst 3) 1 173 := ⟨at_172, rfl⟩
theorem d0_173 : Dc code 173 (.iadd) 1 174 := ⟨at_173, rfl⟩
theorem d0_174 : Dc code 174 (.lload_n 0) 1 175 := ⟨at_174, rfl⟩
theorem d0_175 : Dc code 175 (.bipush 32) 2 177 := ⟨at_175, rfl⟩
theorem d0_177 : Dc code 177 (.lushr) 1 178 := ⟨at_177, rfl⟩
theorem d0_178 : Dc code 178 (.l2i) 1 179 := ⟨at_178, rfl⟩
theorem d0_179 : Dc code 179 (.i2b) 1 180 := ⟨at_179, rfl⟩
theorem d0_180 : Dc code 180 (.bastore) 1 181 := ⟨at_180, rfl⟩
theorem d0_181 : Dc code 181 (.aload 7) 2 183 := ⟨at_181, rfl⟩
theorem d0_183 : Dc code 183 (.iload 6) 2 185 := ⟨at_183, rfl⟩
theorem d0_185 : Dc code 185 (.iconst 4) 1 186 := ⟨at_185, rfl⟩
theorem d0_186 : Dc code 186 (.iadd) 1 187 := ⟨at_186, rfl⟩
theorem d0_187 : Dc code 187 (.lload_n 0) 1 188 := ⟨at_187, rfl⟩
theorem d0_188 : Dc code 188 (.bipush 24) 2 190 := ⟨at_188, rfl⟩
theorem d0_190 : Dc code 190 (.lushr) 1 191 := ⟨at_190, rfl⟩
theorem d0_191 : Dc code 191 (.l2i) 1 192 := ⟨at_191, rfl⟩
theorem d0_192 : Dc code 192 (.i2b) 1 193 := ⟨at_192, rfl⟩
theorem d0_193 : Dc code 193 (.bastore) 1 194 := ⟨at_193, rfl⟩
theorem d0_194 : Dc code 194 (.aload 7) 2 196 := ⟨at_194, rfl⟩
theorem d0_196 : Dc code 196 (.iload 6) 2 198 := ⟨at_196, rfl⟩
theorem d0_198 : Dc code 198 (.iconst 5) 1 199 := ⟨at_198, rfl⟩
theorem d0_199 : Dc code 199 (.iadd) 1 200 := ⟨at_199, rfl⟩
theorem d0_200 : Dc code 200 (.lload_n 0) 1 201 := ⟨at_200, rfl⟩
theorem d0_201 : Dc code 201 (.bipush 16) 2 203 := ⟨at_201, rfl⟩
theorem d0_203 : Dc code 203 (.lushr) 1 204 := ⟨at_203, rfl⟩
theorem d0_204 : Dc code 204 (.l2i) 1 205 := ⟨at_204, rfl⟩
theorem d0_205 : Dc code 205 (.i2b) 1 206 := ⟨at_205, rfl⟩
theorem d0_206 : Dc code 206 (.bastore) 1 207 := ⟨at_206, rfl⟩
theorem d0_207 : Dc code 207 (.aload 7) 2 209 := ⟨at_207, rfl⟩
theorem d0_209 : Dc code 209 (.iload 6) 2 211 := ⟨at_209, rfl⟩
theorem d0_211 : Dc code 211 (.bipush 6) 2 213 := ⟨at_211, rfl⟩
theorem d0_213 : Dc code 213 (.iadd) 1 214 := ⟨at_213, rfl⟩
theorem d0_214 : Dc code 214 (.lload_n 0) 1 215 := ⟨at_214, rfl⟩
theorem d0_215 : Dc code 215 (.bipush 8) 2 217 := ⟨at_215, rfl⟩
theorem d0_217 : Dc code 217 (.lushr) 1 218 := ⟨at_217, rfl⟩
theorem d0_218 : Dc code 218 (.l2i) 1 219 := ⟨at_218, rfl⟩
theorem d0_219 : Dc code 219 (.i2b) 1 220 := ⟨at_219, rfl⟩
theorem d0_220 : Dc code 220 (.bastore) 1 221 := ⟨at_220, rfl⟩
theorem d0_221 : Dc code 221 (.aload 7) 2 223 := ⟨at_221, rfl⟩
theorem d0_223 : Dc code 223 (.iload 6) 2 225 := ⟨at_223, rfl⟩
theorem d0_225 : Dc code 225 (.bipush 7) 2 227 := ⟨at_225, rfl⟩
theorem d0_227 : Dc code 227 (.iadd) 1 228 := ⟨at_227, rfl⟩
theorem d0_228 : Dc code 228 (.lload_n 0) 1 229 := ⟨at_228, rfl⟩
theorem d0_229 : Dc code 229 (.l2i) 1 230 := ⟨at_229, rfl⟩
theorem d0_230 : Dc code 230 (.i2b) 1 231 := ⟨at_230, rfl⟩
theorem d0_231 : Dc code 231 (.bastore) 1 232 := ⟨at_231, rfl⟩
theorem d0_232 : Dc code 232 (.new 7) 3 235 := ⟨at_232, rfl⟩
theorem d0_235 : Dc code 235 (.dup) 1 236 := ⟨at_235, rfl⟩
theorem d0_236 : Dc code 236 (.aload 7) 2 238 := ⟨at_236, rfl⟩
theorem d0_238 : Dc code 238 (.iload 6) 2 240 := ⟨at_238, rfl⟩
theorem d0_240 : Dc code 240 (.bipush 12) 2 242 := ⟨at_240, rfl⟩
theorem d0_242 : Dc code 242 (.iload 6) 2 244 := ⟨at_242, rfl⟩
theorem d0_244 : Dc code 244 (.isub) 1 245 := ⟨at_244, rfl⟩
theorem d0_245 : Dc code 245 (.invokespecial 9) 3 248 := ⟨at_245, rfl⟩
theorem d0_248 : Dc code 248 (.astore 8) 2 250 := ⟨at_248, rfl⟩
theorem d0_250 : Dc code 250 (.aload 8) 2 252 := ⟨at_250, rfl⟩
theorem d0_252 : Dc code 252 (.invokevirtual 12) 3 255 := ⟨at_252, rfl⟩
theorem d0_255 : Dc code 255 (.lstore 9) 2 257 := ⟨at_255, rfl⟩
theorem d0_257 : Dc code 257 (.lload 9) 2 259 := ⟨at_257, rfl⟩
theorem d0_259 : Dc code 259 (.lload_n 0) 1 260 := ⟨at_259, rfl⟩
theorem d0_260 : Dc code 260 (.lcmp) 1 261 := ⟨at_260, rfl⟩
theorem d0_261 : Dj code 261 (.ifCond .ne 20) 20 281 264 := ⟨at_261, by decide, by decide, rfl⟩
theorem d0_264 : Dc code 264 (.aload 8) 2 266 := ⟨at_264, rfl⟩
theorem d0_266 : Dc code 266 (.invokevirtual 16) 3 269 := ⟨at_266, rfl⟩
theorem d0_269 : Dc code 269 (.iload 6) 2 271 := ⟨at_269, rfl⟩
theorem d0_271 : Dc code 271 (.bipush 8) 2 273 := ⟨at_271, rfl⟩
theorem d0_273 : Dc code 273 (.iadd) 1 274 := ⟨at_273, rfl⟩
theorem d0_274 : Dj code 274 (.if_icmp .ne 7) 7 281 277 := ⟨at_274, by decide, by decide, rfl⟩
theorem d0_277 : Dc code 277 (.iconst 1) 1 278 := ⟨at_277, rfl⟩
theorem d0_278 : Dj code 278 (.goto 4) 4 282 281 := ⟨at_278, by decide, by decide, rfl⟩
theorem d0_282 : Dc code 282 (.ireturn) 1 283 := ⟨at_282, rfl⟩
theorem pn_0 : plainFor x = true := plainFor_of_name (by first | (simp [plainName, overriddenIn]; done) | decide +kernel)
theorem ef_0 (m : MethodId) (x0 : Int64) (x1 : Int32) (x2 : Int64) (x3 : Int32) : entryFrame m #[(.long x0), (.int x1), (.long x2), (.int x3)] maxLocals = mkF m 0 #[.val (.long x0), .second, .val (.int x1), .val (.long x2), .second, .val (.int x3), .unset, .unset, .unset, .unset, .unset] [] := by first | (simp [entryFrame, mkF, argsToLocals, Value.category, maxLocals]; done) | rfl
theorem d1_0 : Dc prog_56_method_1_code 0 (.aload_n 0) 1 1 := ⟨by decide +kernel, rfl⟩
theorem d1_1 : Dc prog_56_method_1_code 1 (.invokespecial 3) 3 4 := ⟨by decide +kernel, rfl⟩
theorem d1_4 : Dc prog_56_method_1_code 4 (.aload_n 0) 1 5 := ⟨by decide +kernel, rfl⟩
theorem d1_5 : Dc prog_56_method_1_code 5 (.aload_n 1) 1 6 := ⟨by decide +kernel, rfl⟩
theorem d1_6 : Dc prog_56_method_1_code 6 (.putfield 9) 3 9 := ⟨by decide +kernel, rfl⟩
theorem d1_9 : Dc prog_56_method_1_code 9 (.aload_n 0) 1 10 := ⟨by decide +kernel, rfl⟩
theorem d1_10 : Dc prog_56_method_1_code 10 (.iload_n 2) 1 11 := ⟨by decide +kernel, rfl⟩
theorem d1_11 : Dc prog_56_method_1_code 11 (.putfield 15) 3 14 := ⟨by decide +kernel, rfl⟩
theorem d1_14 : Dc prog_56_method_1_code 14 (.aload_n 0) 1 15 := ⟨by decide +kernel, rfl⟩
theorem d1_15 : Dc prog_56_method_1_code 15 (.iload_n 2) 1 16 := ⟨by decide +kernel, rfl⟩
theorem d1_16 : Dc prog_56_method_1_code 16 (.iload_n 3) 1 17 := ⟨by decide +kernel, rfl⟩
theorem d1_17 : Dc prog_56_method_1_code 17 (.iadd) 1 18 := ⟨by decide +kernel, rfl⟩
theorem d1_18 : Dc prog_56_method_1_code 18 (.putfield 19) 3 21 := ⟨by decide +kernel, rfl⟩
theorem d1_21 : Dc prog_56_method_1_code 21 (.return_) 1 22 := ⟨by decide +kernel, rfl⟩
theorem pn_1 : plainFor (⟨"com/example/brodcast/brodcast/protobuf/MessageReader", "<init>", "([BII)V"⟩ : MethodName) = true := plainFor_of_name (by first | (simp [plainName, overriddenIn]; done) | decide +kernel)
theorem ef_1 (m : MethodId) (x0 : Addr) (x1 : Addr) (x2 : Int32) (x3 : Int32) : entryFrame m #[(.ref x0), (.ref x1), (.int x2), (.int x3)] 4 = mkF m 0 #[.val (.ref x0), .val (.ref x1), .val (.int x2), .val (.int x3)] [] := by first | (simp [entryFrame, mkF, argsToLocals, Value.category]; done) | rfl
theorem d3_0 : Dc prog_56_method_8_code 0 (.aload_n 0) 1 1 := ⟨by decide +kernel, rfl⟩
theorem d3_1 : Dc prog_56_method_8_code 1 (.getfield 9) 3 4 := ⟨by decide +kernel, rfl⟩
theorem d3_4 : Dc prog_56_method_8_code 4 (.astore_n 1) 1 5 := ⟨by decide +kernel, rfl⟩
theorem d3_5 : Dc prog_56_method_8_code 5 (.aload_n 0) 1 6 := ⟨by decide +kernel, rfl⟩
theorem d3_6 : Dc prog_56_method_8_code 6 (.getfield 15) 3 9 := ⟨by decide +kernel, rfl⟩
theorem d3_9 : Dc prog_56_method_8_code 9 (.istore_n 2) 1 10 := ⟨by decide +kernel, rfl⟩
theorem d3_10 : Dc prog_56_method_8_code 10 (.lconst 0) 1 11 := ⟨by decide +kernel, rfl⟩
theorem d3_11 : Dc prog_56_method_8_code 11 (.lstore_n 3) 1 12 := ⟨by decide +kernel, rfl⟩
theorem d3_12 : Dc prog_56_method_8_code 12 (.iload_n 2) 1 13 := ⟨by decide +kernel, rfl⟩
theorem d3_13 : Dc prog_56_method_8_code 13 (.istore 5) 2 15 := ⟨by decide +kernel, rfl⟩
theorem d3_15 : Dc prog_56_method_8_code 15 (.iload 5) 2 17 := ⟨by decide +kernel, rfl⟩
theorem d3_17 : Dc prog_56_method_8_code 17 (.iload_n 2) 1 18 := ⟨by decide +kernel, rfl⟩
theorem d3_18 : Dc prog_56_method_8_code 18 (.bipush 8) 2 20 := ⟨by decide +kernel, rfl⟩
theorem d3_20 : Dc prog_56_method_8_code 20 (.iadd) 1 21 := ⟨by decide +kernel, rfl⟩
theorem d3_21 : Dj prog_56_method_8_code 21 (.if_icmp .ge 24) 24 45 24 := ⟨by decide +kernel, by decide, by decide, rfl⟩
theorem d3_24 : Dc prog_56_method_8_code 24 (.lload_n 3) 1 25 := ⟨by decide +kernel, rfl⟩
theorem d3_25 : Dc prog_56_method_8_code 25 (.bipush 8) 2 27 := ⟨by decide +kernel, rfl⟩
theorem d3_27 : Dc prog_56_method_8_code 27 (.lshl) 1 28 := ⟨by decide +kernel, rfl⟩
theorem d3_28 : Dc prog_56_method_8_code 28 (.aload_n 1) 1 29 := ⟨by decide +kernel, rfl⟩
theorem d3_29 : Dc prog_56_method_8_code 29 (.iload 5) 2 31 := ⟨by decide +kernel, rfl⟩
theorem d3_31 : Dc prog_56_method_8_code 31 (.baload) 1 32 := ⟨by decide +kernel, rfl⟩
theorem d3_32 : Dc prog_56_method_8_code 32 (.sipush 255) 3 35 := ⟨by decide +kernel, rfl⟩
theorem d3_35 : Dc prog_56_method_8_code 35 (.iand) 1 36 := ⟨by decide +kernel, rfl⟩
theorem d3_36 : Dc prog_56_method_8_code 36 (.i2l) 1 37 := ⟨by decide +kernel, rfl⟩
theorem d3_37 : Dc prog_56_method_8_code 37 (.lor) 1 38 := ⟨by decide +kernel, rfl⟩
theorem d3_38 : Dc prog_56_method_8_code 38 (.lstore_n 3) 1 39 := ⟨by decide +kernel, rfl⟩
theorem d3_39 : Dc prog_56_method_8_code 39 (.iinc 5 1) 3 42 := ⟨by decide +kernel, rfl⟩
theorem d3_42 : Dj prog_56_method_8_code 42 (.goto (-27)) (-27) 15 45 := ⟨by decide +kernel, by decide, by decide, rfl⟩
theorem d3_45 : Dc prog_56_method_8_code 45 (.aload_n 0) 1 46 := ⟨by decide +kernel, rfl⟩
theorem d3_46 : Dc prog_56_method_8_code 46 (.iload_n 2) 1 47 := ⟨by decide +kernel, rfl⟩
theorem d3_47 : Dc prog_56_method_8_code 47 (.bipush 8) 2 49 := ⟨by decide +kernel, rfl⟩
theorem d3_49 : Dc prog_56_method_8_code 49 (.iadd) 1 50 := ⟨by decide +kernel, rfl⟩
theorem d3_50 : Dc prog_56_method_8_code 50 (.putfield 15) 3 53 := ⟨by decide +kernel, rfl⟩
theorem d3_53 : Dc prog_56_method_8_code 53 (.lload_n 3) 1 54 := ⟨by decide +kernel, rfl⟩
theorem d3_54 : Dc prog_56_method_8_code 54 (.lreturn) 1 55 := ⟨by decide +kernel, rfl⟩
theorem pn_3 : plainFor (⟨"com/example/brodcast/brodcast/protobuf/MessageReader", "readBigEndian64", "()J"⟩ : MethodName) = true := plainFor_of_name (by first | (simp [plainName, overriddenIn]; done) | decide +kernel)
theorem ef_3 (m : MethodId) (x0 : Addr) : entryFrame m #[(.ref x0)] 6 = mkF m 0 #[.val (.ref x0), .unset, .unset, .unset, .unset, .unset] [] := by first | (simp [entryFrame, mkF, argsToLocals, Value.category]; done) | rfl
theorem d4_0 : Dc prog_56_method_2_code 0 (.aload_n 0) 1 1 := ⟨by decide +kernel, rfl⟩
theorem d4_1 : Dc prog_56_method_2_code 1 (.getfield 15) 3 4 := ⟨by decide +kernel, rfl⟩
theorem d4_4 : Dc prog_56_method_2_code 4 (.ireturn) 1 5 := ⟨by decide +kernel, rfl⟩
theorem pn_4 : plainFor (⟨"com/example/brodcast/brodcast/protobuf/MessageReader", "position", "()I"⟩ : MethodName) = true := plainFor_of_name (by first | (simp [plainName, overriddenIn]; done) | decide +kernel)
theorem ef_4 (m : MethodId) (x0 : Addr) : entryFrame m #[(.ref x0)] 1 = mkF m 0 #[.val (.ref x0)] [] := by first | (simp [entryFrame, mkF, argsToLocals, Value.category]; done) | rfl
theorem pd_0 : parseMethodDescriptor "([BII)V" = some ⟨[(.array .byte), .int, .int], none⟩ := by decide +kernel
theorem pd_1 : parseMethodDescriptor "()J" = some ⟨[], some .long⟩ := by decide +kernel
theorem pd_2 : parseMethodDescriptor "()I" = some ⟨[], some .int⟩ := by decide +kernel

theorem i2b_i2b (x : Int32) : x.toInt8.toInt32.toInt8.toInt32 = x.toInt8.toInt32 := i32_inj (by
  have h1 := i_i2b x.toInt8.toInt32; have h2 := i_i2b x
  rw [h1]; split at h2 <;> split <;> omega)
theorem u_m8 (x : Int32) : u64 ((x &&& 255).toInt64) = u32 x % 256 := by
  have e1 : u32 (x &&& 255) = u32 x % 2 ^ 8 := u32_and _ _ (by decide)
  have h1 := u64_i (x &&& 255).toInt64; have h2 := i_u32 (x &&& 255)
  rw [i_i2l] at h1
  split at h2 <;> omega
theorem own_step {v : Int64} {b : Int32} {V s : Nat} (hs : s < 72057594037927936) (hv : u64 v = s) (hb : u32 b % 256 = V) : u64 (LShl v 8 ||| (b &&& 255).toInt64) = s * 256 + V := by
  have e1 : u64 (LShl v 8) = u64 v * 2 ^ 8 % 18446744073709551616 := u_lshl v (k := 8) rfl (by decide)
  have e2 := u_m8 b
  have e3 : u64 (LShl v 8 ||| (b &&& 255).toInt64) = u64 (LShl v 8) + u64 ((b &&& 255).toInt64) := u64_or 8 (by omega) (by omega)
  omega
theorem own_byte (v : Int64) {y : Int32} {k : Nat} (hy : y.toInt = (k : Int)) (hk : k < 64) : u32 ((LUshr v y).toInt32.toInt8.toInt32) % 256 = u64 v / 2 ^ k % 256 := by
  have e2 := u_i2b (LUshr v y).toInt32; have e3 := u_l2i (LUshr v y); have e4 := u_lushr v hy hk
  omega
theorem own_byte0 (v : Int64) : u32 (v.toInt32.toInt8.toInt32) % 256 = u64 v / 2 ^ 0 % 256 := by
  have e2 := u_i2b v.toInt32; have e3 := u_l2i v
  omega

set_option maxRecDepth 65536 in
set_option maxHeartbeats 40000000 in
theorem ct1 (l : Launch) (Z : State) (a0 : Array Value) (hw : ∀ d ∈ tables_1, d.before a0 Z = true) (x0 : Addr) (x1 : Addr) (x2 : Int32) (x3 : Int32) (n0 : Nat)  (h0 : Heap) (Z0 : n0 ≤ h0.size) (g_x0 : n0 ≤ x0) (E_x0 : Exa Z h0 x0 "com/example/brodcast/brodcast/protobuf/MessageReader") (F_bytes_x0 : Fld Z h0 x0 "com/example/brodcast/brodcast/protobuf/MessageReader" "bytes" "[B" .null) (F_position_x0 : Fld Z h0 x0 "com/example/brodcast/brodcast/protobuf/MessageReader" "position" "I" (.int (0 : Int32))) (F_limit_x0 : Fld Z h0 x0 "com/example/brodcast/brodcast/protobuf/MessageReader" "limit" "I" (.int (0 : Int32)))  :
    Ct l Z (⟨"com/example/brodcast/brodcast/protobuf/MessageReader", "<init>", "([BII)V"⟩ : MethodName) prog_56_method_1_code 4 none ({ frames := 1, cells := 0, slots := 0, locals := 12 } : Room) #[(.ref x0), (.ref x1), (.int x2), (.int x3)] h0 (fun v h' L => v = none ∧ Fr n0 L ∧ Keep h0 h' [x0] ∧ Exa Z h' x0 "com/example/brodcast/brodcast/protobuf/MessageReader" ∧ Fld Z h' x0 "com/example/brodcast/brodcast/protobuf/MessageReader" "bytes" "[B" (.ref x1) ∧ Fld Z h' x0 "com/example/brodcast/brodcast/protobuf/MessageReader" "position" "I" (.int x2) ∧ Fld Z h' x0 "com/example/brodcast/brodcast/protobuf/MessageReader" "limit" "I" (.int (x2 + x3))) := by
  refine Ct.body pn_1 ?_
  intro p e s m below meth c T X hx hby hml hown hnm hret hlk hZ eT
  rw [ef_1]
  have N := Fr.nil n0
  have K := Keep.refl h0 [x0]
  refine w_aloadN X hx (dq hby d1_0) rfl rfl ?_
  refine w_objinit X hx hZ eT hml (by rfl) hown (hw _ (List.mem_of_getElem? (i := 7) rfl)) (hw _ (List.mem_of_getElem? (i := 8) rfl)) (hw _ (List.mem_of_getElem? (i := 9) rfl)) (dq hby d1_1) (by decide) (W := 0) rfl (by decide) fun T X eT => ?_
  refine w_aloadN X hx (dq hby d1_4) rfl rfl ?_
  refine w_aloadN X hx (dq hby d1_5) rfl rfl ?_
  refine w_putf X hx hZ eT hown (hw _ (List.mem_of_getElem? (i := 10) rfl)) F_bytes_x0 E_x0 (Or.inr ⟨(hw _ (List.mem_of_getElem? (i := 11) rfl)), rfl, hnm⟩) (hw _ (List.mem_of_getElem? (i := 2) rfl)) (ty := (.array .byte)) (by decide) rfl rfl (dq hby d1_6) fun T h1 X eT W => ?_
  replace F_position_x0 := Fld.other W F_position_x0 (Or.inr (slot_ne (Or.inl (hw _ (List.mem_of_getElem? (i := 13) rfl))) (Or.inr (hw _ (List.mem_of_getElem? (i := 11) rfl))) (by decide) (t := .int) (t' := (.array .byte)) (by decide) (by decide)))
  replace F_limit_x0 := Fld.other W F_limit_x0 (Or.inr (slot_ne (Or.inl (hw _ (List.mem_of_getElem? (i := 15) rfl))) (Or.inr (hw _ (List.mem_of_getElem? (i := 11) rfl))) (by decide) (t := .int) (t' := (.array .byte)) (by decide) (by decide)))
  replace E_x0 := Exa.wr W E_x0
  replace Z0 := Nat.le_trans Z0 (Nat.le_of_eq W.size.symm)
  replace K := K.wr W (Or.inl (List.mem_singleton.mpr rfl))
  replace N := Fr.snoc X N g_x0
  replace F_bytes_x0 := Fld.same W F_bytes_x0
  refine w_aloadN X hx (dq hby d1_9) rfl rfl ?_
  refine w_iloadN X hx (dq hby d1_10) rfl ?_
  refine w_putf X hx hZ eT hown (hw _ (List.mem_of_getElem? (i := 12) rfl)) F_position_x0 E_x0 (Or.inl (hw _ (List.mem_of_getElem? (i := 13) rfl))) (hw _ (List.mem_of_getElem? (i := 2) rfl)) (ty := .int) (by decide) rfl rfl (dq hby d1_11) fun T h2 X eT W => ?_
  replace F_bytes_x0 := Fld.other W F_bytes_x0 (Or.inr (slot_ne (Or.inr (hw _ (List.mem_of_getElem? (i := 11) rfl))) (Or.inl (hw _ (List.mem_of_getElem? (i := 13) rfl))) (by decide) (t := (.array .byte)) (t' := .int) (by decide) (by decide)))
  replace F_limit_x0 := Fld.other W F_limit_x0 (Or.inr (slot_ne (Or.inl (hw _ (List.mem_of_getElem? (i := 15) rfl))) (Or.inl (hw _ (List.mem_of_getElem? (i := 13) rfl))) (by decide) (t := .int) (t' := .int) (by decide) (by decide)))
  replace E_x0 := Exa.wr W E_x0
  replace Z0 := Nat.le_trans Z0 (Nat.le_of_eq W.size.symm)
  replace K := K.wr W (Or.inl (List.mem_singleton.mpr rfl))
  replace N := Fr.snoc X N g_x0
  replace F_position_x0 := Fld.same W F_position_x0
  refine w_aloadN X hx (dq hby d1_14) rfl rfl ?_
  refine w_iloadN X hx (dq hby d1_15) rfl ?_
  refine w_iloadN X hx (dq hby d1_16) rfl ?_
  refine w_iadd X hx (dq hby d1_17) ?_
  obtain ⟨f1_18, hf1_18⟩ : ∃ z : Int32, z = (x2 + x3) := ⟨_, rfl⟩
  rw [← hf1_18]
  refine w_putf X hx hZ eT hown (hw _ (List.mem_of_getElem? (i := 14) rfl)) F_limit_x0 E_x0 (Or.inl (hw _ (List.mem_of_getElem? (i := 15) rfl))) (hw _ (List.mem_of_getElem? (i := 2) rfl)) (ty := .int) (by decide) rfl rfl (dq hby d1_18) fun T h3 X eT W => ?_
  replace F_bytes_x0 := Fld.other W F_bytes_x0 (Or.inr (slot_ne (Or.inr (hw _ (List.mem_of_getElem? (i := 11) rfl))) (Or.inl (hw _ (List.mem_of_getElem? (i := 15) rfl))) (by decide) (t := (.array .byte)) (t' := .int) (by decide) (by decide)))
  replace F_position_x0 := Fld.other W F_position_x0 (Or.inr (slot_ne (Or.inl (hw _ (List.mem_of_getElem? (i := 13) rfl))) (Or.inl (hw _ (List.mem_of_getElem? (i := 15) rfl))) (by decide) (t := .int) (t' := .int) (by decide) (by decide)))
  replace E_x0 := Exa.wr W E_x0
  replace Z0 := Nat.le_trans Z0 (Nat.le_of_eq W.size.symm)
  replace K := K.wr W (Or.inl (List.mem_singleton.mpr rfl))
  replace N := Fr.snoc X N g_x0
  replace F_limit_x0 := Fld.same W F_limit_x0
  refine w_ret X hx hret hlk (dq hby d1_21) (by decide) (by decide) ?_
  subst hf1_18
  rw [eT]
  exact ⟨rfl, N, K, E_x0, F_bytes_x0, F_position_x0, F_limit_x0⟩
set_option maxRecDepth 65536 in
set_option maxHeartbeats 40000000 in
theorem ct3 (l : Launch) (Z : State) (a0 : Array Value) (hw : ∀ d ∈ tables_1, d.before a0 Z = true) (x0 : Addr) (n0 : Nat) (ar : Addr) (ps lm : Int32) (n k : Nat) (g : Nat → Int32) (V : Int64) (h0 : Heap) (Z0 : n0 ≤ h0.size) (g_x0 : n0 ≤ x0) (hne : x0 ≠ ar) (E_x0 : Exa Z h0 x0 "com/example/brodcast/brodcast/protobuf/MessageReader") (F_bytes_x0 : Fld Z h0 x0 "com/example/brodcast/brodcast/protobuf/MessageReader" "bytes" "[B" (.ref ar)) (F_position_x0 : Fld Z h0 x0 "com/example/brodcast/brodcast/protobuf/MessageReader" "position" "I" (.int ps)) (F_limit_x0 : Fld Z h0 x0 "com/example/brodcast/brodcast/protobuf/MessageReader" "limit" "I" (.int lm)) (A : AV Z h0 ar .byte n (iF g)) (q0 : ps.toInt = (k : Int)) (hn : k + 8 ≤ n) (hb0 : u32 (g k) % 256 = u64 V / 2 ^ 56 % 256) (hb1 : u32 (g (k + 1)) % 256 = u64 V / 2 ^ 48 % 256) (hb2 : u32 (g (k + 2)) % 256 = u64 V / 2 ^ 40 % 256) (hb3 : u32 (g (k + 3)) % 256 = u64 V / 2 ^ 32 % 256) (hb4 : u32 (g (k + 4)) % 256 = u64 V / 2 ^ 24 % 256) (hb5 : u32 (g (k + 5)) % 256 = u64 V / 2 ^ 16 % 256) (hb6 : u32 (g (k + 6)) % 256 = u64 V / 2 ^ 8 % 256) (hb7 : u32 (g (k + 7)) % 256 = u64 V / 2 ^ 0 % 256) :
    Ct l Z (⟨"com/example/brodcast/brodcast/protobuf/MessageReader", "readBigEndian64", "()J"⟩ : MethodName) prog_56_method_8_code 6 (some .long) ({ frames := 0, cells := 0, slots := 0, locals := 0 } : Room) #[(.ref x0)] h0 (fun v h' L => v = some (.long V) ∧ Fr n0 L ∧ Keep h0 h' [x0] ∧ Exa Z h' x0 "com/example/brodcast/brodcast/protobuf/MessageReader" ∧ Fld Z h' x0 "com/example/brodcast/brodcast/protobuf/MessageReader" "bytes" "[B" (.ref ar) ∧ Fld Z h' x0 "com/example/brodcast/brodcast/protobuf/MessageReader" "position" "I" (.int (ps + 8)) ∧ Fld Z h' x0 "com/example/brodcast/brodcast/protobuf/MessageReader" "limit" "I" (.int lm)) := by
  refine Ct.body pn_3 ?_
  intro p e s m below meth c T X hx hby hml hown hnm hret hlk hZ eT
  rw [ef_3]
  have N := Fr.nil n0
  have K := Keep.refl h0 [x0]
  have hn2 := A.1
  have hV := u64_lt V
  have e8 : (ps + 8).toInt = ((k + 8 : Nat) : Int) := by rw [Jvm.Kit.i32_add] <;> (have : (8 : Int32).toInt = 8 := rfl) <;> omega
  have w0 : u64 (0 : Int64) = u64 V / 2 ^ 64 := by rw [show u64 (0 : Int64) = 0 by decide]; omega
  refine w_aloadN X hx (dq hby d3_0) rfl rfl ?_
  refine w_getf X hx hZ eT hown (hw _ (List.mem_of_getElem? (i := 10) rfl)) F_bytes_x0 (dq hby d3_1) fun T X eT => ?_
  refine w_astoreN X hx (dq hby d3_4) rfl (Ls' := #[.val (.ref x0), .val (.ref ar), .unset, .unset, .unset, .unset]) rfl ?_
  refine w_aloadN X hx (dq hby d3_5) rfl rfl ?_
  refine w_getf X hx hZ eT hown (hw _ (List.mem_of_getElem? (i := 12) rfl)) F_position_x0 (dq hby d3_6) fun T X eT => ?_
  refine w_istoreN X hx (dq hby d3_9) (z := ps) rfl (Ls' := #[.val (.ref x0), .val (.ref ar), .val (.int ps), .unset, .unset, .unset]) rfl ?_
  refine w_lconst X hx (dq hby d3_10) (z := 0) rfl ?_
  refine w_lstoreN X hx (dq hby d3_11) (z := (0 : Int64)) rfl (Ls' := #[.val (.ref x0), .val (.ref ar), .val (.int ps), .val (.long (0 : Int64)), .second, .unset]) rfl ?_
  refine w_iloadN X hx (dq hby d3_12) rfl ?_
  refine w_istore X hx (dq hby d3_13) (z := ps) rfl (Ls' := #[.val (.ref x0), .val (.ref ar), .val (.int ps), .val (.long (0 : Int64)), .second, .val (.int ps)]) rfl ?_
  refine w_iload X hx (dq hby d3_15) rfl ?_
  refine w_iloadN X hx (dq hby d3_17) rfl ?_
  refine w_bipush X hx (dq hby d3_18) (z := 8) rfl ?_
  refine w_iadd X hx (dq hby d3_20) ?_
  refine w_icmp_ge X hx (dj hby d3_21) (fun hc21 => (?_ : False).elim) (fun hc21 => ?_)
  · omega
  refine w_lloadN X hx (dq hby d3_24) rfl ?_
  refine w_bipush X hx (dq hby d3_25) (z := 8) rfl ?_
  refine w_lshl X hx (dq hby d3_27) ?_
  refine w_aloadN X hx (dq hby d3_28) rfl rfl ?_
  refine w_iload X hx (dq hby d3_29) rfl ?_
  refine w_baload X hx hZ eT A (i := k) (q0) (by omega) (z := (g k)) (rfl) (dq hby d3_31) ?_
  refine w_sipush X hx (dq hby d3_32) (z := 255) rfl ?_
  refine w_iand X hx (dq hby d3_35) ?_
  refine w_i2l X hx (dq hby d3_36) ?_
  refine w_lor X hx (dq hby d3_37) ?_
  obtain ⟨v3_38, hv3_38⟩ : ∃ z : Int64, z = ((LShl (0 : Int64) (8 : Int32)) ||| (((g k) &&& (255 : Int32)).toInt64)) := ⟨_, rfl⟩
  refine w_lstoreN X hx (dq hby d3_38) (z := v3_38) hv3_38 (Ls' := #[.val (.ref x0), .val (.ref ar), .val (.int ps), .val (.long v3_38), .second, .val (.int ps)]) rfl ?_
  have w1 : u64 v3_38 = u64 V / 2 ^ 56 := by
    rw [hv3_38, own_step (V := u64 V / 2 ^ 56 % 256) (s := u64 V / 2 ^ 64) (by omega) w0 (hb0)]; omega
  obtain ⟨v5_39, hv5_39⟩ : ∃ z : Int32, z = ps + (1 : Int32) := ⟨_, rfl⟩
  refine w_iinc X hx (dq hby d3_39) rfl hv5_39.symm (Ls' := #[.val (.ref x0), .val (.ref ar), .val (.int ps), .val (.long v3_38), .second, .val (.int v5_39)]) rfl ?_
  have q1 : v5_39.toInt = ((k + 1 : Nat) : Int) := by rw [hv5_39, Jvm.Kit.i32_add] <;> (have : (1 : Int32).toInt = 1 := rfl) <;> omega
  refine w_goto X hx (dj hby d3_42) ?_
  refine w_iload X hx (dq hby d3_15) rfl ?_
  refine w_iloadN X hx (dq hby d3_17) rfl ?_
  refine w_bipush X hx (dq hby d3_18) (z := 8) rfl ?_
  refine w_iadd X hx (dq hby d3_20) ?_
  refine w_icmp_ge X hx (dj hby d3_21) (fun hc21 => (?_ : False).elim) (fun hc21 => ?_)
  · omega
  refine w_lloadN X hx (dq hby d3_24) rfl ?_
  refine w_bipush X hx (dq hby d3_25) (z := 8) rfl ?_
  refine w_lshl X hx (dq hby d3_27) ?_
  refine w_aloadN X hx (dq hby d3_28) rfl rfl ?_
  refine w_iload X hx (dq hby d3_29) rfl ?_
  refine w_baload X hx hZ eT A (i := (k + 1)) (q1) (by omega) (z := (g (k + 1))) (rfl) (dq hby d3_31) ?_
  refine w_sipush X hx (dq hby d3_32) (z := 255) rfl ?_
  refine w_iand X hx (dq hby d3_35) ?_
  refine w_i2l X hx (dq hby d3_36) ?_
  refine w_lor X hx (dq hby d3_37) ?_
  obtain ⟨v3_38_r1, hv3_38_r1⟩ : ∃ z : Int64, z = ((LShl v3_38 (8 : Int32)) ||| (((g (k + 1)) &&& (255 : Int32)).toInt64)) := ⟨_, rfl⟩
  refine w_lstoreN X hx (dq hby d3_38) (z := v3_38_r1) hv3_38_r1 (Ls' := #[.val (.ref x0), .val (.ref ar), .val (.int ps), .val (.long v3_38_r1), .second, .val (.int v5_39)]) rfl ?_
  have w2 : u64 v3_38_r1 = u64 V / 2 ^ 48 := by
    rw [hv3_38_r1, own_step (V := u64 V / 2 ^ 48 % 256) (s := u64 V / 2 ^ 56) (by omega) w1 (hb1)]; omega
  obtain ⟨v5_39_r1, hv5_39_r1⟩ : ∃ z : Int32, z = v5_39 + (1 : Int32) := ⟨_, rfl⟩
  refine w_iinc X hx (dq hby d3_39) rfl hv5_39_r1.symm (Ls' := #[.val (.ref x0), .val (.ref ar), .val (.int ps), .val (.long v3_38_r1), .second, .val (.int v5_39_r1)]) rfl ?_
  have q2 : v5_39_r1.toInt = ((k + 2 : Nat) : Int) := by rw [hv5_39_r1, Jvm.Kit.i32_add] <;> (have : (1 : Int32).toInt = 1 := rfl) <;> omega
  refine w_goto X hx (dj hby d3_42) ?_
  refine w_iload X hx (dq hby d3_15) rfl ?_
  refine w_iloadN X hx (dq hby d3_17) rfl ?_
  refine w_bipush X hx (dq hby d3_18) (z := 8) rfl ?_
  refine w_iadd X hx (dq hby d3_20) ?_
  refine w_icmp_ge X hx (dj hby d3_21) (fun hc21 => (?_ : False).elim) (fun hc21 => ?_)
  · omega
  refine w_lloadN X hx (dq hby d3_24) rfl ?_
  refine w_bipush X hx (dq hby d3_25) (z := 8) rfl ?_
  refine w_lshl X hx (dq hby d3_27) ?_
  refine w_aloadN X hx (dq hby d3_28) rfl rfl ?_
  refine w_iload X hx (dq hby d3_29) rfl ?_
  refine w_baload X hx hZ eT A (i := (k + 2)) (q2) (by omega) (z := (g (k + 2))) (rfl) (dq hby d3_31) ?_
  refine w_sipush X hx (dq hby d3_32) (z := 255) rfl ?_
  refine w_iand X hx (dq hby d3_35) ?_
  refine w_i2l X hx (dq hby d3_36) ?_
  refine w_lor X hx (dq hby d3_37) ?_
  obtain ⟨v3_38_r2, hv3_38_r2⟩ : ∃ z : Int64, z = ((LShl v3_38_r1 (8 : Int32)) ||| (((g (k + 2)) &&& (255 : Int32)).toInt64)) := ⟨_, rfl⟩
  refine w_lstoreN X hx (dq hby d3_38) (z := v3_38_r2) hv3_38_r2 (Ls' := #[.val (.ref x0), .val (.ref ar), .val (.int ps), .val (.long v3_38_r2), .second, .val (.int v5_39_r1)]) rfl ?_
  have w3 : u64 v3_38_r2 = u64 V / 2 ^ 40 := by
    rw [hv3_38_r2, own_step (V := u64 V / 2 ^ 40 % 256) (s := u64 V / 2 ^ 48) (by omega) w2 (hb2)]; omega
  obtain ⟨v5_39_r2, hv5_39_r2⟩ : ∃ z : Int32, z = v5_39_r1 + (1 : Int32) := ⟨_, rfl⟩
  refine w_iinc X hx (dq hby d3_39) rfl hv5_39_r2.symm (Ls' := #[.val (.ref x0), .val (.ref ar), .val (.int ps), .val (.long v3_38_r2), .second, .val (.int v5_39_r2)]) rfl ?_
  have q3 : v5_39_r2.toInt = ((k + 3 : Nat) : Int) := by rw [hv5_39_r2, Jvm.Kit.i32_add] <;> (have : (1 : Int32).toInt = 1 := rfl) <;> omega
  refine w_goto X hx (dj hby d3_42) ?_
  refine w_iload X hx (dq hby d3_15) rfl ?_
  refine w_iloadN X hx (dq hby d3_17) rfl ?_
  refine w_bipush X hx (dq hby d3_18) (z := 8) rfl ?_
  refine w_iadd X hx (dq hby d3_20) ?_
  refine w_icmp_ge X hx (dj hby d3_21) (fun hc21 => (?_ : False).elim) (fun hc21 => ?_)
  · omega
  refine w_lloadN X hx (dq hby d3_24) rfl ?_
  refine w_bipush X hx (dq hby d3_25) (z := 8) rfl ?_
  refine w_lshl X hx (dq hby d3_27) ?_
  refine w_aloadN X hx (dq hby d3_28) rfl rfl ?_
  refine w_iload X hx (dq hby d3_29) rfl ?_
  refine w_baload X hx hZ eT A (i := (k + 3)) (q3) (by omega) (z := (g (k + 3))) (rfl) (dq hby d3_31) ?_
  refine w_sipush X hx (dq hby d3_32) (z := 255) rfl ?_
  refine w_iand X hx (dq hby d3_35) ?_
  refine w_i2l X hx (dq hby d3_36) ?_
  refine w_lor X hx (dq hby d3_37) ?_
  obtain ⟨v3_38_r3, hv3_38_r3⟩ : ∃ z : Int64, z = ((LShl v3_38_r2 (8 : Int32)) ||| (((g (k + 3)) &&& (255 : Int32)).toInt64)) := ⟨_, rfl⟩
  refine w_lstoreN X hx (dq hby d3_38) (z := v3_38_r3) hv3_38_r3 (Ls' := #[.val (.ref x0), .val (.ref ar), .val (.int ps), .val (.long v3_38_r3), .second, .val (.int v5_39_r2)]) rfl ?_
  have w4 : u64 v3_38_r3 = u64 V / 2 ^ 32 := by
    rw [hv3_38_r3, own_step (V := u64 V / 2 ^ 32 % 256) (s := u64 V / 2 ^ 40) (by omega) w3 (hb3)]; omega
  obtain ⟨v5_39_r3, hv5_39_r3⟩ : ∃ z : Int32, z = v5_39_r2 + (1 : Int32) := ⟨_, rfl⟩
  refine w_iinc X hx (dq hby d3_39) rfl hv5_39_r3.symm (Ls' := #[.val (.ref x0), .val (.ref ar), .val (.int ps), .val (.long v3_38_r3), .second, .val (.int v5_39_r3)]) rfl ?_
  have q4 : v5_39_r3.toInt = ((k + 4 : Nat) : Int) := by rw [hv5_39_r3, Jvm.Kit.i32_add] <;> (have : (1 : Int32).toInt = 1 := rfl) <;> omega
  refine w_goto X hx (dj hby d3_42) ?_
  refine w_iload X hx (dq hby d3_15) rfl ?_
  refine w_iloadN X hx (dq hby d3_17) rfl ?_
  refine w_bipush X hx (dq hby d3_18) (z := 8) rfl ?_
  refine w_iadd X hx (dq hby d3_20) ?_
  refine w_icmp_ge X hx (dj hby d3_21) (fun hc21 => (?_ : False).elim) (fun hc21 => ?_)
  · omega
  refine w_lloadN X hx (dq hby d3_24) rfl ?_
  refine w_bipush X hx (dq hby d3_25) (z := 8) rfl ?_
  refine w_lshl X hx (dq hby d3_27) ?_
  refine w_aloadN X hx (dq hby d3_28) rfl rfl ?_
  refine w_iload X hx (dq hby d3_29) rfl ?_
  refine w_baload X hx hZ eT A (i := (k + 4)) (q4) (by omega) (z := (g (k + 4))) (rfl) (dq hby d3_31) ?_
  refine w_sipush X hx (dq hby d3_32) (z := 255) rfl ?_
  refine w_iand X hx (dq hby d3_35) ?_
  refine w_i2l X hx (dq hby d3_36) ?_
  refine w_lor X hx (dq hby d3_37) ?_
  obtain ⟨v3_38_r4, hv3_38_r4⟩ : ∃ z : Int64, z = ((LShl v3_38_r3 (8 : Int32)) ||| (((g (k + 4)) &&& (255 : Int32)).toInt64)) := ⟨_, rfl⟩
  refine w_lstoreN X hx (dq hby d3_38) (z := v3_38_r4) hv3_38_r4 (Ls' := #[.val (.ref x0), .val (.ref ar), .val (.int ps), .val (.long v3_38_r4), .second, .val (.int v5_39_r3)]) rfl ?_
  have w5 : u64 v3_38_r4 = u64 V / 2 ^ 24 := by
    rw [hv3_38_r4, own_step (V := u64 V / 2 ^ 24 % 256) (s := u64 V / 2 ^ 32) (by omega) w4 (hb4)]; omega
  obtain ⟨v5_39_r4, hv5_39_r4⟩ : ∃ z : Int32, z = v5_39_r3 + (1 : Int32) := ⟨_, rfl⟩
  refine w_iinc X hx (dq hby d3_39) rfl hv5_39_r4.symm (Ls' := #[.val (.ref x0), .val (.ref ar), .val (.int ps), .val (.long v3_38_r4), .second, .val (.int v5_39_r4)]) rfl ?_
  have q5 : v5_39_r4.toInt = ((k + 5 : Nat) : Int) := by rw [hv5_39_r4, Jvm.Kit.i32_add] <;> (have : (1 : Int32).toInt = 1 := rfl) <;> omega
  refine w_goto X hx (dj hby d3_42) ?_
  refine w_iload X hx (dq hby d3_15) rfl ?_
  refine w_iloadN X hx (dq hby d3_17) rfl ?_
  refine w_bipush X hx (dq hby d3_18) (z := 8) rfl ?_
  refine w_iadd X hx (dq hby d3_20) ?_
  refine w_icmp_ge X hx (dj hby d3_21) (fun hc21 => (?_ : False).elim) (fun hc21 => ?_)
  · omega
  refine w_lloadN X hx (dq hby d3_24) rfl ?_
  refine w_bipush X hx (dq hby d3_25) (z := 8) rfl ?_
  refine w_lshl X hx (dq hby d3_27) ?_
  refine w_aloadN X hx (dq hby d3_28) rfl rfl ?_
  refine w_iload X hx (dq hby d3_29) rfl ?_
  refine w_baload X hx hZ eT A (i := (k + 5)) (q5) (by omega) (z := (g (k + 5))) (rfl) (dq hby d3_31) ?_
  refine w_sipush X hx (dq hby d3_32) (z := 255) rfl ?_
  refine w_iand X hx (dq hby d3_35) ?_
  refine w_i2l X hx (dq hby d3_36) ?_
  refine w_lor X hx (dq hby d3_37) ?_
  obtain ⟨v3_38_r5, hv3_38_r5⟩ : ∃ z : Int64, z = ((LShl v3_38_r4 (8 : Int32)) ||| (((g (k + 5)) &&& (255 : Int32)).toInt64)) := ⟨_, rfl⟩
  refine w_lstoreN X hx (dq hby d3_38) (z := v3_38_r5) hv3_38_r5 (Ls' := #[.val (.ref x0), .val (.ref ar), .val (.int ps), .val (.long v3_38_r5), .second, .val (.int v5_39_r4)]) rfl ?_
  have w6 : u64 v3_38_r5 = u64 V / 2 ^ 16 := by
    rw [hv3_38_r5, own_step (V := u64 V / 2 ^ 16 % 256) (s := u64 V / 2 ^ 24) (by omega) w5 (hb5)]; omega
  obtain ⟨v5_39_r5, hv5_39_r5⟩ : ∃ z : Int32, z = v5_39_r4 + (1 : Int32) := ⟨_, rfl⟩
  refine w_iinc X hx (dq hby d3_39) rfl hv5_39_r5.symm (Ls' := #[.val (.ref x0), .val (.ref ar), .val (.int ps), .val (.long v3_38_r5), .second, .val (.int v5_39_r5)]) rfl ?_
  have q6 : v5_39_r5.toInt = ((k + 6 : Nat) : Int) := by rw [hv5_39_r5, Jvm.Kit.i32_add] <;> (have : (1 : Int32).toInt = 1 := rfl) <;> omega
  refine w_goto X hx (dj hby d3_42) ?_
  refine w_iload X hx (dq hby d3_15) rfl ?_
  refine w_iloadN X hx (dq hby d3_17) rfl ?_
  refine w_bipush X hx (dq hby d3_18) (z := 8) rfl ?_
  refine w_iadd X hx (dq hby d3_20) ?_
  refine w_icmp_ge X hx (dj hby d3_21) (fun hc21 => (?_ : False).elim) (fun hc21 => ?_)
  · omega
  refine w_lloadN X hx (dq hby d3_24) rfl ?_
  refine w_bipush X hx (dq hby d3_25) (z := 8) rfl ?_
  refine w_lshl X hx (dq hby d3_27) ?_
  refine w_aloadN X hx (dq hby d3_28) rfl rfl ?_
  refine w_iload X hx (dq hby d3_29) rfl ?_
  refine w_baload X hx hZ eT A (i := (k + 6)) (q6) (by omega) (z := (g (k + 6))) (rfl) (dq hby d3_31) ?_
  refine w_sipush X hx (dq hby d3_32) (z := 255) rfl ?_
  refine w_iand X hx (dq hby d3_35) ?_
  refine w_i2l X hx (dq hby d3_36) ?_
  refine w_lor X hx (dq hby d3_37) ?_
  obtain ⟨v3_38_r6, hv3_38_r6⟩ : ∃ z : Int64, z = ((LShl v3_38_r5 (8 : Int32)) ||| (((g (k + 6)) &&& (255 : Int32)).toInt64)) := ⟨_, rfl⟩
  refine w_lstoreN X hx (dq hby d3_38) (z := v3_38_r6) hv3_38_r6 (Ls' := #[.val (.ref x0), .val (.ref ar), .val (.int ps), .val (.long v3_38_r6), .second, .val (.int v5_39_r5)]) rfl ?_
  have w7 : u64 v3_38_r6 = u64 V / 2 ^ 8 := by
    rw [hv3_38_r6, own_step (V := u64 V / 2 ^ 8 % 256) (s := u64 V / 2 ^ 16) (by omega) w6 (hb6)]; omega
  obtain ⟨v5_39_r6, hv5_39_r6⟩ : ∃ z : Int32, z = v5_39_r5 + (1 : Int32) := ⟨_, rfl⟩
  refine w_iinc X hx (dq hby d3_39) rfl hv5_39_r6.symm (Ls' := #[.val (.ref x0), .val (.ref ar), .val (.int ps), .val (.long v3_38_r6), .second, .val (.int v5_39_r6)]) rfl ?_
  have q7 : v5_39_r6.toInt = ((k + 7 : Nat) : Int) := by rw [hv5_39_r6, Jvm.Kit.i32_add] <;> (have : (1 : Int32).toInt = 1 := rfl) <;> omega
  refine w_goto X hx (dj hby d3_42) ?_
  refine w_iload X hx (dq hby d3_15) rfl ?_
  refine w_iloadN X hx (dq hby d3_17) rfl ?_
  refine w_bipush X hx (dq hby d3_18) (z := 8) rfl ?_
  refine w_iadd X hx (dq hby d3_20) ?_
  refine w_icmp_ge X hx (dj hby d3_21) (fun hc21 => (?_ : False).elim) (fun hc21 => ?_)
  · omega
  refine w_lloadN X hx (dq hby d3_24) rfl ?_
  refine w_bipush X hx (dq hby d3_25) (z := 8) rfl ?_
  refine w_lshl X hx (dq hby d3_27) ?_
  refine w_aloadN X hx (dq hby d3_28) rfl rfl ?_
  refine w_iload X hx (dq hby d3_29) rfl ?_
  refine w_baload X hx hZ eT A (i := (k + 7)) (q7) (by omega) (z := (g (k + 7))) (rfl) (dq hby d3_31) ?_
  refine w_sipush X hx (dq hby d3_32) (z := 255) rfl ?_
  refine w_iand X hx (dq hby d3_35) ?_
  refine w_i2l X hx (dq hby d3_36) ?_
  refine w_lor X hx (dq hby d3_37) ?_
  obtain ⟨v3_38_r7, hv3_38_r7⟩ : ∃ z : Int64, z = ((LShl v3_38_r6 (8 : Int32)) ||| (((g (k + 7)) &&& (255 : Int32)).toInt64)) := ⟨_, rfl⟩
  refine w_lstoreN X hx (dq hby d3_38) (z := v3_38_r7) hv3_38_r7 (Ls' := #[.val (.ref x0), .val (.ref ar), .val (.int ps), .val (.long v3_38_r7), .second, .val (.int v5_39_r6)]) rfl ?_
  have w8 : u64 v3_38_r7 = u64 V / 2 ^ 0 := by
    rw [hv3_38_r7, own_step (V := u64 V / 2 ^ 0 % 256) (s := u64 V / 2 ^ 8) (by omega) w7 (hb7)]; omega
  obtain ⟨v5_39_r7, hv5_39_r7⟩ : ∃ z : Int32, z = v5_39_r6 + (1 : Int32) := ⟨_, rfl⟩
  refine w_iinc X hx (dq hby d3_39) rfl hv5_39_r7.symm (Ls' := #[.val (.ref x0), .val (.ref ar), .val (.int ps), .val (.long v3_38_r7), .second, .val (.int v5_39_r7)]) rfl ?_
  have q8 : v5_39_r7.toInt = ((k + 8 : Nat) : Int) := by rw [hv5_39_r7, Jvm.Kit.i32_add] <;> (have : (1 : Int32).toInt = 1 := rfl) <;> omega
  refine w_goto X hx (dj hby d3_42) ?_
  refine w_iload X hx (dq hby d3_15) rfl ?_
  refine w_iloadN X hx (dq hby d3_17) rfl ?_
  refine w_bipush X hx (dq hby d3_18) (z := 8) rfl ?_
  refine w_iadd X hx (dq hby d3_20) ?_
  refine w_icmp_ge X hx (dj hby d3_21) (fun hc21 => ?_) (fun hc21 => (?_ : False).elim)
  rotate_left
  · omega
  refine w_aloadN X hx (dq hby d3_45) rfl rfl ?_
  refine w_iloadN X hx (dq hby d3_46) rfl ?_
  refine w_bipush X hx (dq hby d3_47) (z := 8) rfl ?_
  refine w_iadd X hx (dq hby d3_49) ?_
  obtain ⟨f3_50, hf3_50⟩ : ∃ z : Int32, z = (ps + (8 : Int32)) := ⟨_, rfl⟩
  rw [← hf3_50]
  refine w_putf X hx hZ eT hown (hw _ (List.mem_of_getElem? (i := 12) rfl)) F_position_x0 E_x0 (Or.inl (hw _ (List.mem_of_getElem? (i := 13) rfl))) (hw _ (List.mem_of_getElem? (i := 2) rfl)) (ty := .int) (by decide) rfl rfl (dq hby d3_50) fun T h1 X eT W => ?_
  replace F_bytes_x0 := Fld.other W F_bytes_x0 (Or.inr (slot_ne (Or.inr (hw _ (List.mem_of_getElem? (i := 11) rfl))) (Or.inl (hw _ (List.mem_of_getElem? (i := 13) rfl))) (by decide) (t := (.array .byte)) (t' := .int) (by decide) (by decide)))
  replace F_limit_x0 := Fld.other W F_limit_x0 (Or.inr (slot_ne (Or.inl (hw _ (List.mem_of_getElem? (i := 15) rfl))) (Or.inl (hw _ (List.mem_of_getElem? (i := 13) rfl))) (by decide) (t := .int) (t' := .int) (by decide) (by decide)))
  replace E_x0 := Exa.wr W E_x0
  replace A := AV.other A W (Ne.symm hne)
  replace Z0 := Nat.le_trans Z0 (Nat.le_of_eq W.size.symm)
  replace K := K.wr W (Or.inl (List.mem_singleton.mpr rfl))
  replace N := Fr.snoc X N g_x0
  replace F_position_x0 := Fld.same W F_position_x0
  refine w_lloadN X hx (dq hby d3_53) rfl ?_
  refine w_retJ X hx hret hlk (dq hby d3_54) (by decide) (by decide) ?_
  have ev : v3_38_r7 = V := u64_inj (by rw [w8]; omega)
  subst hf3_50
  rw [eT]
  exact ⟨by rw [ev], N, K, E_x0, F_bytes_x0, F_position_x0, F_limit_x0⟩
set_option maxRecDepth 65536 in
set_option maxHeartbeats 40000000 in
theorem ct4 (l : Launch) (Z : State) (a0 : Array Value) (hw : ∀ d ∈ tables_1, d.before a0 Z = true) (x0 : Addr) (vv : Int32) (h0 : Heap) (F_position_x0 : Fld Z h0 x0 "com/example/brodcast/brodcast/protobuf/MessageReader" "position" "I" (.int vv)) :
    Ct l Z (⟨"com/example/brodcast/brodcast/protobuf/MessageReader", "position", "()I"⟩ : MethodName) prog_56_method_2_code 1 (some .int) ({ frames := 0, cells := 0, slots := 0, locals := 0 } : Room) #[(.ref x0)] h0 (fun v h' L => v = some (.int vv) ∧ h' = h0 ∧ L = []) := by
  refine Ct.body pn_4 ?_
  intro p e s m below meth c T X hx hby hml hown hnm hret hlk hZ eT
  rw [ef_4]

  refine w_aloadN X hx (dq hby d4_0) rfl rfl ?_
  refine w_getf X hx hZ eT hown (hw _ (List.mem_of_getElem? (i := 12) rfl)) F_position_x0 (dq hby d4_1) fun T X eT => ?_
  refine w_retI X hx hret hlk (dq hby d4_4) (by decide) (by decide) ?_
  exact ⟨rfl, eT, rfl⟩
def Q0 (n0 : Nat) (v : Option Value) (h : Heap) (L : List Loc) : Prop := v = some (.int (1 : Int32)) ∧ Fr n0 L
set_option maxRecDepth 65536 in
set_option maxHeartbeats 40000000 in
theorem rm0 (l : Launch) (Z : State) (a0 : Array Value) (hw : ∀ d ∈ tables_1, d.before a0 Z = true) (ws : List Jvm.Cond) (i0 : Int64) (i1 : Int32) (i2 : Int64) (i3 : Int32) (h0 : Heap) (n0 : Nat) (Z0 : n0 ≤ h0.size) :
    MetFree l x (head1 (Jvm.Cond.code x code maxLocals ret :: ws) room_1) (fun a U => a = #[(.long i0), (.int i1), (.long i2), (.int i3)] ∧ Z.Warmed39 U.vm ∧ U.heap = h0) (fun _ _ _ _ _ => True) (fun _ U o U' => ∃ v L, o = .returned v ∧ Q0 n0 v U'.heap L ∧ FrameEnd U o U' L 16 128) := by
  refine w_body pn_0 ?_
  intro p e s m below meth c T X hx hby hml hown hnm hret hlk hZ eT
  rw [ef_0]
  have N := Fr.nil n0
  refine w_iloadN X hx (dq hby d0_0) rfl ?_
  refine w_iconst X hx (dq hby d0_1) (z := 3) rfl ?_
  refine w_iand X hx (dq hby d0_2) ?_
  obtain ⟨v6_3, hv6_3⟩ : ∃ z : Int32, z = (i1 &&& (3 : Int32)) := ⟨_, rfl⟩
  refine w_istore X hx (dq hby d0_3) (z := v6_3) hv6_3 (Ls' := #[.val (.long i0), .second, .val (.int i1), .val (.long i2), .second, .val (.int i3), .val (.int v6_3), .unset, .unset, .unset, .unset]) rfl ?_
  have m3 : v6_3.toInt = i1.toInt % 2 ^ 2 := by rw [hv6_3]; exact Jvm.Kit.i32_mask i1 3 (by decide) (by decide)
  obtain ⟨k, hk0⟩ : ∃ k : Nat, k = v6_3.toInt.toNat := ⟨_, rfl⟩
  have hk : v6_3.toInt = (k : Int) := by omega
  have hk4 : k < 4 := by omega
  have own_i1 : (v6_3 + 1).toInt = ((k + 1 : Nat) : Int) := by rw [Jvm.Kit.i32_add] <;> (have : (1 : Int32).toInt = 1 := rfl) <;> omega
  have own_i2 : (v6_3 + 2).toInt = ((k + 2 : Nat) : Int) := by rw [Jvm.Kit.i32_add] <;> (have : (2 : Int32).toInt = 2 := rfl) <;> omega
  have own_i3 : (v6_3 + 3).toInt = ((k + 3 : Nat) : Int) := by rw [Jvm.Kit.i32_add] <;> (have : (3 : Int32).toInt = 3 := rfl) <;> omega
  have own_i4 : (v6_3 + 4).toInt = ((k + 4 : Nat) : Int) := by rw [Jvm.Kit.i32_add] <;> (have : (4 : Int32).toInt = 4 := rfl) <;> omega
  have own_i5 : (v6_3 + 5).toInt = ((k + 5 : Nat) : Int) := by rw [Jvm.Kit.i32_add] <;> (have : (5 : Int32).toInt = 5 := rfl) <;> omega
  have own_i6 : (v6_3 + 6).toInt = ((k + 6 : Nat) : Int) := by rw [Jvm.Kit.i32_add] <;> (have : (6 : Int32).toInt = 6 := rfl) <;> omega
  have own_i7 : (v6_3 + 7).toInt = ((k + 7 : Nat) : Int) := by rw [Jvm.Kit.i32_add] <;> (have : (7 : Int32).toInt = 7 := rfl) <;> omega
  refine w_bipush X hx (dq hby d0_5) (z := 12) rfl ?_
  refine w_newarr X hx hZ eT (aty := .byte) (hw _ (List.mem_of_getElem? (i := 0) rfl)) (dq hby d0_7) (n := 12) (cap := 12) (rfl) ((by decide)) (by decide) (by decide) (by decide) fun T h1 b7 hb_b7 X eT EX A_b7 => ?_
  have g_b7 : n0 ≤ b7 := by omega
  replace Z0 := Nat.le_trans Z0 EX.1
  replace A_b7 : AV Z h1 b7 .byte 12 (iF (fun _ => (0 : Int32))) := A_b7
  refine w_astore X hx (dq hby d0_9) rfl (Ls' := #[.val (.long i0), .second, .val (.int i1), .val (.long i2), .second, .val (.int i3), .val (.int v6_3), .val (.ref b7), .unset, .unset, .unset]) rfl ?_
  refine w_aload X hx (dq hby d0_11) rfl rfl ?_
  refine w_iconst X hx (dq hby d0_13) (z := 0) rfl ?_
  refine w_lloadN X hx (dq hby d0_14) rfl ?_
  refine w_l2i X hx (dq hby d0_15) ?_
  refine w_i2b X hx (dq hby d0_16) ?_
  refine w_bastore X hx hZ eT A_b7 (i := 0) (rfl) (by decide) (dq hby d0_17) fun T h2 X eT W A' => ?_
  replace Z0 := Nat.le_trans Z0 (Nat.le_of_eq W.size.symm)
  replace N := Fr.snoc X N g_b7
  replace A_b7 := A'
  obtain ⟨g0_17, hg0_17⟩ : ∃ g, g = (upd (fun _ => (0 : Int32)) 0 ((((i2.toInt32).toInt8.toInt32)).toInt8.toInt32)) := ⟨_, rfl⟩
  rw [← hg0_17] at A_b7
  refine w_aload X hx (dq hby d0_18) rfl rfl ?_
  refine w_iconst X hx (dq hby d0_20) (z := 1) rfl ?_
  refine w_lloadN X hx (dq hby d0_21) rfl ?_
  refine w_bipush X hx (dq hby d0_22) (z := 8) rfl ?_
  refine w_lushr X hx (dq hby d0_24) ?_
  refine w_l2i X hx (dq hby d0_25) ?_
  refine w_i2b X hx (dq hby d0_26) ?_
  refine w_bastore X hx hZ eT A_b7 (i := 1) (rfl) (by decide) (dq hby d0_27) fun T h3 X eT W A' => ?_
  replace Z0 := Nat.le_trans Z0 (Nat.le_of_eq W.size.symm)
  replace N := Fr.snoc X N g_b7
  replace A_b7 := A'
  obtain ⟨g0_27, hg0_27⟩ : ∃ g, g = (upd g0_17 1 (((((LUshr i2 (8 : Int32)).toInt32).toInt8.toInt32)).toInt8.toInt32)) := ⟨_, rfl⟩
  rw [← hg0_27] at A_b7
  refine w_aload X hx (dq hby d0_28) rfl rfl ?_
  refine w_iconst X hx (dq hby d0_30) (z := 2) rfl ?_
  refine w_lloadN X hx (dq hby d0_31) rfl ?_
  refine w_bipush X hx (dq hby d0_32) (z := 16) rfl ?_
  refine w_lushr X hx (dq hby d0_34) ?_
  refine w_l2i X hx (dq hby d0_35) ?_
  refine w_i2b X hx (dq hby d0_36) ?_
  refine w_bastore X hx hZ eT A_b7 (i := 2) (rfl) (by decide) (dq hby d0_37) fun T h4 X eT W A' => ?_
  replace Z0 := Nat.le_trans Z0 (Nat.le_of_eq W.size.symm)
  replace N := Fr.snoc X N g_b7
  replace A_b7 := A'
  obtain ⟨g0_37, hg0_37⟩ : ∃ g, g = (upd g0_27 2 (((((LUshr i2 (16 : Int32)).toInt32).toInt8.toInt32)).toInt8.toInt32)) := ⟨_, rfl⟩
  rw [← hg0_37] at A_b7
  refine w_aload X hx (dq hby d0_38) rfl rfl ?_
  refine w_iconst X hx (dq hby d0_40) (z := 3) rfl ?_
  refine w_lloadN X hx (dq hby d0_41) rfl ?_
  refine w_bipush X hx (dq hby d0_42) (z := 24) rfl ?_
  refine w_lushr X hx (dq hby d0_44) ?_
  refine w_l2i X hx (dq hby d0_45) ?_
  refine w_i2b X hx (dq hby d0_46) ?_
  refine w_bastore X hx hZ eT A_b7 (i := 3) (rfl) (by decide) (dq hby d0_47) fun T h5 X eT W A' => ?_
  replace Z0 := Nat.le_trans Z0 (Nat.le_of_eq W.size.symm)
  replace N := Fr.snoc X N g_b7
  replace A_b7 := A'
  obtain ⟨g0_47, hg0_47⟩ : ∃ g, g = (upd g0_37 3 (((((LUshr i2 (24 : Int32)).toInt32).toInt8.toInt32)).toInt8.toInt32)) := ⟨_, rfl⟩
  rw [← hg0_47] at A_b7
  refine w_aload X hx (dq hby d0_48) rfl rfl ?_
  refine w_iconst X hx (dq hby d0_50) (z := 4) rfl ?_
  refine w_lloadN X hx (dq hby d0_51) rfl ?_
  refine w_bipush X hx (dq hby d0_52) (z := 32) rfl ?_
  refine w_lushr X hx (dq hby d0_54) ?_
  refine w_l2i X hx (dq hby d0_55) ?_
  refine w_i2b X hx (dq hby d0_56) ?_
  refine w_bastore X hx hZ eT A_b7 (i := 4) (rfl) (by decide) (dq hby d0_57) fun T h6 X eT W A' => ?_
  replace Z0 := Nat.le_trans Z0 (Nat.le_of_eq W.size.symm)
  replace N := Fr.snoc X N g_b7
  replace A_b7 := A'
  obtain ⟨g0_57, hg0_57⟩ : ∃ g, g = (upd g0_47 4 (((((LUshr i2 (32 : Int32)).toInt32).toInt8.toInt32)).toInt8.toInt32)) := ⟨_, rfl⟩
  rw [← hg0_57] at A_b7
  refine w_aload X hx (dq hby d0_58) rfl rfl ?_
  refine w_iconst X hx (dq hby d0_60) (z := 5) rfl ?_
  refine w_lloadN X hx (dq hby d0_61) rfl ?_
  refine w_bipush X hx (dq hby d0_62) (z := 40) rfl ?_
  refine w_lushr X hx (dq hby d0_64) ?_
  refine w_l2i X hx (dq hby d0_65) ?_
  refine w_i2b X hx (dq hby d0_66) ?_
  refine w_bastore X hx hZ eT A_b7 (i := 5) (rfl) (by decide) (dq hby d0_67) fun T h7 X eT W A' => ?_
  replace Z0 := Nat.le_trans Z0 (Nat.le_of_eq W.size.symm)
  replace N := Fr.snoc X N g_b7
  replace A_b7 := A'
  obtain ⟨g0_67, hg0_67⟩ : ∃ g, g = (upd g0_57 5 (((((LUshr i2 (40 : Int32)).toInt32).toInt8.toInt32)).toInt8.toInt32)) := ⟨_, rfl⟩
  rw [← hg0_67] at A_b7
  refine w_aload X hx (dq hby d0_68) rfl rfl ?_
  refine w_bipush X hx (dq hby d0_70) (z := 6) rfl ?_
  refine w_lloadN X hx (dq hby d0_72) rfl ?_
  refine w_bipush X hx (dq hby d0_73) (z := 48) rfl ?_
  refine w_lushr X hx (dq hby d0_75) ?_
  refine w_l2i X hx (dq hby d0_76) ?_
  refine w_i2b X hx (dq hby d0_77) ?_
  refine w_bastore X hx hZ eT A_b7 (i := 6) (rfl) (by decide) (dq hby d0_78) fun T h8 X eT W A' => ?_
  replace Z0 := Nat.le_trans Z0 (Nat.le_of_eq W.size.symm)
  replace N := Fr.snoc X N g_b7
  replace A_b7 := A'
  obtain ⟨g0_78, hg0_78⟩ : ∃ g, g = (upd g0_67 6 (((((LUshr i2 (48 : Int32)).toInt32).toInt8.toInt32)).toInt8.toInt32)) := ⟨_, rfl⟩
  rw [← hg0_78] at A_b7
  refine w_aload X hx (dq hby d0_79) rfl rfl ?_
  refine w_bipush X hx (dq hby d0_81) (z := 7) rfl ?_
  refine w_lloadN X hx (dq hby d0_83) rfl ?_
  refine w_bipush X hx (dq hby d0_84) (z := 56) rfl ?_
  refine w_lushr X hx (dq hby d0_86) ?_
  refine w_l2i X hx (dq hby d0_87) ?_
  refine w_i2b X hx (dq hby d0_88) ?_
  refine w_bastore X hx hZ eT A_b7 (i := 7) (rfl) (by decide) (dq hby d0_89) fun T h9 X eT W A' => ?_
  replace Z0 := Nat.le_trans Z0 (Nat.le_of_eq W.size.symm)
  replace N := Fr.snoc X N g_b7
  replace A_b7 := A'
  obtain ⟨g0_89, hg0_89⟩ : ∃ g, g = (upd g0_78 7 (((((LUshr i2 (56 : Int32)).toInt32).toInt8.toInt32)).toInt8.toInt32)) := ⟨_, rfl⟩
  rw [← hg0_89] at A_b7
  refine w_aload X hx (dq hby d0_90) rfl rfl ?_
  refine w_bipush X hx (dq hby d0_92) (z := 8) rfl ?_
  refine w_iload X hx (dq hby d0_94) rfl ?_
  refine w_i2b X hx (dq hby d0_96) ?_
  refine w_bastore X hx hZ eT A_b7 (i := 8) (rfl) (by decide) (dq hby d0_97) fun T h10 X eT W A' => ?_
  replace Z0 := Nat.le_trans Z0 (Nat.le_of_eq W.size.symm)
  replace N := Fr.snoc X N g_b7
  replace A_b7 := A'
  obtain ⟨g0_97, hg0_97⟩ : ∃ g, g = (upd g0_89 8 (((i3.toInt8.toInt32)).toInt8.toInt32)) := ⟨_, rfl⟩
  rw [← hg0_97] at A_b7
  refine w_aload X hx (dq hby d0_98) rfl rfl ?_
  refine w_bipush X hx (dq hby d0_100) (z := 9) rfl ?_
  refine w_iload X hx (dq hby d0_102) rfl ?_
  refine w_bipush X hx (dq hby d0_104) (z := 8) rfl ?_
  refine w_iushr X hx (dq hby d0_106) ?_
  refine w_i2b X hx (dq hby d0_107) ?_
  refine w_bastore X hx hZ eT A_b7 (i := 9) (rfl) (by decide) (dq hby d0_108) fun T h11 X eT W A' => ?_
  replace Z0 := Nat.le_trans Z0 (Nat.le_of_eq W.size.symm)
  replace N := Fr.snoc X N g_b7
  replace A_b7 := A'
  obtain ⟨g0_108, hg0_108⟩ : ∃ g, g = (upd g0_97 9 ((((IUshr i3 (8 : Int32)).toInt8.toInt32)).toInt8.toInt32)) := ⟨_, rfl⟩
  rw [← hg0_108] at A_b7
  refine w_aload X hx (dq hby d0_109) rfl rfl ?_
  refine w_bipush X hx (dq hby d0_111) (z := 10) rfl ?_
  refine w_iload X hx (dq hby d0_113) rfl ?_
  refine w_bipush X hx (dq hby d0_115) (z := 16) rfl ?_
  refine w_iushr X hx (dq hby d0_117) ?_
  refine w_i2b X hx (dq hby d0_118) ?_
  refine w_bastore X hx hZ eT A_b7 (i := 10) (rfl) (by decide) (dq hby d0_119) fun T h12 X eT W A' => ?_
  replace Z0 := Nat.le_trans Z0 (Nat.le_of_eq W.size.symm)
  replace N := Fr.snoc X N g_b7
  replace A_b7 := A'
  obtain ⟨g0_119, hg0_119⟩ : ∃ g, g = (upd g0_108 10 ((((IUshr i3 (16 : Int32)).toInt8.toInt32)).toInt8.toInt32)) := ⟨_, rfl⟩
  rw [← hg0_119] at A_b7
  refine w_aload X hx (dq hby d0_120) rfl rfl ?_
  refine w_bipush X hx (dq hby d0_122) (z := 11) rfl ?_
  refine w_iload X hx (dq hby d0_124) rfl ?_
  refine w_bipush X hx (dq hby d0_126) (z := 24) rfl ?_
  refine w_iushr X hx (dq hby d0_128) ?_
  refine w_i2b X hx (dq hby d0_129) ?_
  refine w_bastore X hx hZ eT A_b7 (i := 11) (rfl) (by decide) (dq hby d0_130) fun T h13 X eT W A' => ?_
  replace Z0 := Nat.le_trans Z0 (Nat.le_of_eq W.size.symm)
  replace N := Fr.snoc X N g_b7
  replace A_b7 := A'
  obtain ⟨g0_130, hg0_130⟩ : ∃ g, g = (upd g0_119 11 ((((IUshr i3 (24 : Int32)).toInt8.toInt32)).toInt8.toInt32)) := ⟨_, rfl⟩
  rw [← hg0_130] at A_b7
  refine w_aload X hx (dq hby d0_131) rfl rfl ?_
  refine w_iload X hx (dq hby d0_133) rfl ?_
  refine w_lloadN X hx (dq hby d0_135) rfl ?_
  refine w_bipush X hx (dq hby d0_136) (z := 56) rfl ?_
  refine w_lushr X hx (dq hby d0_138) ?_
  refine w_l2i X hx (dq hby d0_139) ?_
  refine w_i2b X hx (dq hby d0_140) ?_
  refine w_bastore X hx hZ eT A_b7 (i := k) (hk) (by omega) (dq hby d0_141) fun T h14 X eT W A' => ?_
  replace Z0 := Nat.le_trans Z0 (Nat.le_of_eq W.size.symm)
  replace N := Fr.snoc X N g_b7
  replace A_b7 := A'
  obtain ⟨g0_141, hg0_141⟩ : ∃ g, g = (upd g0_130 k (((((LUshr i0 (56 : Int32)).toInt32).toInt8.toInt32)).toInt8.toInt32)) := ⟨_, rfl⟩
  rw [← hg0_141] at A_b7
  refine w_aload X hx (dq hby d0_142) rfl rfl ?_
  refine w_iload X hx (dq hby d0_144) rfl ?_
  refine w_iconst X hx (dq hby d0_146) (z := 1) rfl ?_
  refine w_iadd X hx (dq hby d0_147) ?_
  refine w_lloadN X hx (dq hby d0_148) rfl ?_
  refine w_bipush X hx (dq hby d0_149) (z := 48) rfl ?_
  refine w_lushr X hx (dq hby d0_151) ?_
  refine w_l2i X hx (dq hby d0_152) ?_
  refine w_i2b X hx (dq hby d0_153) ?_
  refine w_bastore X hx hZ eT A_b7 (i := (k + 1)) (own_i1) (by omega) (dq hby d0_154) fun T h15 X eT W A' => ?_
  replace Z0 := Nat.le_trans Z0 (Nat.le_of_eq W.size.symm)
  replace N := Fr.snoc X N g_b7
  replace A_b7 := A'
  obtain ⟨g0_154, hg0_154⟩ : ∃ g, g = (upd g0_141 (k + 1) (((((LUshr i0 (48 : Int32)).toInt32).toInt8.toInt32)).toInt8.toInt32)) := ⟨_, rfl⟩
  rw [← hg0_154] at A_b7
  refine w_aload X hx (dq hby d0_155) rfl rfl ?_
  refine w_iload X hx (dq hby d0_157) rfl ?_
  refine w_iconst X hx (dq hby d0_159) (z := 2) rfl ?_
  refine w_iadd X hx (dq hby d0_160) ?_
  refine w_lloadN X hx (dq hby d0_161) rfl ?_
  refine w_bipush X hx (dq hby d0_162) (z := 40) rfl ?_
  refine w_lushr X hx (dq hby d0_164) ?_
  refine w_l2i X hx (dq hby d0_165) ?_
  refine w_i2b X hx (dq hby d0_166) ?_
  refine w_bastore X hx hZ eT A_b7 (i := (k + 2)) (own_i2) (by omega) (dq hby d0_167) fun T h16 X eT W A' => ?_
  replace Z0 := Nat.le_trans Z0 (Nat.le_of_eq W.size.symm)
  replace N := Fr.snoc X N g_b7
  replace A_b7 := A'
  obtain ⟨g0_167, hg0_167⟩ : ∃ g, g = (upd g0_154 (k + 2) (((((LUshr i0 (40 : Int32)).toInt32).toInt8.toInt32)).toInt8.toInt32)) := ⟨_, rfl⟩
  rw [← hg0_167] at A_b7
  refine w_aload X hx (dq hby d0_168) rfl rfl ?_
  refine w_iload X hx (dq hby d0_170) rfl ?_
  refine w_iconst X hx (dq hby d0_172) (z := 3) rfl ?_
  refine w_iadd X hx (dq hby d0_173) ?_
  refine w_lloadN X hx (dq hby d0_174) rfl ?_
  refine w_bipush X hx (dq hby d0_175) (z := 32) rfl ?_
  refine w_lushr X hx (dq hby d0_177) ?_
  refine w_l2i X hx (dq hby d0_178) ?_
  refine w_i2b X hx (dq hby d0_179) ?_
  refine w_bastore X hx hZ eT A_b7 (i := (k + 3)) (own_i3) (by omega) (dq hby d0_180) fun T h17 X eT W A' => ?_
  replace Z0 := Nat.le_trans Z0 (Nat.le_of_eq W.size.symm)
  replace N := Fr.snoc X N g_b7
  replace A_b7 := A'
  obtain ⟨g0_180, hg0_180⟩ : ∃ g, g = (upd g0_167 (k + 3) (((((LUshr i0 (32 : Int32)).toInt32).toInt8.toInt32)).toInt8.toInt32)) := ⟨_, rfl⟩
  rw [← hg0_180] at A_b7
  refine w_aload X hx (dq hby d0_181) rfl rfl ?_
  refine w_iload X hx (dq hby d0_183) rfl ?_
  refine w_iconst X hx (dq hby d0_185) (z := 4) rfl ?_
  refine w_iadd X hx (dq hby d0_186) ?_
  refine w_lloadN X hx (dq hby d0_187) rfl ?_
  refine w_bipush X hx (dq hby d0_188) (z := 24) rfl ?_
  refine w_lushr X hx (dq hby d0_190) ?_
  refine w_l2i X hx (dq hby d0_191) ?_
  refine w_i2b X hx (dq hby d0_192) ?_
  refine w_bastore X hx hZ eT A_b7 (i := (k + 4)) (own_i4) (by omega) (dq hby d0_193) fun T h18 X eT W A' => ?_
  replace Z0 := Nat.le_trans Z0 (Nat.le_of_eq W.size.symm)
  replace N := Fr.snoc X N g_b7
  replace A_b7 := A'
  obtain ⟨g0_193, hg0_193⟩ : ∃ g, g = (upd g0_180 (k + 4) (((((LUshr i0 (24 : Int32)).toInt32).toInt8.toInt32)).toInt8.toInt32)) := ⟨_, rfl⟩
  rw [← hg0_193] at A_b7
  refine w_aload X hx (dq hby d0_194) rfl rfl ?_
  refine w_iload X hx (dq hby d0_196) rfl ?_
  refine w_iconst X hx (dq hby d0_198) (z := 5) rfl ?_
  refine w_iadd X hx (dq hby d0_199) ?_
  refine w_lloadN X hx (dq hby d0_200) rfl ?_
  refine w_bipush X hx (dq hby d0_201) (z := 16) rfl ?_
  refine w_lushr X hx (dq hby d0_203) ?_
  refine w_l2i X hx (dq hby d0_204) ?_
  refine w_i2b X hx (dq hby d0_205) ?_
  refine w_bastore X hx hZ eT A_b7 (i := (k + 5)) (own_i5) (by omega) (dq hby d0_206) fun T h19 X eT W A' => ?_
  replace Z0 := Nat.le_trans Z0 (Nat.le_of_eq W.size.symm)
  replace N := Fr.snoc X N g_b7
  replace A_b7 := A'
  obtain ⟨g0_206, hg0_206⟩ : ∃ g, g = (upd g0_193 (k + 5) (((((LUshr i0 (16 : Int32)).toInt32).toInt8.toInt32)).toInt8.toInt32)) := ⟨_, rfl⟩
  rw [← hg0_206] at A_b7
  refine w_aload X hx (dq hby d0_207) rfl rfl ?_
  refine w_iload X hx (dq hby d0_209) rfl ?_
  refine w_bipush X hx (dq hby d0_211) (z := 6) rfl ?_
  refine w_iadd X hx (dq hby d0_213) ?_
  refine w_lloadN X hx (dq hby d0_214) rfl ?_
  refine w_bipush X hx (dq hby d0_215) (z := 8) rfl ?_
  refine w_lushr X hx (dq hby d0_217) ?_
  refine w_l2i X hx (dq hby d0_218) ?_
  refine w_i2b X hx (dq hby d0_219) ?_
  refine w_bastore X hx hZ eT A_b7 (i := (k + 6)) (own_i6) (by omega) (dq hby d0_220) fun T h20 X eT W A' => ?_
  replace Z0 := Nat.le_trans Z0 (Nat.le_of_eq W.size.symm)
  replace N := Fr.snoc X N g_b7
  replace A_b7 := A'
  obtain ⟨g0_220, hg0_220⟩ : ∃ g, g = (upd g0_206 (k + 6) (((((LUshr i0 (8 : Int32)).toInt32).toInt8.toInt32)).toInt8.toInt32)) := ⟨_, rfl⟩
  rw [← hg0_220] at A_b7
  refine w_aload X hx (dq hby d0_221) rfl rfl ?_
  refine w_iload X hx (dq hby d0_223) rfl ?_
  refine w_bipush X hx (dq hby d0_225) (z := 7) rfl ?_
  refine w_iadd X hx (dq hby d0_227) ?_
  refine w_lloadN X hx (dq hby d0_228) rfl ?_
  refine w_l2i X hx (dq hby d0_229) ?_
  refine w_i2b X hx (dq hby d0_230) ?_
  refine w_bastore X hx hZ eT A_b7 (i := (k + 7)) (own_i7) (by omega) (dq hby d0_231) fun T h21 X eT W A' => ?_
  replace Z0 := Nat.le_trans Z0 (Nat.le_of_eq W.size.symm)
  replace N := Fr.snoc X N g_b7
  replace A_b7 := A'
  obtain ⟨g0_231, hg0_231⟩ : ∃ g, g = (upd g0_220 (k + 7) ((((i0.toInt32).toInt8.toInt32)).toInt8.toInt32)) := ⟨_, rfl⟩
  rw [← hg0_231] at A_b7
  have fb0 : u32 (g0_231 k) % 256 = u64 i0 / 2 ^ 56 % 256 := by rw [hg0_231, upd_ne _ _ (by omega), hg0_220, upd_ne _ _ (by omega), hg0_206, upd_ne _ _ (by omega), hg0_193, upd_ne _ _ (by omega), hg0_180, upd_ne _ _ (by omega), hg0_167, upd_ne _ _ (by omega), hg0_154, upd_ne _ _ (by omega), hg0_141, upd_at, i2b_i2b]; exact own_byte i0 (y := 56) (k := 56) rfl (by decide)
  have fb1 : u32 (g0_231 (k + 1)) % 256 = u64 i0 / 2 ^ 48 % 256 := by rw [hg0_231, upd_ne _ _ (by omega), hg0_220, upd_ne _ _ (by omega), hg0_206, upd_ne _ _ (by omega), hg0_193, upd_ne _ _ (by omega), hg0_180, upd_ne _ _ (by omega), hg0_167, upd_ne _ _ (by omega), hg0_154, upd_at, i2b_i2b]; exact own_byte i0 (y := 48) (k := 48) rfl (by decide)
  have fb2 : u32 (g0_231 (k + 2)) % 256 = u64 i0 / 2 ^ 40 % 256 := by rw [hg0_231, upd_ne _ _ (by omega), hg0_220, upd_ne _ _ (by omega), hg0_206, upd_ne _ _ (by omega), hg0_193, upd_ne _ _ (by omega), hg0_180, upd_ne _ _ (by omega), hg0_167, upd_at, i2b_i2b]; exact own_byte i0 (y := 40) (k := 40) rfl (by decide)
  have fb3 : u32 (g0_231 (k + 3)) % 256 = u64 i0 / 2 ^ 32 % 256 := by rw [hg0_231, upd_ne _ _ (by omega), hg0_220, upd_ne _ _ (by omega), hg0_206, upd_ne _ _ (by omega), hg0_193, upd_ne _ _ (by omega), hg0_180, upd_at, i2b_i2b]; exact own_byte i0 (y := 32) (k := 32) rfl (by decide)
  have fb4 : u32 (g0_231 (k + 4)) % 256 = u64 i0 / 2 ^ 24 % 256 := by rw [hg0_231, upd_ne _ _ (by omega), hg0_220, upd_ne _ _ (by omega), hg0_206, upd_ne _ _ (by omega), hg0_193, upd_at, i2b_i2b]; exact own_byte i0 (y := 24) (k := 24) rfl (by decide)
  have fb5 : u32 (g0_231 (k + 5)) % 256 = u64 i0 / 2 ^ 16 % 256 := by rw [hg0_231, upd_ne _ _ (by omega), hg0_220, upd_ne _ _ (by omega), hg0_206, upd_at, i2b_i2b]; exact own_byte i0 (y := 16) (k := 16) rfl (by decide)
  have fb6 : u32 (g0_231 (k + 6)) % 256 = u64 i0 / 2 ^ 8 % 256 := by rw [hg0_231, upd_ne _ _ (by omega), hg0_220, upd_at, i2b_i2b]; exact own_byte i0 (y := 8) (k := 8) rfl (by decide)
  have fb7 : u32 (g0_231 (k + 7)) % 256 = u64 i0 / 2 ^ 0 % 256 := by rw [hg0_231, upd_at, i2b_i2b]; exact own_byte0 i0
  refine w_new X hx hZ eT hown (hw _ (List.mem_of_getElem? (i := 1) rfl)) (hw _ (List.mem_of_getElem? (i := 2) rfl)) (hw _ (List.mem_of_getElem? (i := 3) rfl)) (dq hby d0_232) (by decide) (by decide) fun T h22 b232 hb_b232 X eT EX E_b232 D_b232 => ?_
  have ne_b7_b232 : b7 ≠ b232 := by rw [hb_b232]; exact Nat.ne_of_lt A_b7.lt
  have g_b232 : n0 ≤ b232 := by omega
  replace A_b7 := AV.ext A_b7 EX
  replace Z0 := Nat.le_trans Z0 EX.1
  have F_bytes_b232 : Fld Z h22 b232 "com/example/brodcast/brodcast/protobuf/MessageReader" "bytes" "[B" .null := D_b232 (Or.inr (hw _ (List.mem_of_getElem? (i := 11) rfl))) (ty := (.array .byte)) (by decide)
  have F_position_b232 : Fld Z h22 b232 "com/example/brodcast/brodcast/protobuf/MessageReader" "position" "I" (.int (0 : Int32)) := D_b232 (Or.inl (hw _ (List.mem_of_getElem? (i := 13) rfl))) (ty := .int) (by decide)
  have F_limit_b232 : Fld Z h22 b232 "com/example/brodcast/brodcast/protobuf/MessageReader" "limit" "I" (.int (0 : Int32)) := D_b232 (Or.inl (hw _ (List.mem_of_getElem? (i := 15) rfl))) (ty := .int) (by decide)
  refine w_dup X hx (dq hby d0_235) rfl ?_
  refine w_aload X hx (dq hby d0_236) rfl rfl ?_
  refine w_iload X hx (dq hby d0_238) rfl ?_
  refine w_bipush X hx (dq hby d0_240) (z := 12) rfl ?_
  refine w_iload X hx (dq hby d0_242) rfl ?_
  refine w_isub X hx (dq hby d0_244) ?_
  refine w_callI X hx hZ eT hml (by rfl) hown rfl (hw _ (List.mem_of_getElem? (i := 4) rfl)) (hw _ (List.mem_of_getElem? (i := 5) rfl)) (hw _ (List.mem_of_getElem? (i := 3) rfl)) (hw _ (List.mem_of_getElem? (i := 6) rfl)) (by decide) (ct1 l Z a0 hw b232 b7 v6_3 ((12 : Int32) - v6_3) n0 h22 Z0 g_b232 E_b232 F_bytes_b232 F_position_b232 F_limit_b232) (b := b232) (dq hby d0_245) pd_0 (argsL := [(.ref b7), (.int v6_3), (.int ((12 : Int32) - v6_3))]) (rest := [(.ref b232)]) rfl rfl rfl (W := 1) rfl (by decide) (by decide) (by decide) (by decide) fun v T L X hQ => ?_
  generalize eT : T.heap = h23 at hQ
  obtain ⟨rfl, N', K', E_b232, F_bytes_b232, F_position_b232, F_limit_b232⟩ := hQ
  replace A_b7 := AV.keep A_b7 K' (ninS ne_b7_b232 nin0)
  replace Z0 := Nat.le_trans Z0 K'.1
  replace N := Fr.app N N'
  refine w_astore X hx (dq hby d0_248) rfl (Ls' := #[.val (.long i0), .second, .val (.int i1), .val (.long i2), .second, .val (.int i3), .val (.int v6_3), .val (.ref b7), .val (.ref b232), .unset, .unset]) rfl ?_
  refine w_aload X hx (dq hby d0_250) rfl rfl ?_
  refine w_callV X hx hZ eT hml (by rfl) hown (hw _ (List.mem_of_getElem? (i := 16) rfl)) (hw _ (List.mem_of_getElem? (i := 17) rfl)) (hw _ (List.mem_of_getElem? (i := 19) rfl)) (hw _ (List.mem_of_getElem? (i := 18) rfl)) (hw _ (List.mem_of_getElem? (i := 3) rfl)) (hw _ (List.mem_of_getElem? (i := 20) rfl)) (by decide) (ct3 l Z a0 hw b232 n0 b7 v6_3 (v6_3 + ((12 : Int32) - v6_3)) 12 k g0_231 i0 h23 Z0 g_b232 (Ne.symm ne_b7_b232) E_b232 F_bytes_b232 F_position_b232 F_limit_b232 A_b7 hk (by omega) fb0 fb1 fb2 fb3 fb4 fb5 fb6 fb7) E_b232 (dq hby d0_252) pd_1 (argsL := []) (rest := []) rfl rfl rfl (W := 0) rfl (by decide) (by decide) (by decide) (by decide) fun v T L X hQ => ?_
  generalize eT : T.heap = h24 at hQ
  obtain ⟨rfl, N', K', E_b232, F_bytes_b232, F_position_b232, F_limit_b232⟩ := hQ
  replace A_b7 := AV.keep A_b7 K' (ninS ne_b7_b232 nin0)
  replace Z0 := Nat.le_trans Z0 K'.1
  replace N := Fr.app N N'
  refine w_lstore X hx (dq hby d0_255) (z := i0) rfl (Ls' := #[.val (.long i0), .second, .val (.int i1), .val (.long i2), .second, .val (.int i3), .val (.int v6_3), .val (.ref b7), .val (.ref b232), .val (.long i0), .second]) rfl ?_
  refine w_lload X hx (dq hby d0_257) rfl ?_
  refine w_lloadN X hx (dq hby d0_259) rfl ?_
  refine w_lcmp_ne X hx (dq hby d0_260) (dj hby d0_261) (fun hc261 => (?_ : False).elim) (fun hc261 => ?_)
  · exact hc261 rfl
  refine w_aload X hx (dq hby d0_264) rfl rfl ?_
  refine w_callVP X hx hZ eT hml (by rfl) hown (hw _ (List.mem_of_getElem? (i := 21) rfl)) (hw _ (List.mem_of_getElem? (i := 22) rfl)) (hw _ (List.mem_of_getElem? (i := 24) rfl)) (hw _ (List.mem_of_getElem? (i := 23) rfl)) (hw _ (List.mem_of_getElem? (i := 3) rfl)) (hw _ (List.mem_of_getElem? (i := 25) rfl)) (by decide) (ct4 l Z a0 hw b232 (v6_3 + 8) h24 F_position_b232) E_b232 (dq hby d0_266) pd_2 (argsL := []) (rest := []) rfl rfl rfl (W := 0) rfl (by decide) (by decide) (by decide) (by decide) fun T X eT => ?_
  refine w_iload X hx (dq hby d0_269) rfl ?_
  refine w_bipush X hx (dq hby d0_271) (z := 8) rfl ?_
  refine w_iadd X hx (dq hby d0_273) ?_
  refine w_icmp_ne X hx (dj hby d0_274) (fun hc274 => (?_ : False).elim) (fun hc274 => ?_)
  · exact hc274 rfl
  refine w_iconst X hx (dq hby d0_277) (z := 1) rfl ?_
  refine w_goto X hx (dj hby d0_278) ?_
  refine w_retN X hx hret (by simp) hlk (dq hby d0_282) (by decide) (by decide) ?_
  exact ⟨by simp [nar], N⟩
set_option maxRecDepth 65536 in
set_option maxHeartbeats 40000000 in
theorem comes_1 {Post : Tables → Env → Array Value → State → Outcome → State → Prop} (hpost : ∀ tb e args s v u, (limb_1_1.after args s (.returned v) u = true ∧ limb_1_2.after args s (.returned v) u = true) → FrameEnd s (.returned v) u (Jvm.fieldLocs frame_1_writes args s ++ Jvm.arrayLocs frame_1_arrays args s ++ Jvm.staticLocs frame_1_statics s) 16 128 → Post tb e args s (.returned v) u) :
    ArmFor flags0 classFile x code maxLocals ret World_1 tables_1 room_1 Calls_1 rest_1 Pre_1 Post := by
  intro l hfl _ _ p e ha hc hk s m args below hf hA hF happ hP
  obtain ⟨hcalls, hrest, hpre⟩ := hP
  obtain ⟨-, -, -, hnamed, -, -, -, hat⟩ := (Spec.applies_iff hf).mp happ
  obtain ⟨hg, hn⟩ := and_e (Cond.before_iff.mp (show (Jvm.Cond.and given_1 narrow_1).before args s = true from hpre))
  obtain ⟨g0, k0⟩ := and_e hg
  obtain ⟨g1, k1⟩ := and_e k0
  obtain ⟨g2, k2⟩ := and_e k1
  obtain ⟨g3, k3⟩ := and_e k2
  obtain ⟨w0, w1, w2, w3, rfl⟩ : ∃ w0 w1 w2 w3 : Value, args = #[w0, w1, w2, w3] := by
    have hs : args.size = 4 := by simpa [Cond.value, given_1] using g0
    obtain ⟨L⟩ := args
    match L, hs with
    | [w0, w1, w2, w3], _ => exact ⟨w0, w1, w2, w3, rfl⟩
  have hw := fun d (hd : d ∈ tables_1) => atoms_spec (ws := Jvm.Cond.code x code maxLocals ret :: tables_1) hat d (List.mem_cons_of_mem _ hd)
  obtain ⟨i0, ei0⟩ := isL_v g1
  obtain rfl : w0 = (.long i0) := Option.some.inj ei0
  obtain ⟨i1, ei1⟩ := is_v g2
  obtain rfl : w1 = (.int i1) := Option.some.inj ei1
  obtain ⟨i2, ei2⟩ := isL_v g3
  obtain rfl : w2 = (.long i2) := Option.some.inj ei2
  obtain ⟨i3, ei3⟩ := is_v k3
  obtain rfl : w3 = (.int i3) := Option.some.inj ei3
  obtain ⟨n, o, h1, h2, h3, _, L, rfl, ⟨rfl, N⟩, hq⟩ := rm0 l s _ hw tables_1 i0 i1 i2 i3 s.heap s.heap.size (Nat.le_refl _) p e ha hc hk s m _ below hf ((Spec.applies_iff_loose hf).mp happ).1 ⟨rfl, State.Warmed39.refl s, rfl⟩ trivial
  exact ⟨n, _, h1, h2, h3, hpost _ _ _ _ _ _ ⟨Cond.after_iff.mpr rfl, Cond.after_iff.mpr (eq_i res_at (Term.int_eval (1)) rfl)⟩ ⟨hq.1, hq.2.1, hq.2.2.sift fun y hy => Or.inr (N y hy)⟩⟩
theorem main_1_1 : Claimed_1_1 := comes_1 fun _ _ _ _ _ _ h hF => ⟨h.1, hF⟩
theorem main_1_2 : Claimed_1_2 := comes_1 fun _ _ _ _ _ _ h hF => ⟨h.2, hF⟩

end Jvm.Pilot.@@N@@
namespace Jvm.Pilot.@@N@@
open Jvm Jvm.ClassFile Sem Op Lib Jvm.Free Jvm.Stand Jvm.Pilot.@@N@@.Jvm.D
/-! MADE BY PROGRAM (witnessworld.py) out of the Statement's table words and the real class files: 9 classes; the members and pool entries that the words name. The judged class is class 1, her method 1. -/
namespace start1
open Jvm.ClassFile
def u (s : String) : CpInfo := .utf8 (stringToUtf16 s)
/-- a pool by its gaps: so many unusable entries, then the entry; so many at the end -/
def gap : Nat → List CpInfo → List CpInfo
  | 0, r => r
  | n + 1, r => .unusable :: gap n r
def poolList (es : List (Nat × CpInfo)) (last : Nat) : List CpInfo := es.foldr (fun e r => gap e.1 (e.2 :: r)) (gap last [])
def pool (es : List (Nat × CpInfo)) (last : Nat) : Array CpInfo := ⟨poolList es last⟩
def fileOf (pool : Array CpInfo) (this : Nat) (attrs : Array Attribute := #[]) (ms : Array MethodInfo := #[]) (fl : Nat := 33) (sup : Nat := 0) (ifs : Array Nat := #[]) (fds : Array FieldInfo := #[]) : ClassFile where
  minorVersion := 0
  majorVersion := 65
  constantPool := pool
  accessFlags := fl
  thisClass := this
  superClass := sup
  interfaces := ifs
  fields := fds
  methods := ms
  attributes := attrs
def plain (name : String) (sup : Option ClassId) : Class where
  name := name
  kind := .ordinary
  loader := none
  accessFlags := 33
  super := sup
  interfaces := #[]
  cf := none
  fields := #[]
  methods := #[]
  instanceTypes := #[]
  staticTypes := #[]
  resolved := #[]
  callSites := []
  init := .initialized
  statics := none
  mirror := none

def pool0 : Array CpInfo := pool [(5, u "<init>"), (0, u "()V"), (1, .class_ 10), (1, u "java/lang/Object")] 113

def k0c0 : Code := { maxStack := 0, maxLocals := 1, code := object_method_1_code, exceptionTable := #[], attributes := #[] }
def k0m0 : Method := { name := "<init>", desc := "()V", sig := { parameters := [], returnType := none }, accessFlags := 1, code := some k0c0 }
/-- java/lang/Object -/
def k0 : Class := { plain "java/lang/Object" none with
  accessFlags := 33
  interfaces := #[]
  cf := some (fileOf pool0 8 #[] #[{ accessFlags := 1, nameIndex := 5, descriptorIndex := 6, attributes := #[] }] 33 0 #[] #[])
  fields := #[]
  methods := #[k0m0]
  instanceTypes := #[]
  staticTypes := #[]
  resolved := Array.replicate 124 none
  statics := none }

def pool1 : Array CpInfo := pool [(2, .class_ 4), (1, u "java/lang/Object"), (0, u "<init>"), (0, u "()V"), (0, .class_ 8), (0, u "com/example/brodcast/brodcast/protobuf/MessageReader"), (0, .methodref 7 10), (0, .nameAndType 5 11), (0, u "([BII)V"), (0, .methodref 7 13), (0, .nameAndType 14 15), (0, u "readBigEndian64"), (0, u "()J"), (0, .methodref 7 17), (0, .nameAndType 18 19), (0, u "position"), (0, u "()I"), (0, .class_ 21), (0, u "com/example/brodcast/brodcast/protobuf/MessageReaderReadBigEndian64PinLaw"), (2, u "law"), (0, u "(JIJI)Z")] 5

def k1m0 : Method := { name := "<init>", desc := "()V", sig := { parameters := [], returnType := none }, accessFlags := 1, code := none }
def k1c1 : Code := { maxStack := 6, maxLocals := 11, code := code, exceptionTable := #[], attributes := #[] }
def k1m1 : Method := { name := "law", desc := "(JIJI)Z", sig := { parameters := [.long, .int, .long, .int], returnType := some .boolean }, accessFlags := 9, code := some k1c1 }
/-- com/example/brodcast/brodcast/protobuf/MessageReaderReadBigEndian64PinLaw -/
def k1 : Class := { plain "com/example/brodcast/brodcast/protobuf/MessageReaderReadBigEndian64PinLaw" (some 0) with
  accessFlags := 49
  interfaces := #[]
  cf := some (fileOf pool1 20 #[] #[{ accessFlags := 1, nameIndex := 5, descriptorIndex := 6, attributes := #[] }, { accessFlags := 9, nameIndex := 24, descriptorIndex := 25, attributes := #[] }] 49 2 #[] #[])
  fields := #[]
  methods := #[k1m0, k1m1]
  instanceTypes := #[]
  staticTypes := #[]
  resolved := Array.replicate 31 none
  statics := none }

def pool2 : Array CpInfo := pool [(3, .methodref 4 5), (0, .class_ 6), (0, .nameAndType 7 8), (0, u "java/lang/Object"), (0, u "<init>"), (0, u "()V"), (0, .fieldref 10 11), (0, .class_ 12), (0, .nameAndType 13 14), (0, u "com/example/brodcast/brodcast/protobuf/MessageReader"), (0, u "bytes"), (0, u "[B"), (0, .fieldref 10 16), (0, .nameAndType 17 18), (0, u "position"), (0, u "I"), (0, .fieldref 10 20), (0, .nameAndType 21 18), (0, u "limit"), (3, u "()I"), (19, u "()J"), (116, u "MAX_GROUP_DEPTH"), (2, u "MAX_VARINT_LENGTH"), (1, u "([BII)V"), (5, u "readBigEndian64")] 28

def k2c0 : Code := { maxStack := 3, maxLocals := 4, code := prog_56_method_1_code, exceptionTable := #[], attributes := #[] }
def k2m0 : Method := { name := "<init>", desc := "([BII)V", sig := { parameters := [(.array .byte), .int, .int], returnType := none }, accessFlags := 1, code := some k2c0 }
def k2c1 : Code := { maxStack := 1, maxLocals := 1, code := prog_56_method_2_code, exceptionTable := #[], attributes := #[] }
def k2m1 : Method := { name := "position", desc := "()I", sig := { parameters := [], returnType := some .int }, accessFlags := 1, code := some k2c1 }
def k2c2 : Code := { maxStack := 4, maxLocals := 6, code := prog_56_method_8_code, exceptionTable := #[], attributes := #[] }
def k2m2 : Method := { name := "readBigEndian64", desc := "()J", sig := { parameters := [], returnType := some .long }, accessFlags := 1, code := some k2c2 }
/-- com/example/brodcast/brodcast/protobuf/MessageReader -/
def k2 : Class := { plain "com/example/brodcast/brodcast/protobuf/MessageReader" (some 0) with
  accessFlags := 49
  interfaces := #[]
  cf := some (fileOf pool2 10 #[] #[{ accessFlags := 1, nameIndex := 7, descriptorIndex := 167, attributes := #[] }, { accessFlags := 1, nameIndex := 17, descriptorIndex := 25, attributes := #[] }, { accessFlags := 1, nameIndex := 173, descriptorIndex := 45, attributes := #[] }] 49 4 #[] #[{ accessFlags := 25, nameIndex := 162, descriptorIndex := 18, attributes := #[] }, { accessFlags := 26, nameIndex := 165, descriptorIndex := 18, attributes := #[] }, { accessFlags := 18, nameIndex := 13, descriptorIndex := 14, attributes := #[] }, { accessFlags := 2, nameIndex := 17, descriptorIndex := 18, attributes := #[] }, { accessFlags := 2, nameIndex := 21, descriptorIndex := 18, attributes := #[] }])
  fields := #[{ name := "MAX_GROUP_DEPTH", type := .int, accessFlags := 25, slot := 0, constantValue := 0 }, { name := "MAX_VARINT_LENGTH", type := .int, accessFlags := 26, slot := 1, constantValue := 0 }, { name := "bytes", type := (.array .byte), accessFlags := 18, slot := 0, constantValue := 0 }, { name := "position", type := .int, accessFlags := 2, slot := 1, constantValue := 0 }, { name := "limit", type := .int, accessFlags := 2, slot := 2, constantValue := 0 }]
  methods := #[k2m0, k2m1, k2m2]
  instanceTypes := #[(.array .byte), .int, .int]
  staticTypes := #[.int, .int]
  resolved := Array.replicate 202 none
  statics := none }

def pool3 : Array CpInfo := pool [(1, u "java/lang/Cloneable"), (0, .class_ 1), (0, u "java/lang/Object"), (0, .class_ 3)] 3

/-- java/lang/Cloneable -/
def k3 : Class := { plain "java/lang/Cloneable" (some 0) with
  accessFlags := 1537
  interfaces := #[]
  cf := some (fileOf pool3 2 #[] #[] 1537 4 #[] #[])
  fields := #[]
  methods := #[]
  instanceTypes := #[]
  staticTypes := #[]
  resolved := Array.replicate 8 none
  statics := none }

def pool4 : Array CpInfo := pool [(1, u "java/io/Serializable"), (0, .class_ 1), (0, u "java/lang/Object"), (0, .class_ 3)] 3

/-- java/io/Serializable -/
def k4 : Class := { plain "java/io/Serializable" (some 0) with
  accessFlags := 1537
  interfaces := #[]
  cf := some (fileOf pool4 2 #[] #[] 1537 4 #[] #[])
  fields := #[]
  methods := #[]
  instanceTypes := #[]
  staticTypes := #[]
  resolved := Array.replicate 8 none
  statics := none }

/-- the primitive byte -/
def k5 : Class := { plain "byte" none with kind := .primitive 'B', accessFlags := 0x411 }
/-- [B -/
def k6 : Class := { plain "[B" (some 0) with kind := .array 5 .byte, interfaces := #[3, 4], accessFlags := 1041 }

/-- the primitive int -/
def k7 : Class := { plain "int" none with kind := .primitive 'I', accessFlags := 0x411 }
/-- [I -/
def k8 : Class := { plain "[I" (some 0) with kind := .array 7 .int, interfaces := #[3, 4], accessFlags := 1041 }

def heap : Heap := #[]
def classes : Array Class := #[k0, k1, k2, k3, k4, k5, k6, k7, k8]
def interned : List (Array UInt16 × Addr) := []
def slotsUsed : Nat := 0
def theMethod : MethodId := ⟨1, 1⟩
def args0 : Array Value := #[.long 5, .int 7, .long 1, .int 3]
def aboutOver (below : List Frame) : State where
  vm := { classes := classes, interned := interned.toArray }
  heap := heap
  slotsUsed := slotsUsed
  threads := #[{ frames := .invoking theMethod args0 :: below }]
def below0 : List Frame := [.native { method := ⟨0, 0⟩, args := #[] }]
def about1 : State := aboutOver below0
def p0 : Program := .bare "" "" ""
def e0 : Env := launch0.env 0 0 0
theorem w_frames : about1.frames = Frame.invoking theMethod args0 :: below0 := rfl
set_option maxRecDepth 65536 in
theorem w_args : argsFit about1.vm theMethod args0 = true := by decide +kernel
set_option maxRecDepth 65536 in
theorem w_heap : heapFits about1 = true := by decide +kernel
set_option maxRecDepth 65536 in
theorem w_runnable : about1.curStatus? = some .runnable := by decide +kernel
set_option maxRecDepth 65536 in
theorem w_alone : about1.alone = true := by decide +kernel
set_option maxRecDepth 65536 in
theorem w_named : about1.methodNamed? x = some theMethod := by decide +kernel
set_option maxRecDepth 65536 in
theorem w_hears : about1.hears theMethod below0 = true := by decide +kernel
set_option maxRecDepth 65536 in
theorem w_ripe : about1.ripe theMethod args0 below0 = true := by decide +kernel
theorem w_running : about1.status = .running := rfl
set_option maxRecDepth 65536 in
theorem w_room : about1.hasRoom e0.platform room_1 = true :=
  launch0.hasRoom_least _ room_1 (by decide +kernel) (by decide +kernel) (by decide +kernel) (by decide +kernel) (by decide +kernel) (by decide +kernel)
theorem allAtoms_all (ts : List Jvm.Cond) (a : Array Jvm.Value) (st : Jvm.State) : (allAtoms ts).before a st = ts.all (fun c => c.before a st) := by
  induction ts with
  | nil => rfl
  | cons c t ih =>
    show (Jvm.Cond.and c (allAtoms t)).before a st = _
    rw [Jvm.Cond.before_and, ih, List.all_cons]
def words1 : List Jvm.Cond := Jvm.Cond.code x code maxLocals ret :: tables_1
/-- a 'code' word, met by the world's own term for the bytes: nothing is compared byte by byte -/
theorem code_word {y : MethodName} {bytes : ByteArray} {mx : Nat} {rt : Option FieldType} {a : Array Value} {s : State} {m : MethodId} {meth : Method} {c : Code} (h1 : s.methodNamed? y = some m) (h2 : s.vm.method? m = some meth) (h3 : meth.code = some c) (h4 : c.code = bytes)
    (h5 : (c.maxLocals == mx && c.exceptionTable.isEmpty && decide (c.maxStack ≤ mostOperands) && decide (meth.sig.returnType = rt) && !meth.locks && decide (parseMethodDescriptor y.desc = some meth.sig)) = true) : (Jvm.Cond.code y bytes mx rt).before a s = true := by
  simp only [Bool.and_eq_true, beq_iff_eq, Bool.not_eq_true', decide_eq_true_eq] at h5
  obtain ⟨⟨⟨⟨⟨g1, g2⟩, g3⟩, g4⟩, g5⟩, g6⟩ := h5
  simp [Cond.before, Cond.holds, Cond.value, h1, h2, h3, h4, g1, g2, g3, g4, g5, g6]
def isCode : Jvm.Cond → Bool
  | .code _ _ _ _ => true
  | _ => false
theorem all_split {L : List Jvm.Cond} {P : Jvm.Cond → Bool} (h1 : L.all (fun c => isCode c || P c) = true) (h2 : ∀ c ∈ L.filter isCode, P c = true) : L.all P = true := by
  refine List.all_eq_true.mpr fun c hc => ?_
  have h := List.all_eq_true.mp h1 c hc
  rcases Bool.eq_false_or_eq_true (isCode c) with hi | hi
  · exact h2 c (List.mem_filter.mpr ⟨hc, hi⟩)
  · simpa [hi] using h
set_option maxRecDepth 65536 in
theorem w_c0 : (Jvm.Cond.code x code maxLocals ret).before args0 about1 = true := code_word (m := ⟨1, 1⟩) (meth := k1m1) (c := k1c1) (by decide +kernel) rfl rfl rfl (by decide +kernel)
set_option maxRecDepth 65536 in
theorem w_c1 : (Jvm.Cond.code ({ cls := "com/example/brodcast/brodcast/protobuf/MessageReader", name := "<init>", desc := "([BII)V" } : Jvm.MethodName) prog_56_method_1_code (4 : Nat) (Option.none : Option Jvm.ClassFile.FieldType)).before args0 about1 = true := code_word (m := ⟨2, 0⟩) (meth := k2m0) (c := k2c0) (by decide +kernel) rfl rfl rfl (by decide +kernel)
set_option maxRecDepth 65536 in
theorem w_c2 : (Jvm.Cond.code ({ cls := "java/lang/Object", name := "<init>", desc := "()V" } : Jvm.MethodName) object_method_1_code (1 : Nat) (Option.none : Option Jvm.ClassFile.FieldType)).before args0 about1 = true := code_word (m := ⟨0, 0⟩) (meth := k0m0) (c := k0c0) (by decide +kernel) rfl rfl rfl (by decide +kernel)
set_option maxRecDepth 65536 in
theorem w_c3 : (Jvm.Cond.code ({ cls := "com/example/brodcast/brodcast/protobuf/MessageReader", name := "readBigEndian64", desc := "()J" } : Jvm.MethodName) prog_56_method_8_code (6 : Nat) (Option.some Jvm.ClassFile.FieldType.long)).before args0 about1 = true := code_word (m := ⟨2, 2⟩) (meth := k2m2) (c := k2c2) (by decide +kernel) rfl rfl rfl (by decide +kernel)
set_option maxRecDepth 65536 in
theorem w_c4 : (Jvm.Cond.code ({ cls := "com/example/brodcast/brodcast/protobuf/MessageReader", name := "position", desc := "()I" } : Jvm.MethodName) prog_56_method_2_code (1 : Nat) (Option.some Jvm.ClassFile.FieldType.int)).before args0 about1 = true := code_word (m := ⟨2, 1⟩) (meth := k2m1) (c := k2c1) (by decide +kernel) rfl rfl rfl (by decide +kernel)
def codes1 : List Jvm.Cond := [Jvm.Cond.code x code maxLocals ret, Jvm.Cond.code ({ cls := "com/example/brodcast/brodcast/protobuf/MessageReader", name := "<init>", desc := "([BII)V" } : Jvm.MethodName) prog_56_method_1_code (4 : Nat) (Option.none : Option Jvm.ClassFile.FieldType), Jvm.Cond.code ({ cls := "java/lang/Object", name := "<init>", desc := "()V" } : Jvm.MethodName) object_method_1_code (1 : Nat) (Option.none : Option Jvm.ClassFile.FieldType), Jvm.Cond.code ({ cls := "com/example/brodcast/brodcast/protobuf/MessageReader", name := "readBigEndian64", desc := "()J" } : Jvm.MethodName) prog_56_method_8_code (6 : Nat) (Option.some Jvm.ClassFile.FieldType.long), Jvm.Cond.code ({ cls := "com/example/brodcast/brodcast/protobuf/MessageReader", name := "position", desc := "()I" } : Jvm.MethodName) prog_56_method_2_code (1 : Nat) (Option.some Jvm.ClassFile.FieldType.int)]
set_option maxRecDepth 65536 in
theorem codes_eq : words1.filter isCode = codes1 := rfl
theorem w_codes : ∀ c ∈ words1.filter isCode, c.before args0 about1 = true := by
  rw [codes_eq]
  intro c hc
  simp only [codes1, List.mem_cons, List.not_mem_nil, or_false] at hc
  rcases hc with rfl | rfl | rfl | rfl | rfl
  · exact w_c0
  · exact w_c1
  · exact w_c2
  · exact w_c3
  · exact w_c4
set_option maxRecDepth 65536 in
theorem w_t1 : (words1.take 24).all (fun c => isCode c || c.before args0 about1) = true := by decide +kernel
set_option maxRecDepth 65536 in
theorem w_t2 : (words1.drop 24).all (fun c => isCode c || c.before args0 about1) = true := by decide +kernel
theorem w_tables : (allAtoms (Jvm.Cond.code x code maxLocals ret :: tables_1)).before args0 about1 = true := by
  rw [allAtoms_all]
  show words1.all (fun c => c.before args0 about1) = true
  refine all_split ?_ w_codes
  rw [← List.take_append_drop 24 words1, List.all_append, w_t1, w_t2]
  rfl
set_option maxRecDepth 65536 in
theorem w_case : (Jvm.Cond.and given_1 narrow_1).before args0 about1 = true := by decide +kernel
theorem w_applies : (headSpec (Jvm.Cond.code x code maxLocals ret :: tables_1) room_1).applies x e0.platform about1 = true :=
  (Spec.applies_iff w_frames).mpr ⟨w_running, w_runnable, w_alone, w_named, w_hears, w_ripe, w_room, w_tables⟩
theorem atStart : AtStart classFile x code maxLocals ret World_1 tables_1 room_1 Calls_1 rest_1 Pre_1 launch0 p0 e0 about1 theMethod args0 below0 :=
  ⟨lists_1, trivial, launch0.admits_env _ _ _, launch0.least_env, fairChoices_fair.cas, fairChoices_fair.clock, w_frames, w_args, w_heap, w_applies, trivial, trivial, w_case⟩
end start1
theorem witness_1 : WitnessClaimed_1 := ⟨start1.p0, start1.e0, start1.about1, start1.theMethod, start1.args0, start1.below0, start1.atStart⟩
end Jvm.Pilot.@@N@@
