import JvmDerived
import JvmDerived.Pilot.@@N@@Statement
import JvmDerived.Pilot.@@N@@Code
set_option linter.unusedVariables false
set_option linter.unusedSimpArgs false
@@BLOCK:NumsL.lean.txt@@
namespace Jvm.Pilot.@@N@@
open Jvm Jvm.ClassFile Sem Op Lib Jvm.Free Jvm.Stand Jvm.LawKit Jvm.RoadKit Bundle Jvm.Pilot.@@N@@.Jvm.D
section Kit
variable {p : Program} {l : Launch} {e : Env} {R : Room} {s : State} {m : MethodId} {args : Array Value} {below : List Frame} {meth : Method} {c : Code} {T : State} {locs : List Loc} {cells slots : Nat} {Z : State} {a0 : Array Value} {h : Heap}
variable {Q : Option Value → Heap → List Loc → Prop} {C S : Nat} {pc pc' : Nat} {Ls Ls' : Array Slot} {rest : List Value}
/-- the goal of a walk: from the state σ the run comes to its end, which is as Q says -/
def Go (p : Program) (e : Env) (below : List Frame) (s : State) (Q : Option Value → Heap → List Loc → Prop) (C S : Nat) (σ : State) : Prop :=
  ∃ s₂ o, Steps p.tables e below σ s₂ ∧ s₂.status = .running ∧ Ended s₂ below o ∧ ∃ v L, o = .returned v ∧ Q v s₂.heap L ∧ FrameEnd s o s₂ L C S
theorem Go.step {σ τ : State} (st : ∀ t, Steps p.tables e below τ t → Steps p.tables e below σ t) (k : Go p e below s Q C S τ) : Go p e below s Q C S σ := by
  obtain ⟨s₂, o, h1, h2⟩ := k
  exact ⟨s₂, o, st _ h1, h2⟩
theorem Go.mono {Q' : Option Value → Heap → List Loc → Prop} {σ : State} (k : Go p e below s Q C S σ) (hq : ∀ v h L, Q v h L → Q' v h L) : Go p e below s Q' C S σ := by
  obtain ⟨s₂, o, h1, h2, h3, v, L, h4, h5, h6⟩ := k
  exact ⟨s₂, o, h1, h2, h3, v, L, h4, hq _ _ _ h5, h6⟩
/-- a join: the road behind it is walked once -/
theorem w_j1 {A0 : Type} {σ : State} (F : A0 → State) (P : A0 → Prop) (hJ : ∀ a0, P a0 → Go p e below s Q C S (F a0)) (hB : (∀ a0, P a0 → Go p e below s Q C S (F a0)) → Go p e below s Q C S σ) : Go p e below s Q C S σ := hB hJ
theorem w_j2 {A0 A1 : Type} {σ : State} (F : A0 → A1 → State) (P : A0 → A1 → Prop) (hJ : ∀ a0 a1, P a0 a1 → Go p e below s Q C S (F a0 a1)) (hB : (∀ a0 a1, P a0 a1 → Go p e below s Q C S (F a0 a1)) → Go p e below s Q C S σ) : Go p e below s Q C S σ := hB hJ
theorem w_j3 {A0 A1 A2 : Type} {σ : State} (F : A0 → A1 → A2 → State) (P : A0 → A1 → A2 → Prop) (hJ : ∀ a0 a1 a2, P a0 a1 a2 → Go p e below s Q C S (F a0 a1 a2)) (hB : (∀ a0 a1 a2, P a0 a1 a2 → Go p e below s Q C S (F a0 a1 a2)) → Go p e below s Q C S σ) : Go p e below s Q C S σ := hB hJ
theorem w_j4 {A0 A1 A2 A3 : Type} {σ : State} (F : A0 → A1 → A2 → A3 → State) (P : A0 → A1 → A2 → A3 → Prop) (hJ : ∀ a0 a1 a2 a3, P a0 a1 a2 a3 → Go p e below s Q C S (F a0 a1 a2 a3)) (hB : (∀ a0 a1 a2 a3, P a0 a1 a2 a3 → Go p e below s Q C S (F a0 a1 a2 a3)) → Go p e below s Q C S σ) : Go p e below s Q C S σ := hB hJ
theorem w_j5 {A0 A1 A2 A3 A4 : Type} {σ : State} (F : A0 → A1 → A2 → A3 → A4 → State) (P : A0 → A1 → A2 → A3 → A4 → Prop) (hJ : ∀ a0 a1 a2 a3 a4, P a0 a1 a2 a3 a4 → Go p e below s Q C S (F a0 a1 a2 a3 a4)) (hB : (∀ a0 a1 a2 a3 a4, P a0 a1 a2 a3 a4 → Go p e below s Q C S (F a0 a1 a2 a3 a4)) → Go p e below s Q C S σ) : Go p e below s Q C S σ := hB hJ
theorem w_j6 {A0 A1 A2 A3 A4 A5 : Type} {σ : State} (F : A0 → A1 → A2 → A3 → A4 → A5 → State) (P : A0 → A1 → A2 → A3 → A4 → A5 → Prop) (hJ : ∀ a0 a1 a2 a3 a4 a5, P a0 a1 a2 a3 a4 a5 → Go p e below s Q C S (F a0 a1 a2 a3 a4 a5)) (hB : (∀ a0 a1 a2 a3 a4 a5, P a0 a1 a2 a3 a4 a5 → Go p e below s Q C S (F a0 a1 a2 a3 a4 a5)) → Go p e below s Q C S σ) : Go p e below s Q C S σ := hB hJ
theorem w_j7 {A0 A1 A2 A3 A4 A5 A6 : Type} {σ : State} (F : A0 → A1 → A2 → A3 → A4 → A5 → A6 → State) (P : A0 → A1 → A2 → A3 → A4 → A5 → A6 → Prop) (hJ : ∀ a0 a1 a2 a3 a4 a5 a6, P a0 a1 a2 a3 a4 a5 a6 → Go p e below s Q C S (F a0 a1 a2 a3 a4 a5 a6)) (hB : (∀ a0 a1 a2 a3 a4 a5 a6, P a0 a1 a2 a3 a4 a5 a6 → Go p e below s Q C S (F a0 a1 a2 a3 a4 a5 a6)) → Go p e below s Q C S σ) : Go p e below s Q C S σ := hB hJ
theorem w_eqI {x z : Int32} (hz : x = z) (k : Go p e below s Q C S (T.setTop (mkF m pc Ls (.int z :: rest)))) : Go p e below s Q C S (T.setTop (mkF m pc Ls (.int x :: rest))) := hz ▸ k
theorem w_eqJ {x z : Int64} (hz : x = z) (k : Go p e below s Q C S (T.setTop (mkF m pc Ls (.long z :: rest)))) : Go p e below s Q C S (T.setTop (mkF m pc Ls (.long x :: rest))) := hz ▸ k
def Dc (code : ByteArray) (pc : Nat) (i : Instr) (n pc' : Nat) : Prop := decode code pc = .ok (i, n) ∧ pc + n = pc'
def Dj (code : ByteArray) (pc : Nat) (i : Instr) (o : Int) (pcT pcF : Nat) : Prop := decode code pc = .ok (i, 3) ∧ 0 ≤ (pc : Int) + o ∧ ((pc : Int) + o).toNat = pcT ∧ pc + 3 = pcF
theorem dq {code : ByteArray} {i : Instr} {n : Nat} (hq : c.code = code) (d : Dc code pc i n pc') : Dc c.code pc i n pc' := hq ▸ d
theorem dj {code : ByteArray} {i : Instr} {o : Int} {pcT pcF : Nat} (hq : c.code = code) (d : Dj code pc i o pcT pcF) : Dj c.code pc i o pcT pcF := hq ▸ d
abbrev St (p : Program) (l : Launch) (e : Env) (R : Room) (s : State) (m : MethodId) (args : Array Value) (below : List Frame) (meth : Method) (c : Code) (T : State) (locs : List Loc) (cells slots : Nat) : Prop := Stand p l e R s m args below meth c T locs cells slots
/-! loads, stores, constants -/
theorem w_iload (X : Stand p l e R s m args below meth c T locs cells slots) (hx : p.tables.exec = Jvm.exec) {n : Nat} {z : Int32} (hd : Dc c.code pc (.iload n) 2 pc') (hl : Ls[n]? = some (.val (.int z))) (k : Go p e below s Q C S (T.setTop (mkF m pc' Ls (.int z :: rest)))) : Go p e below s Q C S (T.setTop (mkF m pc Ls (rest))) := by
  obtain ⟨hd, rfl⟩ := hd; exact k.step fun _ t => XS.iload X.here hx rfl hd hl t
theorem w_iloadN (X : Stand p l e R s m args below meth c T locs cells slots) (hx : p.tables.exec = Jvm.exec) {n : Fin 4} {z : Int32} (hd : Dc c.code pc (.iload_n n) 1 pc') (hl : Ls[n.val]? = some (.val (.int z))) (k : Go p e below s Q C S (T.setTop (mkF m pc' Ls (.int z :: rest)))) : Go p e below s Q C S (T.setTop (mkF m pc Ls (rest))) := by
  obtain ⟨hd, rfl⟩ := hd; exact k.step fun _ t => XS.iloadN X.here hx rfl hd hl t
theorem w_istore (X : Stand p l e R s m args below meth c T locs cells slots) (hx : p.tables.exec = Jvm.exec) {n : Nat} {x z : Int32} (hd : Dc c.code pc (.istore n) 2 pc') (hz : z = x) (hs : storeLocals Ls n (.int z) = some Ls') (k : Go p e below s Q C S (T.setTop (mkF m pc' Ls' (rest)))) : Go p e below s Q C S (T.setTop (mkF m pc Ls (.int x :: rest))) := by
  obtain ⟨hd, rfl⟩ := hd; subst hz; exact k.step fun _ t => XS.istore X.here hx rfl hd rfl hs t
theorem w_istoreN (X : Stand p l e R s m args below meth c T locs cells slots) (hx : p.tables.exec = Jvm.exec) {n : Fin 4} {x z : Int32} (hd : Dc c.code pc (.istore_n n) 1 pc') (hz : z = x) (hs : storeLocals Ls n.val (.int z) = some Ls') (k : Go p e below s Q C S (T.setTop (mkF m pc' Ls' (rest)))) : Go p e below s Q C S (T.setTop (mkF m pc Ls (.int x :: rest))) := by
  obtain ⟨hd, rfl⟩ := hd; subst hz; exact k.step fun _ t => XS.istoreN X.here hx rfl hd rfl hs t
theorem w_lload (X : Stand p l e R s m args below meth c T locs cells slots) (hx : p.tables.exec = Jvm.exec) {n : Nat} {z : Int64} (hd : Dc c.code pc (.lload n) 2 pc') (hl : Ls[n]? = some (.val (.long z))) (k : Go p e below s Q C S (T.setTop (mkF m pc' Ls (.long z :: rest)))) : Go p e below s Q C S (T.setTop (mkF m pc Ls (rest))) := by
  obtain ⟨hd, rfl⟩ := hd; exact k.step fun _ t => XS.lload X.here hx rfl hd hl t
theorem w_lloadN (X : Stand p l e R s m args below meth c T locs cells slots) (hx : p.tables.exec = Jvm.exec) {n : Fin 4} {z : Int64} (hd : Dc c.code pc (.lload_n n) 1 pc') (hl : Ls[n.val]? = some (.val (.long z))) (k : Go p e below s Q C S (T.setTop (mkF m pc' Ls (.long z :: rest)))) : Go p e below s Q C S (T.setTop (mkF m pc Ls (rest))) := by
  obtain ⟨hd, rfl⟩ := hd; exact k.step fun _ t => XS.lloadN X.here hx rfl hd hl t
theorem w_lstore (X : Stand p l e R s m args below meth c T locs cells slots) (hx : p.tables.exec = Jvm.exec) {n : Nat} {x z : Int64} (hd : Dc c.code pc (.lstore n) 2 pc') (hz : z = x) (hs : storeLocals Ls n (.long z) = some Ls') (k : Go p e below s Q C S (T.setTop (mkF m pc' Ls' (rest)))) : Go p e below s Q C S (T.setTop (mkF m pc Ls (.long x :: rest))) := by
  obtain ⟨hd, rfl⟩ := hd; subst hz; exact k.step fun _ t => XS.lstore X.here hx rfl hd rfl hs t
theorem w_lstoreN (X : Stand p l e R s m args below meth c T locs cells slots) (hx : p.tables.exec = Jvm.exec) {n : Fin 4} {x z : Int64} (hd : Dc c.code pc (.lstore_n n) 1 pc') (hz : z = x) (hs : storeLocals Ls n.val (.long z) = some Ls') (k : Go p e below s Q C S (T.setTop (mkF m pc' Ls' (rest)))) : Go p e below s Q C S (T.setTop (mkF m pc Ls (.long x :: rest))) := by
  obtain ⟨hd, rfl⟩ := hd; subst hz; exact k.step fun _ t => XS.lstoreN X.here hx rfl hd rfl hs t
theorem w_aload (X : Stand p l e R s m args below meth c T locs cells slots) (hx : p.tables.exec = Jvm.exec) {n : Nat} {v : Value} (hd : Dc c.code pc (.aload n) 2 pc') (hl : Ls[n]? = some (.val v)) (hv : v.isRef = true) (k : Go p e below s Q C S (T.setTop (mkF m pc' Ls (v :: rest)))) : Go p e below s Q C S (T.setTop (mkF m pc Ls (rest))) := by
  obtain ⟨hd, rfl⟩ := hd; exact k.step fun _ t => XS.aload X.here hx rfl hd hl hv t
theorem w_aloadN (X : Stand p l e R s m args below meth c T locs cells slots) (hx : p.tables.exec = Jvm.exec) {n : Fin 4} {v : Value} (hd : Dc c.code pc (.aload_n n) 1 pc') (hl : Ls[n.val]? = some (.val v)) (hv : v.isRef = true) (k : Go p e below s Q C S (T.setTop (mkF m pc' Ls (v :: rest)))) : Go p e below s Q C S (T.setTop (mkF m pc Ls (rest))) := by
  obtain ⟨hd, rfl⟩ := hd; exact k.step fun _ t => XS.aloadN X.here hx rfl hd hl hv t
theorem w_astore (X : Stand p l e R s m args below meth c T locs cells slots) (hx : p.tables.exec = Jvm.exec) {n : Nat} {v : Value} (hd : Dc c.code pc (.astore n) 2 pc') (hv : v.isRef = true) (hs : storeLocals Ls n v = some Ls') (k : Go p e below s Q C S (T.setTop (mkF m pc' Ls' (rest)))) : Go p e below s Q C S (T.setTop (mkF m pc Ls (v :: rest))) := by
  obtain ⟨hd, rfl⟩ := hd; exact k.step fun _ t => XS.astore X.here hx rfl hd rfl hv hs t
theorem w_astoreN (X : Stand p l e R s m args below meth c T locs cells slots) (hx : p.tables.exec = Jvm.exec) {n : Fin 4} {v : Value} (hd : Dc c.code pc (.astore_n n) 1 pc') (hv : v.isRef = true) (hs : storeLocals Ls n.val v = some Ls') (k : Go p e below s Q C S (T.setTop (mkF m pc' Ls' (rest)))) : Go p e below s Q C S (T.setTop (mkF m pc Ls (v :: rest))) := by
  obtain ⟨hd, rfl⟩ := hd; exact k.step fun _ t => XS.astoreN X.here hx rfl hd rfl hv hs t
theorem w_iconst (X : Stand p l e R s m args below meth c T locs cells slots) (hx : p.tables.exec = Jvm.exec) {i : Int} {z : Int32} (hd : Dc c.code pc (.iconst i) 1 pc') (hz : Int32.ofInt i = z) (k : Go p e below s Q C S (T.setTop (mkF m pc' Ls (.int z :: rest)))) : Go p e below s Q C S (T.setTop (mkF m pc Ls rest)) := by
  obtain ⟨hd, rfl⟩ := hd; subst hz; exact k.step fun _ t => XS.iconst X.here hx rfl hd t
theorem w_bipush (X : Stand p l e R s m args below meth c T locs cells slots) (hx : p.tables.exec = Jvm.exec) {i : Int} {z : Int32} (hd : Dc c.code pc (.bipush i) 2 pc') (hz : (Int8.ofInt i).toInt32 = z) (k : Go p e below s Q C S (T.setTop (mkF m pc' Ls (.int z :: rest)))) : Go p e below s Q C S (T.setTop (mkF m pc Ls rest)) := by
  obtain ⟨hd, rfl⟩ := hd; subst hz; exact k.step fun _ t => XS.bipush X.here hx rfl hd t
theorem w_sipush (X : Stand p l e R s m args below meth c T locs cells slots) (hx : p.tables.exec = Jvm.exec) {i : Int} {z : Int32} (hd : Dc c.code pc (.sipush i) 3 pc') (hz : (Int16.ofInt i).toInt32 = z) (k : Go p e below s Q C S (T.setTop (mkF m pc' Ls (.int z :: rest)))) : Go p e below s Q C S (T.setTop (mkF m pc Ls rest)) := by
  obtain ⟨hd, rfl⟩ := hd; subst hz; exact k.step fun _ t => XS.sipush X.here hx rfl hd t
theorem w_lconst (X : Stand p l e R s m args below meth c T locs cells slots) (hx : p.tables.exec = Jvm.exec) {i : Fin 2} {z : Int64} (hd : Dc c.code pc (.lconst i) 1 pc') (hz : Int64.ofNat i = z) (k : Go p e below s Q C S (T.setTop (mkF m pc' Ls (.long z :: rest)))) : Go p e below s Q C S (T.setTop (mkF m pc Ls rest)) := by
  obtain ⟨hd, rfl⟩ := hd; subst hz; exact k.step fun _ t => XS.lconst X.here hx rfl hd t
theorem w_null (X : Stand p l e R s m args below meth c T locs cells slots) (hx : p.tables.exec = Jvm.exec) (hd : Dc c.code pc .aconst_null 1 pc') (k : Go p e below s Q C S (T.setTop (mkF m pc' Ls (.null :: rest)))) : Go p e below s Q C S (T.setTop (mkF m pc Ls rest)) := by
  obtain ⟨hd, rfl⟩ := hd; exact k.step fun _ t => XS.aconstNull X.here hx rfl hd t
theorem w_ldc (X : Stand p l e R s m args below meth c T locs cells slots) (hx : p.tables.exec = Jvm.exec) (hZ : Z.Warmed39 s.vm) {own : String} {index : Nat} {z : Int32} (hown : s.vm.findClass own = some m.cls) (w : (Jvm.Cond.constant own index z).before a0 Z = true) (hd : Dc c.code pc (.ldc index) 2 pc') (k : Go p e below s Q C S (T.setTop (mkF m pc' Ls (.int z :: rest)))) : Go p e below s Q C S (T.setTop (mkF m pc Ls rest)) := by
  obtain ⟨hd, rfl⟩ := hd; exact k.step fun t q => X.ldcInt hx hown (mvT hZ w) (g := mkF m pc Ls rest) rfl hd t q
theorem w_ldcw (X : Stand p l e R s m args below meth c T locs cells slots) (hx : p.tables.exec = Jvm.exec) (hZ : Z.Warmed39 s.vm) {own : String} {index : Nat} {z : Int32} (hown : s.vm.findClass own = some m.cls) (w : (Jvm.Cond.constant own index z).before a0 Z = true) (hd : Dc c.code pc (.ldc_w index) 3 pc') (k : Go p e below s Q C S (T.setTop (mkF m pc' Ls (.int z :: rest)))) : Go p e below s Q C S (T.setTop (mkF m pc Ls rest)) := by
  obtain ⟨hd, rfl⟩ := hd; exact k.step fun t q => X.ldcwInt hx hown (mvT hZ w) (g := mkF m pc Ls rest) rfl hd t q
theorem w_ldc2 (X : Stand p l e R s m args below meth c T locs cells slots) (hx : p.tables.exec = Jvm.exec) (hZ : Z.Warmed39 s.vm) {own : String} {index : Nat} {z : Int64} (hown : s.vm.findClass own = some m.cls) (w : (Jvm.Cond.constantLong own index z).before a0 Z = true) (hd : Dc c.code pc (.ldc2_w index) 3 pc') (k : Go p e below s Q C S (T.setTop (mkF m pc' Ls (.long z :: rest)))) : Go p e below s Q C S (T.setTop (mkF m pc Ls rest)) := by
  obtain ⟨hd, rfl⟩ := hd; exact k.step fun t q => X.ldc2Long hx hown (mvT hZ w) (g := mkF m pc Ls rest) rfl hd t q
theorem w_iinc (X : Stand p l e R s m args below meth c T locs cells slots) (hx : p.tables.exec = Jvm.exec) {n : Nat} {i : Int} {x z : Int32} (hd : Dc c.code pc (.iinc n i) 3 pc') (hl : Ls[n]? = some (.val (.int x))) (hz : x + Int32.ofInt i = z) (hs : storeLocals Ls n (.int z) = some Ls') (k : Go p e below s Q C S (T.setTop (mkF m pc' Ls' rest))) : Go p e below s Q C S (T.setTop (mkF m pc Ls rest)) := by
  obtain ⟨hd, rfl⟩ := hd; subst hz; exact k.step fun _ t => XS.iinc X.here hx rfl hd hl hs t
/-! arithmetic -/
def IShl (x y : Int32) : Int32 := x <<< (y &&& 31)
def IShr (x y : Int32) : Int32 := x >>> (y &&& 31)
def IUshr (x y : Int32) : Int32 := (x.toUInt32 >>> (y &&& 31).toUInt32).toInt32
def LShl (x : Int64) (y : Int32) : Int64 := x <<< (y &&& 0x3f).toInt64
def LShr (x : Int64) (y : Int32) : Int64 := x >>> (y &&& 0x3f).toInt64
def LUshr (x : Int64) (y : Int32) : Int64 := (x.toUInt64 >>> (y &&& 0x3f).toInt64.toUInt64).toInt64
theorem w_iadd (X : Stand p l e R s m args below meth c T locs cells slots) (hx : p.tables.exec = Jvm.exec) {x y : Int32} (hd : Dc c.code pc .iadd 1 pc') (k : Go p e below s Q C S (T.setTop (mkF m pc' Ls (.int (x + y) :: rest)))) : Go p e below s Q C S (T.setTop (mkF m pc Ls (.int y :: .int x :: rest))) := by
  obtain ⟨hd, rfl⟩ := hd; exact k.step fun _ t => XS.iadd X.here hx rfl hd rfl t
theorem w_isub (X : Stand p l e R s m args below meth c T locs cells slots) (hx : p.tables.exec = Jvm.exec) {x y : Int32} (hd : Dc c.code pc .isub 1 pc') (k : Go p e below s Q C S (T.setTop (mkF m pc' Ls (.int (x - y) :: rest)))) : Go p e below s Q C S (T.setTop (mkF m pc Ls (.int y :: .int x :: rest))) := by
  obtain ⟨hd, rfl⟩ := hd; exact k.step fun _ t => XS.isub X.here hx rfl hd rfl t
theorem w_imul (X : Stand p l e R s m args below meth c T locs cells slots) (hx : p.tables.exec = Jvm.exec) {x y : Int32} (hd : Dc c.code pc .imul 1 pc') (k : Go p e below s Q C S (T.setTop (mkF m pc' Ls (.int (x * y) :: rest)))) : Go p e below s Q C S (T.setTop (mkF m pc Ls (.int y :: .int x :: rest))) := by
  obtain ⟨hd, rfl⟩ := hd; exact k.step fun _ t => XS.imul X.here hx rfl hd rfl t
theorem w_iand (X : Stand p l e R s m args below meth c T locs cells slots) (hx : p.tables.exec = Jvm.exec) {x y : Int32} (hd : Dc c.code pc .iand 1 pc') (k : Go p e below s Q C S (T.setTop (mkF m pc' Ls (.int (x &&& y) :: rest)))) : Go p e below s Q C S (T.setTop (mkF m pc Ls (.int y :: .int x :: rest))) := by
  obtain ⟨hd, rfl⟩ := hd; exact k.step fun _ t => XS.iand X.here hx rfl hd rfl t
theorem w_ior (X : Stand p l e R s m args below meth c T locs cells slots) (hx : p.tables.exec = Jvm.exec) {x y : Int32} (hd : Dc c.code pc .ior 1 pc') (k : Go p e below s Q C S (T.setTop (mkF m pc' Ls (.int (x ||| y) :: rest)))) : Go p e below s Q C S (T.setTop (mkF m pc Ls (.int y :: .int x :: rest))) := by
  obtain ⟨hd, rfl⟩ := hd; exact k.step fun _ t => XS.ior X.here hx rfl hd rfl t
theorem w_ixor (X : Stand p l e R s m args below meth c T locs cells slots) (hx : p.tables.exec = Jvm.exec) {x y : Int32} (hd : Dc c.code pc .ixor 1 pc') (k : Go p e below s Q C S (T.setTop (mkF m pc' Ls (.int (x ^^^ y) :: rest)))) : Go p e below s Q C S (T.setTop (mkF m pc Ls (.int y :: .int x :: rest))) := by
  obtain ⟨hd, rfl⟩ := hd; exact k.step fun _ t => XS.ixor X.here hx rfl hd rfl t
theorem w_ishl (X : Stand p l e R s m args below meth c T locs cells slots) (hx : p.tables.exec = Jvm.exec) {x : Int32} {y : Int32} (hd : Dc c.code pc .ishl 1 pc') (k : Go p e below s Q C S (T.setTop (mkF m pc' Ls (.int (IShl x y) :: rest)))) : Go p e below s Q C S (T.setTop (mkF m pc Ls (.int y :: .int x :: rest))) := by
  obtain ⟨hd, rfl⟩ := hd; exact k.step fun _ t => XS.ishl X.here hx rfl hd rfl t
theorem w_ishr (X : Stand p l e R s m args below meth c T locs cells slots) (hx : p.tables.exec = Jvm.exec) {x : Int32} {y : Int32} (hd : Dc c.code pc .ishr 1 pc') (k : Go p e below s Q C S (T.setTop (mkF m pc' Ls (.int (IShr x y) :: rest)))) : Go p e below s Q C S (T.setTop (mkF m pc Ls (.int y :: .int x :: rest))) := by
  obtain ⟨hd, rfl⟩ := hd; exact k.step fun _ t => XS.ishr X.here hx rfl hd rfl t
theorem w_iushr (X : Stand p l e R s m args below meth c T locs cells slots) (hx : p.tables.exec = Jvm.exec) {x : Int32} {y : Int32} (hd : Dc c.code pc .iushr 1 pc') (k : Go p e below s Q C S (T.setTop (mkF m pc' Ls (.int (IUshr x y) :: rest)))) : Go p e below s Q C S (T.setTop (mkF m pc Ls (.int y :: .int x :: rest))) := by
  obtain ⟨hd, rfl⟩ := hd; exact k.step fun _ t => XS.iushr X.here hx rfl hd rfl t
theorem w_ladd (X : Stand p l e R s m args below meth c T locs cells slots) (hx : p.tables.exec = Jvm.exec) {x y : Int64} (hd : Dc c.code pc .ladd 1 pc') (k : Go p e below s Q C S (T.setTop (mkF m pc' Ls (.long (x + y) :: rest)))) : Go p e below s Q C S (T.setTop (mkF m pc Ls (.long y :: .long x :: rest))) := by
  obtain ⟨hd, rfl⟩ := hd; exact k.step fun _ t => XS.ladd X.here hx rfl hd rfl t
theorem w_lsub (X : Stand p l e R s m args below meth c T locs cells slots) (hx : p.tables.exec = Jvm.exec) {x y : Int64} (hd : Dc c.code pc .lsub 1 pc') (k : Go p e below s Q C S (T.setTop (mkF m pc' Ls (.long (x - y) :: rest)))) : Go p e below s Q C S (T.setTop (mkF m pc Ls (.long y :: .long x :: rest))) := by
  obtain ⟨hd, rfl⟩ := hd; exact k.step fun _ t => XS.lsub X.here hx rfl hd rfl t
theorem w_lmul (X : Stand p l e R s m args below meth c T locs cells slots) (hx : p.tables.exec = Jvm.exec) {x y : Int64} (hd : Dc c.code pc .lmul 1 pc') (k : Go p e below s Q C S (T.setTop (mkF m pc' Ls (.long (x * y) :: rest)))) : Go p e below s Q C S (T.setTop (mkF m pc Ls (.long y :: .long x :: rest))) := by
  obtain ⟨hd, rfl⟩ := hd; exact k.step fun _ t => XS.lmul X.here hx rfl hd rfl t
theorem w_land (X : Stand p l e R s m args below meth c T locs cells slots) (hx : p.tables.exec = Jvm.exec) {x y : Int64} (hd : Dc c.code pc .land 1 pc') (k : Go p e below s Q C S (T.setTop (mkF m pc' Ls (.long (x &&& y) :: rest)))) : Go p e below s Q C S (T.setTop (mkF m pc Ls (.long y :: .long x :: rest))) := by
  obtain ⟨hd, rfl⟩ := hd; exact k.step fun _ t => XS.land X.here hx rfl hd rfl t
theorem w_lor (X : Stand p l e R s m args below meth c T locs cells slots) (hx : p.tables.exec = Jvm.exec) {x y : Int64} (hd : Dc c.code pc .lor 1 pc') (k : Go p e below s Q C S (T.setTop (mkF m pc' Ls (.long (x ||| y) :: rest)))) : Go p e below s Q C S (T.setTop (mkF m pc Ls (.long y :: .long x :: rest))) := by
  obtain ⟨hd, rfl⟩ := hd; exact k.step fun _ t => XS.lor X.here hx rfl hd rfl t
theorem w_lxor (X : Stand p l e R s m args below meth c T locs cells slots) (hx : p.tables.exec = Jvm.exec) {x y : Int64} (hd : Dc c.code pc .lxor 1 pc') (k : Go p e below s Q C S (T.setTop (mkF m pc' Ls (.long (x ^^^ y) :: rest)))) : Go p e below s Q C S (T.setTop (mkF m pc Ls (.long y :: .long x :: rest))) := by
  obtain ⟨hd, rfl⟩ := hd; exact k.step fun _ t => XS.lxor X.here hx rfl hd rfl t
theorem w_lshl (X : Stand p l e R s m args below meth c T locs cells slots) (hx : p.tables.exec = Jvm.exec) {x : Int64} {y : Int32} (hd : Dc c.code pc .lshl 1 pc') (k : Go p e below s Q C S (T.setTop (mkF m pc' Ls (.long (LShl x y) :: rest)))) : Go p e below s Q C S (T.setTop (mkF m pc Ls (.int y :: .long x :: rest))) := by
  obtain ⟨hd, rfl⟩ := hd; exact k.step fun _ t => XS.lshl X.here hx rfl hd rfl t
theorem w_lshr (X : Stand p l e R s m args below meth c T locs cells slots) (hx : p.tables.exec = Jvm.exec) {x : Int64} {y : Int32} (hd : Dc c.code pc .lshr 1 pc') (k : Go p e below s Q C S (T.setTop (mkF m pc' Ls (.long (LShr x y) :: rest)))) : Go p e below s Q C S (T.setTop (mkF m pc Ls (.int y :: .long x :: rest))) := by
  obtain ⟨hd, rfl⟩ := hd; exact k.step fun _ t => XS.lshr X.here hx rfl hd rfl t
theorem w_lushr (X : Stand p l e R s m args below meth c T locs cells slots) (hx : p.tables.exec = Jvm.exec) {x : Int64} {y : Int32} (hd : Dc c.code pc .lushr 1 pc') (k : Go p e below s Q C S (T.setTop (mkF m pc' Ls (.long (LUshr x y) :: rest)))) : Go p e below s Q C S (T.setTop (mkF m pc Ls (.int y :: .long x :: rest))) := by
  obtain ⟨hd, rfl⟩ := hd; exact k.step fun _ t => XS.lushr X.here hx rfl hd rfl t
theorem w_ineg (X : Stand p l e R s m args below meth c T locs cells slots) (hx : p.tables.exec = Jvm.exec) {x : Int32} (hd : Dc c.code pc .ineg 1 pc') (k : Go p e below s Q C S (T.setTop (mkF m pc' Ls (.int (-x) :: rest)))) : Go p e below s Q C S (T.setTop (mkF m pc Ls (.int x :: rest))) := by
  obtain ⟨hd, rfl⟩ := hd; exact k.step fun _ t => XS.ineg X.here hx rfl hd rfl t
theorem w_lneg (X : Stand p l e R s m args below meth c T locs cells slots) (hx : p.tables.exec = Jvm.exec) {x : Int64} (hd : Dc c.code pc .lneg 1 pc') (k : Go p e below s Q C S (T.setTop (mkF m pc' Ls (.long (-x) :: rest)))) : Go p e below s Q C S (T.setTop (mkF m pc Ls (.long x :: rest))) := by
  obtain ⟨hd, rfl⟩ := hd; exact k.step fun _ t => XS.lneg X.here hx rfl hd rfl t
theorem w_i2l (X : Stand p l e R s m args below meth c T locs cells slots) (hx : p.tables.exec = Jvm.exec) {x : Int32} (hd : Dc c.code pc .i2l 1 pc') (k : Go p e below s Q C S (T.setTop (mkF m pc' Ls (.long (x.toInt64) :: rest)))) : Go p e below s Q C S (T.setTop (mkF m pc Ls (.int x :: rest))) := by
  obtain ⟨hd, rfl⟩ := hd; exact k.step fun _ t => XS.i2l X.here hx rfl hd rfl t
theorem w_l2i (X : Stand p l e R s m args below meth c T locs cells slots) (hx : p.tables.exec = Jvm.exec) {x : Int64} (hd : Dc c.code pc .l2i 1 pc') (k : Go p e below s Q C S (T.setTop (mkF m pc' Ls (.int (x.toInt32) :: rest)))) : Go p e below s Q C S (T.setTop (mkF m pc Ls (.long x :: rest))) := by
  obtain ⟨hd, rfl⟩ := hd; exact k.step fun _ t => XS.l2i X.here hx rfl hd rfl t
theorem w_i2b (X : Stand p l e R s m args below meth c T locs cells slots) (hx : p.tables.exec = Jvm.exec) {x : Int32} (hd : Dc c.code pc .i2b 1 pc') (k : Go p e below s Q C S (T.setTop (mkF m pc' Ls (.int (x.toInt8.toInt32) :: rest)))) : Go p e below s Q C S (T.setTop (mkF m pc Ls (.int x :: rest))) := by
  obtain ⟨hd, rfl⟩ := hd; exact k.step fun _ t => XS.i2b X.here hx rfl hd rfl t
theorem w_i2c (X : Stand p l e R s m args below meth c T locs cells slots) (hx : p.tables.exec = Jvm.exec) {x : Int32} (hd : Dc c.code pc .i2c 1 pc') (k : Go p e below s Q C S (T.setTop (mkF m pc' Ls (.int (x.toUInt32.toUInt16.toUInt32.toInt32) :: rest)))) : Go p e below s Q C S (T.setTop (mkF m pc Ls (.int x :: rest))) := by
  obtain ⟨hd, rfl⟩ := hd; exact k.step fun _ t => XS.i2c X.here hx rfl hd rfl t
theorem w_i2s (X : Stand p l e R s m args below meth c T locs cells slots) (hx : p.tables.exec = Jvm.exec) {x : Int32} (hd : Dc c.code pc .i2s 1 pc') (k : Go p e below s Q C S (T.setTop (mkF m pc' Ls (.int (x.toInt16.toInt32) :: rest)))) : Go p e below s Q C S (T.setTop (mkF m pc Ls (.int x :: rest))) := by
  obtain ⟨hd, rfl⟩ := hd; exact k.step fun _ t => XS.i2s X.here hx rfl hd rfl t
theorem w_idiv (X : Stand p l e R s m args below meth c T locs cells slots) (hx : p.tables.exec = Jvm.exec) {x y : Int32} (hd : Dc c.code pc .idiv 1 pc') (hy : y ≠ 0) (k : Go p e below s Q C S (T.setTop (mkF m pc' Ls (.int (x / y) :: rest)))) : Go p e below s Q C S (T.setTop (mkF m pc Ls (.int y :: .int x :: rest))) := by
  obtain ⟨hd, rfl⟩ := hd; exact k.step fun _ t => XS.idiv X.here hx rfl hd rfl hy t
theorem w_irem (X : Stand p l e R s m args below meth c T locs cells slots) (hx : p.tables.exec = Jvm.exec) {x y : Int32} (hd : Dc c.code pc .irem 1 pc') (hy : y ≠ 0) (k : Go p e below s Q C S (T.setTop (mkF m pc' Ls (.int (x % y) :: rest)))) : Go p e below s Q C S (T.setTop (mkF m pc Ls (.int y :: .int x :: rest))) := by
  obtain ⟨hd, rfl⟩ := hd; exact k.step fun _ t => iremM X hx rfl hd rfl hy t
theorem w_ldiv (X : Stand p l e R s m args below meth c T locs cells slots) (hx : p.tables.exec = Jvm.exec) {x y : Int64} (hd : Dc c.code pc .ldiv 1 pc') (hy : y ≠ 0) (k : Go p e below s Q C S (T.setTop (mkF m pc' Ls (.long (x / y) :: rest)))) : Go p e below s Q C S (T.setTop (mkF m pc Ls (.long y :: .long x :: rest))) := by
  obtain ⟨hd, rfl⟩ := hd; exact k.step fun _ t => XS.ldiv X.here hx rfl hd rfl hy t
theorem w_dup (X : Stand p l e R s m args below meth c T locs cells slots) (hx : p.tables.exec = Jvm.exec) {v : Value} (hd : Dc c.code pc .dup 1 pc') (hc : v.category = 1) (k : Go p e below s Q C S (T.setTop (mkF m pc' Ls (v :: v :: rest)))) : Go p e below s Q C S (T.setTop (mkF m pc Ls (v :: rest))) := by
  obtain ⟨hd, rfl⟩ := hd; exact k.step fun _ t => XS.dup X.here hx rfl hd rfl hc t
theorem w_dupx1 (X : Stand p l e R s m args below meth c T locs cells slots) (hx : p.tables.exec = Jvm.exec) {v w : Value} (hd : Dc c.code pc .dup_x1 1 pc') (hc : v.category = 1) (hc' : w.category = 1) (k : Go p e below s Q C S (T.setTop (mkF m pc' Ls (v :: w :: v :: rest)))) : Go p e below s Q C S (T.setTop (mkF m pc Ls (v :: w :: rest))) := by
  obtain ⟨hd, rfl⟩ := hd; exact k.step fun _ t => XS.dupX1 X.here hx rfl hd rfl hc hc' t
theorem w_dup2 (X : Stand p l e R s m args below meth c T locs cells slots) (hx : p.tables.exec = Jvm.exec) {v w : Value} (hd : Dc c.code pc .dup2 1 pc') (hc : v.category = 1) (hc' : w.category = 1) (k : Go p e below s Q C S (T.setTop (mkF m pc' Ls (v :: w :: v :: w :: rest)))) : Go p e below s Q C S (T.setTop (mkF m pc Ls (v :: w :: rest))) := by
  obtain ⟨hd, rfl⟩ := hd; exact k.step fun _ t => XT.dup2 X.here hx rfl hd rfl hc hc' t
theorem w_dup2L (X : Stand p l e R s m args below meth c T locs cells slots) (hx : p.tables.exec = Jvm.exec) {x : Int64} (hd : Dc c.code pc .dup2 1 pc') (k : Go p e below s Q C S (T.setTop (mkF m pc' Ls (.long x :: .long x :: rest)))) : Go p e below s Q C S (T.setTop (mkF m pc Ls (.long x :: rest))) := by
  obtain ⟨hd, rfl⟩ := hd; exact k.step fun _ t => XT.dup2L X.here hx rfl hd rfl t
theorem w_pop (X : Stand p l e R s m args below meth c T locs cells slots) (hx : p.tables.exec = Jvm.exec) {v : Value} (hd : Dc c.code pc .pop 1 pc') (hc : v.category = 1) (k : Go p e below s Q C S (T.setTop (mkF m pc' Ls rest))) : Go p e below s Q C S (T.setTop (mkF m pc Ls (v :: rest))) := by
  obtain ⟨hd, rfl⟩ := hd; exact k.step fun _ t => XS.pop X.here hx rfl hd rfl hc t
/-! branches -/
theorem w_goto (X : Stand p l e R s m args below meth c T locs cells slots) (hx : p.tables.exec = Jvm.exec) {o : Int} {pcT pcF : Nat} (hd : Dj c.code pc (.goto o) o pcT pcF) (k : Go p e below s Q C S (T.setTop (mkF m pcT Ls rest))) : Go p e below s Q C S (T.setTop (mkF m pc Ls rest)) := by
  obtain ⟨hd, ho, rfl, -⟩ := hd; exact k.step fun _ t => XS.goto X.here hx rfl rfl hd ho rfl t
theorem w_icmp_eq (X : Stand p l e R s m args below meth c T locs cells slots) (hx : p.tables.exec = Jvm.exec) {o : Int} {x y : Int32} {pcT pcF : Nat} (hd : Dj c.code pc (.if_icmp .eq o) o pcT pcF) (kt : x = y → Go p e below s Q C S (T.setTop (mkF m pcT Ls (rest)))) (kf : x ≠ y → Go p e below s Q C S (T.setTop (mkF m pcF Ls (rest)))) : Go p e below s Q C S (T.setTop (mkF m pc Ls (.int y :: .int x :: rest))) := by
  obtain ⟨hd, ho, rfl, rfl⟩ := hd
  by_cases hb : x = y
  · exact (kt hb).step fun _ t => XS.icmpYes X.here hx rfl rfl hd rfl (teq hb).1 ho rfl t
  · exact (kf hb).step fun _ t => XS.icmpNo X.here hx rfl hd rfl (feq hb).1 t
theorem w_if_eq (X : Stand p l e R s m args below meth c T locs cells slots) (hx : p.tables.exec = Jvm.exec) {o : Int} {x : Int32} {pcT pcF : Nat} (hd : Dj c.code pc (.ifCond .eq o) o pcT pcF) (kt : x = 0 → Go p e below s Q C S (T.setTop (mkF m pcT Ls (rest)))) (kf : x ≠ 0 → Go p e below s Q C S (T.setTop (mkF m pcF Ls (rest)))) : Go p e below s Q C S (T.setTop (mkF m pc Ls (.int x :: rest))) := by
  obtain ⟨hd, ho, rfl, rfl⟩ := hd
  have e0 : (0 : Int32).toInt = 0 := rfl
  by_cases hb : x = (0 : Int32)
  · exact (kt hb).step fun _ t => XS.ifYes X.here hx rfl rfl hd rfl ((if0 _ _).trans (teq hb).1) ho rfl t
  · exact (kf hb).step fun _ t => XS.ifNo X.here hx rfl hd rfl ((if0 _ _).trans (feq hb).1) t
theorem w_lcmp_eq (X : Stand p l e R s m args below meth c T locs cells slots) (hx : p.tables.exec = Jvm.exec) {o : Int} {x y : Int64} {pc1 pcT pcF : Nat} (hd1 : Dc c.code pc .lcmp 1 pc1) (hd : Dj c.code pc1 (.ifCond .eq o) o pcT pcF) (kt : x = y → Go p e below s Q C S (T.setTop (mkF m pcT Ls (rest)))) (kf : x ≠ y → Go p e below s Q C S (T.setTop (mkF m pcF Ls (rest)))) : Go p e below s Q C S (T.setTop (mkF m pc Ls (.long y :: .long x :: rest))) := by
  obtain ⟨hd1, rfl⟩ := hd1
  refine Go.step (fun _ t => XS.lcmp X.here hx rfl hd1 rfl t) ?_
  exact w_if_eq X hx hd (fun q => kt ((lw_eq x y).mp q)) (fun q => kf (fun r => q ((lw_eq x y).mpr r)))
theorem w_icmp_ne (X : Stand p l e R s m args below meth c T locs cells slots) (hx : p.tables.exec = Jvm.exec) {o : Int} {x y : Int32} {pcT pcF : Nat} (hd : Dj c.code pc (.if_icmp .ne o) o pcT pcF) (kt : x ≠ y → Go p e below s Q C S (T.setTop (mkF m pcT Ls (rest)))) (kf : x = y → Go p e below s Q C S (T.setTop (mkF m pcF Ls (rest)))) : Go p e below s Q C S (T.setTop (mkF m pc Ls (.int y :: .int x :: rest))) := by
  obtain ⟨hd, ho, rfl, rfl⟩ := hd
  by_cases hb : x = y
  · exact (kf hb).step fun _ t => XS.icmpNo X.here hx rfl hd rfl (teq hb).2 t
  · exact (kt hb).step fun _ t => XS.icmpYes X.here hx rfl rfl hd rfl (feq hb).2 ho rfl t
theorem w_if_ne (X : Stand p l e R s m args below meth c T locs cells slots) (hx : p.tables.exec = Jvm.exec) {o : Int} {x : Int32} {pcT pcF : Nat} (hd : Dj c.code pc (.ifCond .ne o) o pcT pcF) (kt : x ≠ 0 → Go p e below s Q C S (T.setTop (mkF m pcT Ls (rest)))) (kf : x = 0 → Go p e below s Q C S (T.setTop (mkF m pcF Ls (rest)))) : Go p e below s Q C S (T.setTop (mkF m pc Ls (.int x :: rest))) := by
  obtain ⟨hd, ho, rfl, rfl⟩ := hd
  have e0 : (0 : Int32).toInt = 0 := rfl
  by_cases hb : x = (0 : Int32)
  · exact (kf hb).step fun _ t => XS.ifNo X.here hx rfl hd rfl ((if0 _ _).trans (teq hb).2) t
  · exact (kt hb).step fun _ t => XS.ifYes X.here hx rfl rfl hd rfl ((if0 _ _).trans (feq hb).2) ho rfl t
theorem w_lcmp_ne (X : Stand p l e R s m args below meth c T locs cells slots) (hx : p.tables.exec = Jvm.exec) {o : Int} {x y : Int64} {pc1 pcT pcF : Nat} (hd1 : Dc c.code pc .lcmp 1 pc1) (hd : Dj c.code pc1 (.ifCond .ne o) o pcT pcF) (kt : x ≠ y → Go p e below s Q C S (T.setTop (mkF m pcT Ls (rest)))) (kf : x = y → Go p e below s Q C S (T.setTop (mkF m pcF Ls (rest)))) : Go p e below s Q C S (T.setTop (mkF m pc Ls (.long y :: .long x :: rest))) := by
  obtain ⟨hd1, rfl⟩ := hd1
  refine Go.step (fun _ t => XS.lcmp X.here hx rfl hd1 rfl t) ?_
  exact w_if_ne X hx hd (fun q => kt (fun r => q ((lw_eq x y).mpr r))) (fun q => kf ((lw_eq x y).mp q))
theorem w_icmp_lt (X : Stand p l e R s m args below meth c T locs cells slots) (hx : p.tables.exec = Jvm.exec) {o : Int} {x y : Int32} {pcT pcF : Nat} (hd : Dj c.code pc (.if_icmp .lt o) o pcT pcF) (kt : x.toInt < y.toInt → Go p e below s Q C S (T.setTop (mkF m pcT Ls (rest)))) (kf : y.toInt ≤ x.toInt → Go p e below s Q C S (T.setTop (mkF m pcF Ls (rest)))) : Go p e below s Q C S (T.setTop (mkF m pc Ls (.int y :: .int x :: rest))) := by
  obtain ⟨hd, ho, rfl, rfl⟩ := hd
  by_cases hb : x < y
  · exact (kt (Int32.lt_iff_toInt_lt.mp hb)).step fun _ t => XS.icmpYes X.here hx rfl rfl hd rfl (tlt hb).1 ho rfl t
  · exact (kf (by rw [Int32.lt_iff_toInt_lt] at hb; omega)).step fun _ t => XS.icmpNo X.here hx rfl hd rfl (flt hb).1 t
theorem w_if_lt (X : Stand p l e R s m args below meth c T locs cells slots) (hx : p.tables.exec = Jvm.exec) {o : Int} {x : Int32} {pcT pcF : Nat} (hd : Dj c.code pc (.ifCond .lt o) o pcT pcF) (kt : x.toInt < 0 → Go p e below s Q C S (T.setTop (mkF m pcT Ls (rest)))) (kf : 0 ≤ x.toInt → Go p e below s Q C S (T.setTop (mkF m pcF Ls (rest)))) : Go p e below s Q C S (T.setTop (mkF m pc Ls (.int x :: rest))) := by
  obtain ⟨hd, ho, rfl, rfl⟩ := hd
  have e0 : (0 : Int32).toInt = 0 := rfl
  by_cases hb : x < (0 : Int32)
  · exact (kt (by rw [Int32.lt_iff_toInt_lt] at hb; omega)).step fun _ t => XS.ifYes X.here hx rfl rfl hd rfl ((if0 _ _).trans (tlt hb).1) ho rfl t
  · exact (kf (by rw [Int32.lt_iff_toInt_lt] at hb; omega)).step fun _ t => XS.ifNo X.here hx rfl hd rfl ((if0 _ _).trans (flt hb).1) t
theorem w_lcmp_lt (X : Stand p l e R s m args below meth c T locs cells slots) (hx : p.tables.exec = Jvm.exec) {o : Int} {x y : Int64} {pc1 pcT pcF : Nat} (hd1 : Dc c.code pc .lcmp 1 pc1) (hd : Dj c.code pc1 (.ifCond .lt o) o pcT pcF) (kt : x.toInt < y.toInt → Go p e below s Q C S (T.setTop (mkF m pcT Ls (rest)))) (kf : y.toInt ≤ x.toInt → Go p e below s Q C S (T.setTop (mkF m pcF Ls (rest)))) : Go p e below s Q C S (T.setTop (mkF m pc Ls (.long y :: .long x :: rest))) := by
  obtain ⟨hd1, rfl⟩ := hd1
  have e0 : (0 : Int32).toInt = 0 := rfl
  have L : (lcmpW x y).toInt < 0 → x.toInt < y.toInt := fun q => by have := (lw_lt x y).mp (by rw [Int32.lt_iff_toInt_lt]; omega); rwa [Int64.lt_iff_toInt_lt] at this
  have N : 0 ≤ (lcmpW x y).toInt → y.toInt ≤ x.toInt := fun q => by
    have h1 : ¬ x < y := fun r => by have := (lw_lt x y).mpr r; rw [Int32.lt_iff_toInt_lt] at this; omega
    rw [Int64.lt_iff_toInt_lt] at h1; omega
  have M : 0 < (lcmpW x y).toInt → y.toInt < x.toInt := fun q => by have := (lw_gt x y).mp (by rw [Int32.lt_iff_toInt_lt]; omega); rwa [Int64.lt_iff_toInt_lt] at this
  have P : (lcmpW x y).toInt ≤ 0 → x.toInt ≤ y.toInt := fun q => by
    have h1 : ¬ y < x := fun r => by have := (lw_gt x y).mpr r; rw [Int32.lt_iff_toInt_lt] at this; omega
    rw [Int64.lt_iff_toInt_lt] at h1; omega
  refine Go.step (fun _ t => XS.lcmp X.here hx rfl hd1 rfl t) ?_
  exact w_if_lt X hx hd (fun q => kt (L q)) (fun q => kf (N q))
theorem w_icmp_ge (X : Stand p l e R s m args below meth c T locs cells slots) (hx : p.tables.exec = Jvm.exec) {o : Int} {x y : Int32} {pcT pcF : Nat} (hd : Dj c.code pc (.if_icmp .ge o) o pcT pcF) (kt : y.toInt ≤ x.toInt → Go p e below s Q C S (T.setTop (mkF m pcT Ls (rest)))) (kf : x.toInt < y.toInt → Go p e below s Q C S (T.setTop (mkF m pcF Ls (rest)))) : Go p e below s Q C S (T.setTop (mkF m pc Ls (.int y :: .int x :: rest))) := by
  obtain ⟨hd, ho, rfl, rfl⟩ := hd
  by_cases hb : x < y
  · exact (kf (Int32.lt_iff_toInt_lt.mp hb)).step fun _ t => XS.icmpNo X.here hx rfl hd rfl (tlt hb).2.1 t
  · exact (kt (by rw [Int32.lt_iff_toInt_lt] at hb; omega)).step fun _ t => XS.icmpYes X.here hx rfl rfl hd rfl (flt hb).2.1 ho rfl t
theorem w_if_ge (X : Stand p l e R s m args below meth c T locs cells slots) (hx : p.tables.exec = Jvm.exec) {o : Int} {x : Int32} {pcT pcF : Nat} (hd : Dj c.code pc (.ifCond .ge o) o pcT pcF) (kt : 0 ≤ x.toInt → Go p e below s Q C S (T.setTop (mkF m pcT Ls (rest)))) (kf : x.toInt < 0 → Go p e below s Q C S (T.setTop (mkF m pcF Ls (rest)))) : Go p e below s Q C S (T.setTop (mkF m pc Ls (.int x :: rest))) := by
  obtain ⟨hd, ho, rfl, rfl⟩ := hd
  have e0 : (0 : Int32).toInt = 0 := rfl
  by_cases hb : x < (0 : Int32)
  · exact (kf (by rw [Int32.lt_iff_toInt_lt] at hb; omega)).step fun _ t => XS.ifNo X.here hx rfl hd rfl ((if0 _ _).trans (tlt hb).2.1) t
  · exact (kt (by rw [Int32.lt_iff_toInt_lt] at hb; omega)).step fun _ t => XS.ifYes X.here hx rfl rfl hd rfl ((if0 _ _).trans (flt hb).2.1) ho rfl t
theorem w_lcmp_ge (X : Stand p l e R s m args below meth c T locs cells slots) (hx : p.tables.exec = Jvm.exec) {o : Int} {x y : Int64} {pc1 pcT pcF : Nat} (hd1 : Dc c.code pc .lcmp 1 pc1) (hd : Dj c.code pc1 (.ifCond .ge o) o pcT pcF) (kt : y.toInt ≤ x.toInt → Go p e below s Q C S (T.setTop (mkF m pcT Ls (rest)))) (kf : x.toInt < y.toInt → Go p e below s Q C S (T.setTop (mkF m pcF Ls (rest)))) : Go p e below s Q C S (T.setTop (mkF m pc Ls (.long y :: .long x :: rest))) := by
  obtain ⟨hd1, rfl⟩ := hd1
  have e0 : (0 : Int32).toInt = 0 := rfl
  have L : (lcmpW x y).toInt < 0 → x.toInt < y.toInt := fun q => by have := (lw_lt x y).mp (by rw [Int32.lt_iff_toInt_lt]; omega); rwa [Int64.lt_iff_toInt_lt] at this
  have N : 0 ≤ (lcmpW x y).toInt → y.toInt ≤ x.toInt := fun q => by
    have h1 : ¬ x < y := fun r => by have := (lw_lt x y).mpr r; rw [Int32.lt_iff_toInt_lt] at this; omega
    rw [Int64.lt_iff_toInt_lt] at h1; omega
  have M : 0 < (lcmpW x y).toInt → y.toInt < x.toInt := fun q => by have := (lw_gt x y).mp (by rw [Int32.lt_iff_toInt_lt]; omega); rwa [Int64.lt_iff_toInt_lt] at this
  have P : (lcmpW x y).toInt ≤ 0 → x.toInt ≤ y.toInt := fun q => by
    have h1 : ¬ y < x := fun r => by have := (lw_gt x y).mpr r; rw [Int32.lt_iff_toInt_lt] at this; omega
    rw [Int64.lt_iff_toInt_lt] at h1; omega
  refine Go.step (fun _ t => XS.lcmp X.here hx rfl hd1 rfl t) ?_
  exact w_if_ge X hx hd (fun q => kt (N q)) (fun q => kf (L q))
theorem w_icmp_gt (X : Stand p l e R s m args below meth c T locs cells slots) (hx : p.tables.exec = Jvm.exec) {o : Int} {x y : Int32} {pcT pcF : Nat} (hd : Dj c.code pc (.if_icmp .gt o) o pcT pcF) (kt : y.toInt < x.toInt → Go p e below s Q C S (T.setTop (mkF m pcT Ls (rest)))) (kf : x.toInt ≤ y.toInt → Go p e below s Q C S (T.setTop (mkF m pcF Ls (rest)))) : Go p e below s Q C S (T.setTop (mkF m pc Ls (.int y :: .int x :: rest))) := by
  obtain ⟨hd, ho, rfl, rfl⟩ := hd
  by_cases hb : y < x
  · exact (kt (Int32.lt_iff_toInt_lt.mp hb)).step fun _ t => XS.icmpYes X.here hx rfl rfl hd rfl (tlt hb).2.2.1 ho rfl t
  · exact (kf (by rw [Int32.lt_iff_toInt_lt] at hb; omega)).step fun _ t => XS.icmpNo X.here hx rfl hd rfl (flt hb).2.2.1 t
theorem w_if_gt (X : Stand p l e R s m args below meth c T locs cells slots) (hx : p.tables.exec = Jvm.exec) {o : Int} {x : Int32} {pcT pcF : Nat} (hd : Dj c.code pc (.ifCond .gt o) o pcT pcF) (kt : 0 < x.toInt → Go p e below s Q C S (T.setTop (mkF m pcT Ls (rest)))) (kf : x.toInt ≤ 0 → Go p e below s Q C S (T.setTop (mkF m pcF Ls (rest)))) : Go p e below s Q C S (T.setTop (mkF m pc Ls (.int x :: rest))) := by
  obtain ⟨hd, ho, rfl, rfl⟩ := hd
  have e0 : (0 : Int32).toInt = 0 := rfl
  by_cases hb : (0 : Int32) < x
  · exact (kt (by rw [Int32.lt_iff_toInt_lt] at hb; omega)).step fun _ t => XS.ifYes X.here hx rfl rfl hd rfl ((if0 _ _).trans (tlt hb).2.2.1) ho rfl t
  · exact (kf (by rw [Int32.lt_iff_toInt_lt] at hb; omega)).step fun _ t => XS.ifNo X.here hx rfl hd rfl ((if0 _ _).trans (flt hb).2.2.1) t
theorem w_lcmp_gt (X : Stand p l e R s m args below meth c T locs cells slots) (hx : p.tables.exec = Jvm.exec) {o : Int} {x y : Int64} {pc1 pcT pcF : Nat} (hd1 : Dc c.code pc .lcmp 1 pc1) (hd : Dj c.code pc1 (.ifCond .gt o) o pcT pcF) (kt : y.toInt < x.toInt → Go p e below s Q C S (T.setTop (mkF m pcT Ls (rest)))) (kf : x.toInt ≤ y.toInt → Go p e below s Q C S (T.setTop (mkF m pcF Ls (rest)))) : Go p e below s Q C S (T.setTop (mkF m pc Ls (.long y :: .long x :: rest))) := by
  obtain ⟨hd1, rfl⟩ := hd1
  have e0 : (0 : Int32).toInt = 0 := rfl
  have L : (lcmpW x y).toInt < 0 → x.toInt < y.toInt := fun q => by have := (lw_lt x y).mp (by rw [Int32.lt_iff_toInt_lt]; omega); rwa [Int64.lt_iff_toInt_lt] at this
  have N : 0 ≤ (lcmpW x y).toInt → y.toInt ≤ x.toInt := fun q => by
    have h1 : ¬ x < y := fun r => by have := (lw_lt x y).mpr r; rw [Int32.lt_iff_toInt_lt] at this; omega
    rw [Int64.lt_iff_toInt_lt] at h1; omega
  have M : 0 < (lcmpW x y).toInt → y.toInt < x.toInt := fun q => by have := (lw_gt x y).mp (by rw [Int32.lt_iff_toInt_lt]; omega); rwa [Int64.lt_iff_toInt_lt] at this
  have P : (lcmpW x y).toInt ≤ 0 → x.toInt ≤ y.toInt := fun q => by
    have h1 : ¬ y < x := fun r => by have := (lw_gt x y).mpr r; rw [Int32.lt_iff_toInt_lt] at this; omega
    rw [Int64.lt_iff_toInt_lt] at h1; omega
  refine Go.step (fun _ t => XS.lcmp X.here hx rfl hd1 rfl t) ?_
  exact w_if_gt X hx hd (fun q => kt (M q)) (fun q => kf (P q))
theorem w_icmp_le (X : Stand p l e R s m args below meth c T locs cells slots) (hx : p.tables.exec = Jvm.exec) {o : Int} {x y : Int32} {pcT pcF : Nat} (hd : Dj c.code pc (.if_icmp .le o) o pcT pcF) (kt : x.toInt ≤ y.toInt → Go p e below s Q C S (T.setTop (mkF m pcT Ls (rest)))) (kf : y.toInt < x.toInt → Go p e below s Q C S (T.setTop (mkF m pcF Ls (rest)))) : Go p e below s Q C S (T.setTop (mkF m pc Ls (.int y :: .int x :: rest))) := by
  obtain ⟨hd, ho, rfl, rfl⟩ := hd
  by_cases hb : y < x
  · exact (kf (Int32.lt_iff_toInt_lt.mp hb)).step fun _ t => XS.icmpNo X.here hx rfl hd rfl (tlt hb).2.2.2 t
  · exact (kt (by rw [Int32.lt_iff_toInt_lt] at hb; omega)).step fun _ t => XS.icmpYes X.here hx rfl rfl hd rfl (flt hb).2.2.2 ho rfl t
theorem w_if_le (X : Stand p l e R s m args below meth c T locs cells slots) (hx : p.tables.exec = Jvm.exec) {o : Int} {x : Int32} {pcT pcF : Nat} (hd : Dj c.code pc (.ifCond .le o) o pcT pcF) (kt : x.toInt ≤ 0 → Go p e below s Q C S (T.setTop (mkF m pcT Ls (rest)))) (kf : 0 < x.toInt → Go p e below s Q C S (T.setTop (mkF m pcF Ls (rest)))) : Go p e below s Q C S (T.setTop (mkF m pc Ls (.int x :: rest))) := by
  obtain ⟨hd, ho, rfl, rfl⟩ := hd
  have e0 : (0 : Int32).toInt = 0 := rfl
  by_cases hb : (0 : Int32) < x
  · exact (kf (by rw [Int32.lt_iff_toInt_lt] at hb; omega)).step fun _ t => XS.ifNo X.here hx rfl hd rfl ((if0 _ _).trans (tlt hb).2.2.2) t
  · exact (kt (by rw [Int32.lt_iff_toInt_lt] at hb; omega)).step fun _ t => XS.ifYes X.here hx rfl rfl hd rfl ((if0 _ _).trans (flt hb).2.2.2) ho rfl t
theorem w_lcmp_le (X : Stand p l e R s m args below meth c T locs cells slots) (hx : p.tables.exec = Jvm.exec) {o : Int} {x y : Int64} {pc1 pcT pcF : Nat} (hd1 : Dc c.code pc .lcmp 1 pc1) (hd : Dj c.code pc1 (.ifCond .le o) o pcT pcF) (kt : x.toInt ≤ y.toInt → Go p e below s Q C S (T.setTop (mkF m pcT Ls (rest)))) (kf : y.toInt < x.toInt → Go p e below s Q C S (T.setTop (mkF m pcF Ls (rest)))) : Go p e below s Q C S (T.setTop (mkF m pc Ls (.long y :: .long x :: rest))) := by
  obtain ⟨hd1, rfl⟩ := hd1
  have e0 : (0 : Int32).toInt = 0 := rfl
  have L : (lcmpW x y).toInt < 0 → x.toInt < y.toInt := fun q => by have := (lw_lt x y).mp (by rw [Int32.lt_iff_toInt_lt]; omega); rwa [Int64.lt_iff_toInt_lt] at this
  have N : 0 ≤ (lcmpW x y).toInt → y.toInt ≤ x.toInt := fun q => by
    have h1 : ¬ x < y := fun r => by have := (lw_lt x y).mpr r; rw [Int32.lt_iff_toInt_lt] at this; omega
    rw [Int64.lt_iff_toInt_lt] at h1; omega
  have M : 0 < (lcmpW x y).toInt → y.toInt < x.toInt := fun q => by have := (lw_gt x y).mp (by rw [Int32.lt_iff_toInt_lt]; omega); rwa [Int64.lt_iff_toInt_lt] at this
  have P : (lcmpW x y).toInt ≤ 0 → x.toInt ≤ y.toInt := fun q => by
    have h1 : ¬ y < x := fun r => by have := (lw_gt x y).mpr r; rw [Int32.lt_iff_toInt_lt] at this; omega
    rw [Int64.lt_iff_toInt_lt] at h1; omega
  refine Go.step (fun _ t => XS.lcmp X.here hx rfl hd1 rfl t) ?_
  exact w_if_le X hx hd (fun q => kt (P q)) (fun q => kf (M q))
theorem w_acmp (X : Stand p l e R s m args below meth c T locs cells slots) (hx : p.tables.exec = Jvm.exec) {o : Int} {cd : ClassFile.ACond} {x y : Value} {pcT pcF : Nat} (hd : Dj c.code pc (.if_acmp cd o) o pcT pcF) (h1 : x.isRef = true) (h2 : y.isRef = true) {b : Bool} (hb : acV cd (decide (x = y)) = b) (k : Go p e below s Q C S (T.setTop (mkF m (if b = true then pcT else pcF) Ls rest))) : Go p e below s Q C S (T.setTop (mkF m pc Ls (y :: x :: rest))) := by
  obtain ⟨hd, ho, rfl, rfl⟩ := hd; subst hb; exact k.step fun _ t => Jvm.RoadKit.acmp X hx rfl h1 h2 rfl hd rfl rfl ho rfl t
theorem w_ifnullR (X : Stand p l e R s m args below meth c T locs cells slots) (hx : p.tables.exec = Jvm.exec) {o : Int} {b : Addr} {pcT pcF : Nat} (hd : Dj c.code pc (.ifnull o) o pcT pcF) (k : Go p e below s Q C S (T.setTop (mkF m pcF Ls rest))) : Go p e below s Q C S (T.setTop (mkF m pc Ls (.ref b :: rest))) := by
  obtain ⟨hd, -, -, rfl⟩ := hd; exact k.step fun _ t => XS.ifnullNo X.here hx rfl hd rfl t
/-! returns -/
theorem w_ret (X : Stand p l e R s m args below meth c T locs cells slots) (hx : p.tables.exec = Jvm.exec) (hret : meth.sig.returnType = none) (hlk : meth.locks = false) (hd : Dc c.code pc .return_ 1 pc') (hC : cells ≤ C) (hS : slots ≤ S) (hQ : Q none T.heap locs) : Go p e below s Q C S (T.setTop (mkF m pc Ls [])) := by
  obtain ⟨fs, hr, hrun, hended, hW, hsame⟩ := X.leave (v := none) (fun _ => rfl) hlk
  exact ⟨_, _, X.returnOut hx hret hd.1 hr, hrun, hended, _, _, rfl, hQ, ⟨_, rfl⟩, hW, hsame.mono hC hS⟩
theorem w_retI (X : Stand p l e R s m args below meth c T locs cells slots) (hx : p.tables.exec = Jvm.exec) (hret : meth.sig.returnType = some .int) (hlk : meth.locks = false) {z : Int32} (hd : Dc c.code pc .ireturn 1 pc') (hC : cells ≤ C) (hS : slots ≤ S) (hQ : Q (some (.int z)) T.heap locs) : Go p e below s Q C S (T.setTop (mkF m pc Ls (.int z :: rest))) := by
  obtain ⟨fs, hr, hrun, hended, hW, hsame⟩ := X.leave (v := some (.int z)) (fun h => by rw [hret] at h; cases h) hlk
  exact ⟨_, _, retOut X hx hret rfl (Or.inl ⟨rfl, Or.inl rfl, _, rfl⟩) hd.1 hr, hrun, hended, _, _, rfl, hQ, ⟨_, rfl⟩, hW, hsame.mono hC hS⟩
theorem w_retN (X : Stand p l e R s m args below meth c T locs cells slots) (hx : p.tables.exec = Jvm.exec) {t : FieldType} (hret : meth.sig.returnType = some t) (ht : t = .boolean ∨ t = .byte ∨ t = .char ∨ t = .short) (hlk : meth.locks = false) {z : Int32} (hd : Dc c.code pc .ireturn 1 pc') (hC : cells ≤ C) (hS : slots ≤ S) (hQ : Q (some (.int (nar t z))) T.heap locs) : Go p e below s Q C S (T.setTop (mkF m pc Ls (.int z :: rest))) := by
  obtain ⟨fs, hr, hrun, hended, hW, hsame⟩ := X.leave (v := some (.int (nar t z))) (fun h => by rw [hret] at h; cases h) hlk
  exact ⟨_, _, retN X hx hret ht hd.1 hr, hrun, hended, _, _, rfl, hQ, ⟨_, rfl⟩, hW, hsame.mono hC hS⟩
theorem w_retJ (X : Stand p l e R s m args below meth c T locs cells slots) (hx : p.tables.exec = Jvm.exec) (hret : meth.sig.returnType = some .long) (hlk : meth.locks = false) {z : Int64} (hd : Dc c.code pc .lreturn 1 pc') (hC : cells ≤ C) (hS : slots ≤ S) (hQ : Q (some (.long z)) T.heap locs) : Go p e below s Q C S (T.setTop (mkF m pc Ls (.long z :: rest))) := by
  obtain ⟨fs, hr, hrun, hended, hW, hsame⟩ := X.leave (v := some (.long z)) (fun h => by rw [hret] at h; cases h) hlk
  exact ⟨_, _, retOut X hx hret rfl (Or.inr (Or.inl ⟨rfl, rfl, _, rfl⟩)) hd.1 hr, hrun, hended, _, _, rfl, hQ, ⟨_, rfl⟩, hW, hsame.mono hC hS⟩
theorem w_retA (X : Stand p l e R s m args below meth c T locs cells slots) (hx : p.tables.exec = Jvm.exec) {t : FieldType} {a : Addr} (hret : meth.sig.returnType = some t) (ht : t.isReference = true) (hn : narrow t (.ref a) = .ref a) (hlk : meth.locks = false) (hd : Dc c.code pc .areturn 1 pc') (hC : cells ≤ C) (hS : slots ≤ S) (hQ : Q (some (.ref a)) T.heap locs) : Go p e below s Q C S (T.setTop (mkF m pc Ls (.ref a :: rest))) := by
  obtain ⟨fs, hr, hrun, hended, hW, hsame⟩ := X.leave (v := some (.ref a)) (fun h => by rw [hret] at h; cases h) hlk
  exact ⟨_, _, retOut X hx hret hn (Or.inr (Or.inr (Or.inr (Or.inr ⟨rfl, ht, rfl⟩)))) hd.1 hr, hrun, hended, _, _, rfl, hQ, ⟨_, rfl⟩, hW, hsame.mono hC hS⟩
/-! contracts -/
def Ct (l : Launch) (Z : State) (y : MethodName) (bytes : ByteArray) (maxL : Nat) (ret : Option FieldType) (rm : Room) (as' : Array Value) (h : Heap) (Q : Option Value → Heap → List Loc → Prop) : Prop :=
  MetFree l y (head1 [Jvm.Cond.code y bytes maxL ret] rm) (fun a U => a = as' ∧ Z.Warmed39 U.vm ∧ U.heap = h) (fun _ _ _ _ _ => True) (fun _ U o U' => ∃ v L, o = .returned v ∧ Q v U'.heap L ∧ FrameEnd U o U' L rm.cells rm.slots)
theorem w_body {y : MethodName} {bytes : ByteArray} {maxL : Nat} {ret : Option FieldType} {rm : Room} {as' : Array Value} {ws : List Jvm.Cond} (hp : plainFor y = true)
    (body : ∀ (p : Program) (e : Env) (s : State) (m : MethodId) (below : List Frame) (meth : Method) (c : Code) (T : State), Stand p l e rm s m as' below meth c T [] 0 0 → p.tables.exec = Jvm.exec → c.code = bytes → c.maxLocals = maxL → s.vm.findClass y.cls = some m.cls → meth.name = y.name → meth.sig.returnType = ret → meth.locks = false → Z.Warmed39 s.vm → T.heap = h → Go p e below s Q C S (T.setTop (entryFrame m as' maxL))) :
    MetFree l y (head1 (Jvm.Cond.code y bytes maxL ret :: ws) rm) (fun a U => a = as' ∧ Z.Warmed39 U.vm ∧ U.heap = h) (fun _ _ _ _ _ => True) (fun _ U o U' => ∃ v L, o = .returned v ∧ Q v U'.heap L ∧ FrameEnd U o U' L C S) := by
  refine MetFree.of_bodySF hp hisR ?_
  intro p e s m args below meth c s₁ Bd hml0 hP hK
  obtain ⟨rfl, hZ, hh⟩ := hP
  exact body p e s m below meth c s₁ (Stand.of_body Bd) Bd.exec Bd.bytes hml0 (findClass_of_methodNamed Bd.named) (name_of_methodNamed Bd.named Bd.method).1 Bd.returns Bd.notSynchronized hZ (by rw [← hh, Bd.state]; rfl)
theorem Ct.body {y : MethodName} {bytes : ByteArray} {maxL : Nat} {ret : Option FieldType} {rm : Room} {as' : Array Value} (hp : plainFor y = true)
    (body : ∀ (p : Program) (e : Env) (s : State) (m : MethodId) (below : List Frame) (meth : Method) (c : Code) (T : State), Stand p l e rm s m as' below meth c T [] 0 0 → p.tables.exec = Jvm.exec → c.code = bytes → c.maxLocals = maxL → s.vm.findClass y.cls = some m.cls → meth.name = y.name → meth.sig.returnType = ret → meth.locks = false → Z.Warmed39 s.vm → T.heap = h → Go p e below s Q rm.cells rm.slots (T.setTop (entryFrame m as' maxL))) :
    Ct l Z y bytes maxL ret rm as' h Q := w_body hp body
/-! calls -/
theorem w_callS (X : Stand p l e R s m args below meth c T locs cells slots) (hx : p.tables.exec = Jvm.exec) (hZ : Z.Warmed39 s.vm) (eT : T.heap = h) {kk : Nat} (hml : c.maxLocals = kk) (hkk : Ls.size = kk) {own : String} (hown : s.vm.findClass own = some m.cls) {index : Nat} {y : MethodName} {bytes : ByteArray} {maxL : Nat} {ret : Option FieldType} {rm : Room} {as' : Array Value} {Qc : Option Value → Heap → List Loc → Prop}
    (w1 : (Jvm.Cond.methodLink own index y).before a0 Z = true) (w2 : (Jvm.Cond.static y).before a0 Z = true) (w3 : (Jvm.Cond.initialized y.cls).before a0 Z = true) (w4 : (Jvm.Cond.code y bytes maxL ret).before a0 Z = true) (hy : y.cls ≠ "java/lang/invoke/MethodHandle" ∧ y.cls ≠ "java/lang/invoke/VarHandle")
    (hM : Ct l Z y bytes maxL ret rm as' h Qc) (hd : Dc c.code pc (.invokestatic index) 3 pc') {ps : List FieldType} {r : Option FieldType} (hpd : parseMethodDescriptor y.desc = some ⟨ps, r⟩) {argsL st rest : List Value} (has : argsL.toArray = as') (hst : st = argsL.reverse ++ rest) (hlen : argsL.length = ps.length) {W : Nat} (hW : (rest.map fun v => v.category).sum = W)
    (hf : rm.frames + 1 ≤ R.frames) (hl : W + (maxL + 11) + rm.locals ≤ R.locals) (hcl : cells + rm.cells ≤ R.cells) (hsl : slots + rm.slots ≤ R.slots)
    (k : ∀ (v : Option Value) (T' : State) (L : List Loc), Stand p l e R s m args below meth c T' (locs ++ L) (cells + rm.cells) (slots + rm.slots) → Qc v T'.heap L → Go p e below s Q C S (T'.setTop (mkF m pc' Ls (v.toList ++ rest)))) :
    Go p e below s Q C S (T.setTop (mkF m pc Ls st)) := by
  subst hst has hW
  obtain ⟨hd, rfl⟩ := hd
  obtain ⟨v, _, ⟨T', L', k', n'⟩, -, X', ⟨Lc, hQ, e1, e2, e3⟩, st⟩ := Jvm.LawKit.callS X hx (y := y) hown (mvT hZ w1) (mvT hZ w2) (mvT hZ w3) (mvT hZ w4) hy (backOf (W := (rest.map fun v => v.category).sum) hM hZ w4 w3 hf hl) (g := mkF m pc Ls (argsL.reverse ++ rest)) rfl (hkk.trans hml.symm) (argsL := argsL) (rest := rest) (lenOf hpd hlen) rfl (by show 2 * 0 + _ ≤ _; omega) hd (fun _ _ => ⟨rfl, eT, hcl, hsl⟩)
  dsimp only [Pt.U, Pt.locs, Pt.cells, Pt.slots] at X' e1 e2 e3 st hQ
  subst e1 e2 e3
  exact (k v T' Lc X' hQ).step st
theorem w_callV (X : Stand p l e R s m args below meth c T locs cells slots) (hx : p.tables.exec = Jvm.exec) (hZ : Z.Warmed39 s.vm) (eT : T.heap = h) {kk : Nat} (hml : c.maxLocals = kk) (hkk : Ls.size = kk) {own : String} (hown : s.vm.findClass own = some m.cls) {index : Nat} {y : MethodName} {bytes : ByteArray} {maxL : Nat} {ret : Option FieldType} {rm : Room} {as' : Array Value} {Qc : Option Value → Heap → List Loc → Prop}
    (w1 : (Jvm.Cond.methodLink own index y).before a0 Z = true) (w2 : (Jvm.Cond.declares y).before a0 Z = true) (w5 : (Jvm.Cond.selects y.cls y y).before a0 Z = true) (w6 : (Jvm.Cond.instanceMethod y).before a0 Z = true) (w3 : (Jvm.Cond.initialized y.cls).before a0 Z = true) (w4 : (Jvm.Cond.code y bytes maxL ret).before a0 Z = true) (hy : y.cls ≠ "java/lang/invoke/MethodHandle" ∧ y.cls ≠ "java/lang/invoke/VarHandle")
    (hM : Ct l Z y bytes maxL ret rm as' h Qc) {b : Addr} (E : Exa Z h b y.cls) (hd : Dc c.code pc (.invokevirtual index) 3 pc') {ps : List FieldType} {r : Option FieldType} (hpd : parseMethodDescriptor y.desc = some ⟨ps, r⟩) {argsL st rest : List Value} (has : (.ref b :: argsL).toArray = as') (hst : st = argsL.reverse ++ .ref b :: rest) (hlen : argsL.length = ps.length) {W : Nat} (hW : (rest.map fun v => v.category).sum = W)
    (hf : rm.frames + 1 ≤ R.frames) (hl : W + (maxL + 11) + rm.locals ≤ R.locals) (hcl : cells + rm.cells ≤ R.cells) (hsl : slots + rm.slots ≤ R.slots)
    (k : ∀ (v : Option Value) (T' : State) (L : List Loc), Stand p l e R s m args below meth c T' (locs ++ L) (cells + rm.cells) (slots + rm.slots) → Qc v T'.heap L → Go p e below s Q C S (T'.setTop (mkF m pc' Ls (v.toList ++ rest)))) :
    Go p e below s Q C S (T.setTop (mkF m pc Ls st)) := by
  subst hst has hW
  obtain ⟨hd, rfl⟩ := hd
  obtain ⟨cq, kq, qa, qb, qc⟩ := isOf hZ eT E
  obtain ⟨v, _, ⟨T', L', k', n'⟩, -, X', ⟨Lc, hQ, e1, e2, e3⟩, st⟩ := X.virtualBack hx (y := y) (z := y) hown (mvT hZ w1) (mvT hZ w2) (notFace_of_selects (args := #[]) (mvT hZ w5)) (mvT hZ w5) (mvT hZ w6) hy (backOf (W := (rest.map fun v => v.category).sum) hM hZ w4 w3 hf hl) qa qc (g := mkF m pc Ls (argsL.reverse ++ .ref b :: rest)) rfl (hkk.trans hml.symm) (Steps.refl _) (argsL := argsL) (rest := rest) (lenOf hpd hlen) rfl (by show 2 * 0 + _ ≤ _; omega) hd (fun _ _ => ⟨rfl, eT, hcl, hsl⟩)
  dsimp only [Pt.U, Pt.locs, Pt.cells, Pt.slots] at X' e1 e2 e3 st hQ
  subst e1 e2 e3
  exact (k v T' Lc X' hQ).step fun _ q => st.trans q
theorem w_callSP (X : Stand p l e R s m args below meth c T locs cells slots) (hx : p.tables.exec = Jvm.exec) (hZ : Z.Warmed39 s.vm) (eT : T.heap = h) {kk : Nat} (hml : c.maxLocals = kk) (hkk : Ls.size = kk) {own : String} (hown : s.vm.findClass own = some m.cls) {index : Nat} {y : MethodName} {bytes : ByteArray} {maxL : Nat} {ret : Option FieldType} {f lo : Nat} {as' : Array Value} {rv : Value}
    (w1 : (Jvm.Cond.methodLink own index y).before a0 Z = true) (w2 : (Jvm.Cond.static y).before a0 Z = true) (w3 : (Jvm.Cond.initialized y.cls).before a0 Z = true) (w4 : (Jvm.Cond.code y bytes maxL ret).before a0 Z = true) (hy : y.cls ≠ "java/lang/invoke/MethodHandle" ∧ y.cls ≠ "java/lang/invoke/VarHandle")
    (hM : Ct l Z y bytes maxL ret ({ frames := f, cells := 0, slots := 0, locals := lo } : Room) as' h (fun v h' L => v = some rv ∧ h' = h ∧ L = [])) (hd : Dc c.code pc (.invokestatic index) 3 pc') {ps : List FieldType} {r : Option FieldType} (hpd : parseMethodDescriptor y.desc = some ⟨ps, r⟩) {argsL st rest : List Value} (has : argsL.toArray = as') (hst : st = argsL.reverse ++ rest) (hlen : argsL.length = ps.length) {W : Nat} (hW : (rest.map fun v => v.category).sum = W)
    (hf : f + 1 ≤ R.frames) (hl : W + (maxL + 11) + lo ≤ R.locals) (hcl : cells ≤ R.cells) (hsl : slots ≤ R.slots)
    (k : ∀ T', Stand p l e R s m args below meth c T' locs cells slots → T'.heap = h → Go p e below s Q C S (T'.setTop (mkF m pc' Ls (rv :: rest)))) :
    Go p e below s Q C S (T.setTop (mkF m pc Ls st)) := by
  refine w_callS X hx hZ eT hml hkk hown w1 w2 w3 w4 hy hM hd hpd has hst hlen hW hf hl hcl hsl fun v T' L X' hQ => ?_
  obtain ⟨rfl, e', rfl⟩ := hQ
  rw [List.append_nil] at X'
  exact k T' X' e'
theorem w_callVP (X : Stand p l e R s m args below meth c T locs cells slots) (hx : p.tables.exec = Jvm.exec) (hZ : Z.Warmed39 s.vm) (eT : T.heap = h) {kk : Nat} (hml : c.maxLocals = kk) (hkk : Ls.size = kk) {own : String} (hown : s.vm.findClass own = some m.cls) {index : Nat} {y : MethodName} {bytes : ByteArray} {maxL : Nat} {ret : Option FieldType} {f lo : Nat} {as' : Array Value} {rv : Value}
    (w1 : (Jvm.Cond.methodLink own index y).before a0 Z = true) (w2 : (Jvm.Cond.declares y).before a0 Z = true) (w5 : (Jvm.Cond.selects y.cls y y).before a0 Z = true) (w6 : (Jvm.Cond.instanceMethod y).before a0 Z = true) (w3 : (Jvm.Cond.initialized y.cls).before a0 Z = true) (w4 : (Jvm.Cond.code y bytes maxL ret).before a0 Z = true) (hy : y.cls ≠ "java/lang/invoke/MethodHandle" ∧ y.cls ≠ "java/lang/invoke/VarHandle")
    (hM : Ct l Z y bytes maxL ret ({ frames := f, cells := 0, slots := 0, locals := lo } : Room) as' h (fun v h' L => v = some rv ∧ h' = h ∧ L = [])) {b : Addr} (E : Exa Z h b y.cls) (hd : Dc c.code pc (.invokevirtual index) 3 pc') {ps : List FieldType} {r : Option FieldType} (hpd : parseMethodDescriptor y.desc = some ⟨ps, r⟩) {argsL st rest : List Value} (has : (.ref b :: argsL).toArray = as') (hst : st = argsL.reverse ++ .ref b :: rest) (hlen : argsL.length = ps.length) {W : Nat} (hW : (rest.map fun v => v.category).sum = W)
    (hf : f + 1 ≤ R.frames) (hl : W + (maxL + 11) + lo ≤ R.locals) (hcl : cells ≤ R.cells) (hsl : slots ≤ R.slots)
    (k : ∀ T', Stand p l e R s m args below meth c T' locs cells slots → T'.heap = h → Go p e below s Q C S (T'.setTop (mkF m pc' Ls (rv :: rest)))) :
    Go p e below s Q C S (T.setTop (mkF m pc Ls st)) := by
  refine w_callV X hx hZ eT hml hkk hown w1 w2 w5 w6 w3 w4 hy hM E hd hpd has hst hlen hW hf hl hcl hsl fun v T' L X' hQ => ?_
  obtain ⟨rfl, e', rfl⟩ := hQ
  rw [List.append_nil] at X'
  exact k T' X' e'
theorem w_callI (X : Stand p l e R s m args below meth c T locs cells slots) (hx : p.tables.exec = Jvm.exec) (hZ : Z.Warmed39 s.vm) (eT : T.heap = h) {kk : Nat} (hml : c.maxLocals = kk) (hkk : Ls.size = kk) {own : String} (hown : s.vm.findClass own = some m.cls) {index : Nat} {y : MethodName} {bytes : ByteArray} {maxL : Nat} {rm : Room} {as' : Array Value} {Qc : Option Value → Heap → List Loc → Prop} (hy1 : y.name = "<init>")
    (w1 : (Jvm.Cond.methodLink own index y).before a0 Z = true) (w6 : (Jvm.Cond.instanceMethod y).before a0 Z = true) (w3 : (Jvm.Cond.initialized y.cls).before a0 Z = true) (w4 : (Jvm.Cond.code y bytes maxL none).before a0 Z = true) (hy : y.cls ≠ "java/lang/invoke/MethodHandle" ∧ y.cls ≠ "java/lang/invoke/VarHandle")
    (hM : Ct l Z y bytes maxL none rm as' h Qc) {b : Addr} (hd : Dc c.code pc (.invokespecial index) 3 pc') {ps : List FieldType} {r : Option FieldType} (hpd : parseMethodDescriptor y.desc = some ⟨ps, r⟩) {argsL st rest : List Value} (has : (.ref b :: argsL).toArray = as') (hst : st = argsL.reverse ++ .ref b :: rest) (hlen : argsL.length = ps.length) {W : Nat} (hW : (rest.map fun v => v.category).sum = W)
    (hf : rm.frames + 1 ≤ R.frames) (hl : W + (maxL + 11) + rm.locals ≤ R.locals) (hcl : cells + rm.cells ≤ R.cells) (hsl : slots + rm.slots ≤ R.slots)
    (k : ∀ (v : Option Value) (T' : State) (L : List Loc), Stand p l e R s m args below meth c T' (locs ++ L) (cells + rm.cells) (slots + rm.slots) → Qc v T'.heap L → Go p e below s Q C S (T'.setTop (mkF m pc' Ls (v.toList ++ rest)))) :
    Go p e below s Q C S (T.setTop (mkF m pc Ls st)) := by
  subst hst has hW
  obtain ⟨hd, rfl⟩ := hd
  obtain ⟨v, _, ⟨T', L', k', n'⟩, -, X', ⟨Lc, hQ, e1, e2, e3⟩, st⟩ := X.specialBack hx (y := y) hy1 hown (mvT hZ w1) (mvT hZ w6) (mvT hZ w4) hy (backOf (W := (rest.map fun v => v.category).sum) hM hZ w4 w3 hf hl) (g := mkF m pc Ls (argsL.reverse ++ .ref b :: rest)) rfl (hkk.trans hml.symm) (Steps.refl _) (a := b) (argsL := argsL) (rest := rest) (lenOf hpd hlen) rfl (by show 2 * 0 + _ ≤ _; omega) hd (fun _ _ => ⟨rfl, eT, hcl, hsl⟩)
  dsimp only [Pt.U, Pt.locs, Pt.cells, Pt.slots] at X' e1 e2 e3 st hQ
  subst e1 e2 e3
  exact (k v T' Lc X' hQ).step fun _ q => st.trans q
theorem w_objinit (X : Stand p l e R s m args below meth c T locs cells slots) (hx : p.tables.exec = Jvm.exec) (hZ : Z.Warmed39 s.vm) (eT : T.heap = h) {kk : Nat} (hml : c.maxLocals = kk) (hkk : Ls.size = kk) {own : String} (hown : s.vm.findClass own = some m.cls) {index : Nat}
    (w1 : (Jvm.Cond.methodLink own index Lib.objectInit).before a0 Z = true) (w2 : (Jvm.Cond.instanceMethod Lib.objectInit).before a0 Z = true) (w3 : (Jvm.Cond.code Lib.objectInit ⟨#[0xb1]⟩ 1 none).before a0 Z = true) (hd : Dc c.code pc (.invokespecial index) 3 pc') {a : Addr} (hf : 1 ≤ R.frames) {W : Nat} (hW : (rest.map fun v => v.category).sum = W) (hl : W + 12 ≤ R.locals)
    (k : ∀ T', Stand p l e R s m args below meth c T' locs cells slots → T'.heap = h → Go p e below s Q C S (T'.setTop (mkF m pc' Ls rest))) : Go p e below s Q C S (T.setTop (mkF m pc Ls (.ref a :: rest))) := by
  obtain ⟨hd, rfl⟩ := hd
  obtain ⟨T', X', e', st⟩ := initO X hx hZ hown w1 w2 w3 eT (g := mkF m pc Ls (.ref a :: rest)) rfl (hkk.trans hml.symm) rfl hd hf (W := W) (by show 2 * 0 + _ ≤ _; omega) hl
  exact (k T' X' e').step st
/-! fields -/
theorem w_getf (X : Stand p l e R s m args below meth c T locs cells slots) (hx : p.tables.exec = Jvm.exec) (hZ : Z.Warmed39 s.vm) (eT : T.heap = h) {own O n d : String} {index : Nat} (hown : s.vm.findClass own = some m.cls) (w : (Jvm.Cond.fieldLink own index O n d).before a0 Z = true) {a : Addr} {v : Value} (F : Fld Z h a O n d v) (hd : Dc c.code pc (.getfield index) 3 pc')
    (k : ∀ T', Stand p l e R s m args below meth c T' locs cells slots → T'.heap = h → Go p e below s Q C S (T'.setTop (mkF m pc' Ls (v :: rest)))) : Go p e below s Q C S (T.setTop (mkF m pc Ls (.ref a :: rest))) := by
  obtain ⟨hd, rfl⟩ := hd
  obtain ⟨T', X', e', st⟩ := getF X hx hZ hown (host := "") (Or.inl w) Via.refl eT F (g := mkF m pc Ls (.ref a :: rest)) rfl rfl hd
  exact (k T' X' e').step st
theorem w_putf (X : Stand p l e R s m args below meth c T locs cells slots) (hx : p.tables.exec = Jvm.exec) (hZ : Z.Warmed39 s.vm) (eT : T.heap = h) {own O n d : String} {index kk : Nat} {ty : FieldType} (hown : s.vm.findClass own = some m.cls) (w : (Jvm.Cond.fieldLink own index O n d).before a0 Z = true) {a : Addr} {v old : Value} (F : Fld Z h a O n d old) (E : Exa Z h a O) (L : (Jvm.Cond.lays O O n d).before a0 Z = true ∨ ((Jvm.Cond.laysFinal O O n d).before a0 Z = true ∧ own = O ∧ meth.name = "<init>")) (wi : (Jvm.Cond.instantiable O kk).before a0 Z = true)
    (hty : parseFieldDescriptor d = some ty) (hn : narrow ty v = v) (hf : fits ty v = true) (hd : Dc c.code pc (.putfield index) 3 pc')
    (k : ∀ T' h', Stand p l e R s m args below meth c T' (locs ++ [⟨a, Jvm.RoadKit.slotOf Z O n d⟩]) cells slots → T'.heap = h' → Wr h h' a (Jvm.RoadKit.slotOf Z O n d) v → Go p e below s Q C S (T'.setTop (mkF m pc' Ls rest))) : Go p e below s Q C S (T.setTop (mkF m pc Ls (v :: .ref a :: rest))) := by
  obtain ⟨hd, rfl⟩ := hd
  obtain ⟨T', h', X', e', W, st⟩ := putF X hx hZ hown (host := "") (Or.inl w) Via.refl eT F E L wi hty hn hf (g := mkF m pc Ls (v :: .ref a :: rest)) rfl rfl hd
  exact (k T' h' X' e' W).step st
theorem w_new (X : Stand p l e R s m args below meth c T locs cells slots) (hx : p.tables.exec = Jvm.exec) (hZ : Z.Warmed39 s.vm) (eT : T.heap = h) {own K : String} {index n : Nat} (hown : s.vm.findClass own = some m.cls) (w : (Jvm.Cond.classLink own index K).before a0 Z = true) (wi : (Jvm.Cond.instantiable K n).before a0 Z = true) (wz : (Jvm.Cond.initialized K).before a0 Z = true) (hd : Dc c.code pc (.new index) 3 pc') (hcl : cells + 1 ≤ R.cells) (hsl : slots + n ≤ R.slots)
    (k : ∀ T' h' b, b = h.size → Stand p l e R s m args below meth c T' locs (cells + 1) (slots + n) → T'.heap = h' → Ext h h' → Exa Z h' b K → (∀ {O nm d : String} {ty : FieldType}, Laid Z a0 K O nm d → parseFieldDescriptor d = some ty → Fld Z h' b O nm d (defaultValue ty)) → Go p e below s Q C S (T'.setTop (mkF m pc' Ls (.ref b :: rest)))) : Go p e below s Q C S (T.setTop (mkF m pc Ls rest)) := by
  obtain ⟨hd, rfl⟩ := hd
  obtain ⟨T', h', X', e', E, A, D, -, st⟩ := newO X hx hZ hown w wi wz eT (g := mkF m pc Ls rest) rfl hd hcl hsl
  exact (k T' h' _ rfl X' e' E A D).step st
/-! arrays: n places, place i holds f i -/
def AV (Z : State) (h : Heap) (a : Addr) (ty : FieldType) (n : Nat) (f : Nat → Value) : Prop := n < 2 ^ 31 ∧ ∃ cl : Cell, Arr Z h a cl ty ∧ cl.slots.size = n ∧ ∀ i, i < n → cl.slots[i]? = some (f i)
theorem AV.lt {a : Addr} {ty : FieldType} {n : Nat} {f : Nat → Value} (A : AV Z h a ty n f) : a < h.size := by obtain ⟨-, c, A, -⟩ := A; exact A.lt
theorem AV.ext {a : Addr} {ty : FieldType} {n : Nat} {f : Nat → Value} {h' : Heap} (A : AV Z h a ty n f) (E : Ext h h') : AV Z h' a ty n f := by obtain ⟨h1, c, A, r⟩ := A; exact ⟨h1, c, A.ext E, r⟩
theorem AV.other {a b : Addr} {ty : FieldType} {n sl : Nat} {v : Value} {f : Nat → Value} {h' : Heap} (A : AV Z h a ty n f) (W : Wr h h' b sl v) (q : a ≠ b) : AV Z h' a ty n f := by obtain ⟨h1, c, A, r⟩ := A; exact ⟨h1, c, A.other W q, r⟩
theorem AV.keep {a : Addr} {ty : FieldType} {n : Nat} {ws : List Addr} {f : Nat → Value} {h' : Heap} (A : AV Z h a ty n f) (K : Keep h h' ws) (q : a ∉ ws) : AV Z h' a ty n f := by obtain ⟨h1, c, A, r⟩ := A; exact ⟨h1, c, ⟨K.2.1 a c A.1 q, A.2⟩, r⟩
theorem AV.congr {a : Addr} {ty : FieldType} {n : Nat} {f g : Nat → Value} (A : AV Z h a ty n f) (q : ∀ i, i < n → f i = g i) : AV Z h a ty n g := by obtain ⟨h1, c, A, r1, r2⟩ := A; exact ⟨h1, c, A, r1, fun i hi => by rw [r2 i hi, q i hi]⟩
theorem av_idx {j : Int32} {i n : Nat} {cl : Cell} (hj : j.toInt = (i : Int)) (hi : i < n) (hc : cl.slots.size = n) : ¬ (j < 0 ∨ cl.slots.size ≤ j.toNatClampNeg) ∧ j.toNatClampNeg = i := by
  have e0 : (0 : Int32).toInt = 0 := rfl
  simp only [Int32.lt_iff_toInt_lt, Int32.toNatClampNeg, e0, hj, hc]; omega
def put (f : Nat → Value) (i : Nat) (v : Value) : Nat → Value := fun k => if k = i then v else f k
theorem put_at (f : Nat → Value) (i : Nat) (v : Value) : put f i v i = v := by simp [put]
theorem put_ne (f : Nat → Value) {i k : Nat} (v : Value) (q : k ≠ i) : put f i v k = f k := by simp [put, q]
theorem AV.same {a : Addr} {ty : FieldType} {n : Nat} {v : Value} {f : Nat → Value} {h' : Heap} {i : Nat} (A : AV Z h a ty n f) (hi : i < n) (W : Wr h h' a i v) : AV Z h' a ty n (put f i v) := by
  obtain ⟨h1, c, A, r1, r2⟩ := A
  refine ⟨h1, _, A.same W, by rw [sz_set]; exact r1, fun k hk => ?_⟩
  by_cases u : k = i
  · subst u; rw [put_at]; simp [Cell.setSlot, r1, hk]
  · rw [put_ne _ _ u]; simp only [Cell.setSlot]; rw [Array.getElem?_setIfInBounds_ne (Ne.symm u)]; exact r2 k hk
theorem w_newarr (X : Stand p l e R s m args below meth c T locs cells slots) (hx : p.tables.exec = Jvm.exec) (hZ : Z.Warmed39 s.vm) (eT : T.heap = h) {aty : ArrayType} (w : (Jvm.Cond.arrayClass (newarray.typeOf aty)).before a0 Z = true) (hd : Dc c.code pc (.newarray aty) 2 pc') {z : Int32} {n cap : Nat} (hz : z.toInt = (n : Int)) (hcap : n ≤ cap) (hb : cap * 8 ≤ 536870912) (hcl : cells + 1 ≤ R.cells) (hsl : slots + cap ≤ R.slots)
    (k : ∀ T' h' b, b = h.size → Stand p l e R s m args below meth c T' locs (cells + 1) (slots + cap) → T'.heap = h' → Ext h h' → AV Z h' b (newarray.typeOf aty) n (fun _ => defaultValue (newarray.typeOf aty)) → Go p e below s Q C S (T'.setTop (mkF m pc' Ls (.ref b :: rest)))) : Go p e below s Q C S (T.setTop (mkF m pc Ls (.int z :: rest))) := by
  obtain ⟨hd, rfl⟩ := hd
  have e0 : (0 : Int32).toInt = 0 := rfl
  have hn : ¬ z < 0 := by rw [Int32.lt_iff_toInt_lt]; omega
  have en : z.toNatClampNeg = n := by simp only [Int32.toNatClampNeg]; omega
  have hlt := Int32.toInt_lt z
  obtain ⟨T', h', cA, X', e', E, A, st⟩ := newP X hx hZ w eT (g := mkF m pc Ls (.int z :: rest)) rfl hd rfl hn (cap := cap) (by omega) hb hcl hsl
  refine (k T' h' _ rfl X' e' E ⟨by omega, _, A, by rw [sz_new]; exact en, fun i hi => ?_⟩).step st
  simp [newA, en, hi]
theorem w_arrlen (X : Stand p l e R s m args below meth c T locs cells slots) (hx : p.tables.exec = Jvm.exec) (hZ : Z.Warmed39 s.vm) (eT : T.heap = h) {a : Addr} {ty : FieldType} {n : Nat} {f : Nat → Value} (A : AV Z h a ty n f) {z : Int32} (hz : z.toInt = (n : Int)) (hd : Dc c.code pc .arraylength 1 pc') (k : Go p e below s Q C S (T.setTop (mkF m pc' Ls (.int z :: rest)))) : Go p e below s Q C S (T.setTop (mkF m pc Ls (.ref a :: rest))) := by
  obtain ⟨hd, rfl⟩ := hd
  obtain ⟨h1, c, A, r1, -⟩ := A
  have ez : z = c.slots.size.toInt32 := Int32.toInt_inj.mp (by rw [len_toInt (by omega), hz, r1])
  subst ez
  exact k.step fun t q => X.arraylength hx (by rw [eT]; exact A.1) (State.isArrayOf_alike hZ.alike A.2.1) (g := mkF m pc Ls (.ref a :: rest)) rfl rfl hd t q
def iF (g : Nat → Int32) : Nat → Value := fun k => .int (g k)
def lF (g : Nat → Int64) : Nat → Value := fun k => .long (g k)
def upd {α : Type} (g : Nat → α) (i : Nat) (v : α) : Nat → α := fun k => if k = i then v else g k
theorem upd_at {α : Type} (g : Nat → α) (i : Nat) (v : α) : upd g i v i = v := by simp [upd]
theorem upd_ne {α : Type} (g : Nat → α) {i k : Nat} (v : α) (q : k ≠ i) : upd g i v k = g k := by simp [upd, q]
theorem put_iF (g : Nat → Int32) (i : Nat) (v : Int32) : put (iF g) i (.int v) = iF (upd g i v) := by funext k; simp only [put, iF, upd]; split <;> rfl
theorem put_lF (g : Nat → Int64) (i : Nat) (v : Int64) : put (lF g) i (.long v) = lF (upd g i v) := by funext k; simp only [put, lF, upd]; split <;> rfl
theorem w_baload (X : Stand p l e R s m args below meth c T locs cells slots) (hx : p.tables.exec = Jvm.exec) (hZ : Z.Warmed39 s.vm) (eT : T.heap = h) {a : Addr} {n : Nat} {g : Nat → Int32} (A : AV Z h a .byte n (iF g)) {j : Int32} {i : Nat} (hj : j.toInt = (i : Int)) (hi : i < n) {z : Int32} (hv : g i = z) (hd : Dc c.code pc .baload 1 pc') (k : Go p e below s Q C S (T.setTop (mkF m pc' Ls (.int z :: rest)))) : Go p e below s Q C S (T.setTop (mkF m pc Ls (.int j :: .ref a :: rest))) := by
  obtain ⟨hd, rfl⟩ := hd
  subst hv
  obtain ⟨h1, cl, A, r1, r2⟩ := A
  obtain ⟨q1, q2⟩ := av_idx hj hi r1
  exact k.step fun t q => X.baloadBytes hx (by rw [eT]; exact A.1) (State.isArrayOf_alike hZ.alike A.2.1) A.2.2 q1 (by rw [q2, r2 i hi]; rfl) (g := mkF m pc Ls (.int j :: .ref a :: rest)) rfl rfl hd t q
theorem w_iaload (X : Stand p l e R s m args below meth c T locs cells slots) (hx : p.tables.exec = Jvm.exec) (hZ : Z.Warmed39 s.vm) (eT : T.heap = h) {a : Addr} {n : Nat} {g : Nat → Int32} (A : AV Z h a .int n (iF g)) {j : Int32} {i : Nat} (hj : j.toInt = (i : Int)) (hi : i < n) {z : Int32} (hv : g i = z) (hd : Dc c.code pc .iaload 1 pc') (k : Go p e below s Q C S (T.setTop (mkF m pc' Ls (.int z :: rest)))) : Go p e below s Q C S (T.setTop (mkF m pc Ls (.int j :: .ref a :: rest))) := by
  obtain ⟨hd, rfl⟩ := hd
  subst hv
  obtain ⟨h1, cl, A, r1, r2⟩ := A
  obtain ⟨q1, q2⟩ := av_idx hj hi r1
  exact k.step fun t q => X.iaload hx (by rw [eT]; exact A.1) (State.isArrayOf_alike hZ.alike A.2.1) A.2.2 q1 (by rw [q2, r2 i hi]; rfl) (g := mkF m pc Ls (.int j :: .ref a :: rest)) rfl rfl hd t q
theorem w_laload (X : Stand p l e R s m args below meth c T locs cells slots) (hx : p.tables.exec = Jvm.exec) (hZ : Z.Warmed39 s.vm) (eT : T.heap = h) {a : Addr} {n : Nat} {g : Nat → Int64} (A : AV Z h a .long n (lF g)) {j : Int32} {i : Nat} (hj : j.toInt = (i : Int)) (hi : i < n) {z : Int64} (hv : g i = z) (hd : Dc c.code pc .laload 1 pc') (k : Go p e below s Q C S (T.setTop (mkF m pc' Ls (.long z :: rest)))) : Go p e below s Q C S (T.setTop (mkF m pc Ls (.int j :: .ref a :: rest))) := by
  obtain ⟨hd, rfl⟩ := hd
  subst hv
  obtain ⟨h1, cl, A, r1, r2⟩ := A
  obtain ⟨q1, q2⟩ := av_idx hj hi r1
  exact k.step fun t q => X.laload hx (by rw [eT]; exact A.1) (State.isArrayOf_alike hZ.alike A.2.1) A.2.2 q1 (by rw [q2, r2 i hi]; rfl) (g := mkF m pc Ls (.int j :: .ref a :: rest)) rfl rfl hd t q
theorem w_zaload (X : Stand p l e R s m args below meth c T locs cells slots) (hx : p.tables.exec = Jvm.exec) (hZ : Z.Warmed39 s.vm) (eT : T.heap = h) {a : Addr} {n : Nat} {g : Nat → Int32} (A : AV Z h a .boolean n (iF g)) {j : Int32} {i : Nat} (hj : j.toInt = (i : Int)) (hi : i < n) {z : Int32} (hv : g i = z) (hd : Dc c.code pc .baload 1 pc') (k : Go p e below s Q C S (T.setTop (mkF m pc' Ls (.int z :: rest)))) : Go p e below s Q C S (T.setTop (mkF m pc Ls (.int j :: .ref a :: rest))) := by
  obtain ⟨hd, rfl⟩ := hd
  subst hv
  obtain ⟨h1, cl, A, r1, r2⟩ := A
  obtain ⟨q1, q2⟩ := av_idx hj hi r1
  exact k.step fun t q => X.baloadBooleans hx (by rw [eT]; exact A.1) (State.isArrayOf_alike hZ.alike A.2.1) A.2.2 q1 (by rw [q2, r2 i hi]; rfl) (g := mkF m pc Ls (.int j :: .ref a :: rest)) rfl rfl hd t q
theorem w_bastore (X : Stand p l e R s m args below meth c T locs cells slots) (hx : p.tables.exec = Jvm.exec) (hZ : Z.Warmed39 s.vm) (eT : T.heap = h) {a : Addr} {n : Nat} {g : Nat → Int32} (A : AV Z h a .byte n (iF g)) {j : Int32} {x : Int32} {i : Nat} (hj : j.toInt = (i : Int)) (hi : i < n) (hd : Dc c.code pc .bastore 1 pc')
    (k : ∀ T' h', Stand p l e R s m args below meth c T' (locs ++ [⟨a, i⟩]) cells slots → T'.heap = h' → Wr h h' a i (.int (x.toInt8.toInt32)) → AV Z h' a .byte n (iF (upd g i (x.toInt8.toInt32))) → Go p e below s Q C S (T'.setTop (mkF m pc' Ls rest))) : Go p e below s Q C S (T.setTop (mkF m pc Ls (.int x :: .int j :: .ref a :: rest))) := by
  obtain ⟨hd, rfl⟩ := hd
  have A' := A
  obtain ⟨h1, cl, A, r1, r2⟩ := A
  obtain ⟨q1, q2⟩ := av_idx hj hi r1
  obtain ⟨T', h', X', e', W, st⟩ := stB X hx hZ eT A (j := j) q1 (g := mkF m pc Ls (.int x :: .int j :: .ref a :: rest)) rfl rfl hd
  rw [q2] at X' W
  exact (k T' h' X' e' W (put_iF g i _ ▸ A'.same hi W)).step st
theorem w_zastore (X : Stand p l e R s m args below meth c T locs cells slots) (hx : p.tables.exec = Jvm.exec) (hZ : Z.Warmed39 s.vm) (eT : T.heap = h) {a : Addr} {n : Nat} {g : Nat → Int32} (A : AV Z h a .boolean n (iF g)) {j : Int32} {x : Int32} {i : Nat} (hj : j.toInt = (i : Int)) (hi : i < n) (hd : Dc c.code pc .bastore 1 pc')
    (k : ∀ T' h', Stand p l e R s m args below meth c T' (locs ++ [⟨a, i⟩]) cells slots → T'.heap = h' → Wr h h' a i (.int (x &&& 1)) → AV Z h' a .boolean n (iF (upd g i (x &&& 1))) → Go p e below s Q C S (T'.setTop (mkF m pc' Ls rest))) : Go p e below s Q C S (T.setTop (mkF m pc Ls (.int x :: .int j :: .ref a :: rest))) := by
  obtain ⟨hd, rfl⟩ := hd
  have A' := A
  obtain ⟨h1, cl, A, r1, r2⟩ := A
  obtain ⟨q1, q2⟩ := av_idx hj hi r1
  obtain ⟨T', h', X', e', W, st⟩ := stZ X hx hZ eT A (j := j) q1 (g := mkF m pc Ls (.int x :: .int j :: .ref a :: rest)) rfl rfl hd
  rw [q2] at X' W
  exact (k T' h' X' e' W (put_iF g i _ ▸ A'.same hi W)).step st
theorem w_iastore (X : Stand p l e R s m args below meth c T locs cells slots) (hx : p.tables.exec = Jvm.exec) (hZ : Z.Warmed39 s.vm) (eT : T.heap = h) {a : Addr} {n : Nat} {g : Nat → Int32} (A : AV Z h a .int n (iF g)) {j : Int32} {x : Int32} {i : Nat} (hj : j.toInt = (i : Int)) (hi : i < n) (hd : Dc c.code pc .iastore 1 pc')
    (k : ∀ T' h', Stand p l e R s m args below meth c T' (locs ++ [⟨a, i⟩]) cells slots → T'.heap = h' → Wr h h' a i (.int (x)) → AV Z h' a .int n (iF (upd g i (x))) → Go p e below s Q C S (T'.setTop (mkF m pc' Ls rest))) : Go p e below s Q C S (T.setTop (mkF m pc Ls (.int x :: .int j :: .ref a :: rest))) := by
  obtain ⟨hd, rfl⟩ := hd
  have A' := A
  obtain ⟨h1, cl, A, r1, r2⟩ := A
  obtain ⟨q1, q2⟩ := av_idx hj hi r1
  obtain ⟨T', h', X', e', W, st⟩ := stI X hx hZ eT A (j := j) q1 (g := mkF m pc Ls (.int x :: .int j :: .ref a :: rest)) rfl rfl hd
  rw [q2] at X' W
  exact (k T' h' X' e' W (put_iF g i _ ▸ A'.same hi W)).step st
theorem w_lastore (X : Stand p l e R s m args below meth c T locs cells slots) (hx : p.tables.exec = Jvm.exec) (hZ : Z.Warmed39 s.vm) (eT : T.heap = h) {a : Addr} {n : Nat} {g : Nat → Int64} (A : AV Z h a .long n (lF g)) {j : Int32} {x : Int64} {i : Nat} (hj : j.toInt = (i : Int)) (hi : i < n) (hd : Dc c.code pc .lastore 1 pc')
    (k : ∀ T' h', Stand p l e R s m args below meth c T' (locs ++ [⟨a, i⟩]) cells slots → T'.heap = h' → Wr h h' a i (.long (x)) → AV Z h' a .long n (lF (upd g i (x))) → Go p e below s Q C S (T'.setTop (mkF m pc' Ls rest))) : Go p e below s Q C S (T.setTop (mkF m pc Ls (.long x :: .int j :: .ref a :: rest))) := by
  obtain ⟨hd, rfl⟩ := hd
  have A' := A
  obtain ⟨h1, cl, A, r1, r2⟩ := A
  obtain ⟨q1, q2⟩ := av_idx hj hi r1
  obtain ⟨T', h', X', e', W, st⟩ := stJ X hx hZ eT A (j := j) q1 (g := mkF m pc Ls (.long x :: .int j :: .ref a :: rest)) rfl rfl hd
  rw [q2] at X' W
  exact (k T' h' X' e' W (put_lF g i _ ▸ A'.same hi W)).step st
end Kit
section Num
/-! numbers: an int's or a long's unsigned worth -/
def u32 (x : Int32) : Nat := x.toBitVec.toNat
def u64 (x : Int64) : Nat := x.toBitVec.toNat
theorem u32_lt (x : Int32) : u32 x < 4294967296 := x.toBitVec.isLt
theorem u64_lt (x : Int64) : u64 x < 18446744073709551616 := x.toBitVec.isLt
theorem i_u32 (x : Int32) : x.toInt = if u32 x < 2147483648 then (u32 x : Int) else (u32 x : Int) - 4294967296 := by
  show x.toBitVec.toInt = _
  rw [BitVec.toInt_eq_toNat_cond]; unfold u32; split <;> split <;> omega
theorem i_u64 (x : Int64) : x.toInt = if u64 x < 9223372036854775808 then (u64 x : Int) else (u64 x : Int) - 18446744073709551616 := by
  show x.toBitVec.toInt = _
  rw [BitVec.toInt_eq_toNat_cond]; unfold u64; split <;> split <;> omega
theorem u32_i (x : Int32) : (u32 x : Int) = x.toInt % 4294967296 := by have := u32_lt x; rw [i_u32]; split <;> omega
theorem u64_i (x : Int64) : (u64 x : Int) = x.toInt % 18446744073709551616 := by have := u64_lt x; rw [i_u64]; split <;> omega
theorem u32_inj {x y : Int32} (q : u32 x = u32 y) : x = y := Int32.toBitVec_inj.mp (BitVec.eq_of_toNat_eq q)
theorem u64_inj {x y : Int64} (q : u64 x = u64 y) : x = y := Int64.toBitVec_inj.mp (BitVec.eq_of_toNat_eq q)
theorem i32_inj {x y : Int32} (q : x.toInt = y.toInt) : x = y := Int32.toInt_inj.mp q
theorem i64_inj {x y : Int64} (q : x.toInt = y.toInt) : x = y := Int64.toInt_inj.mp q
theorem i32_ne {x y : Int32} (q : x ≠ y) : x.toInt ≠ y.toInt := fun e => q (Int32.toInt_inj.mp e)
theorem i64_ne {x y : Int64} (q : x ≠ y) : x.toInt ≠ y.toInt := fun e => q (Int64.toInt_inj.mp e)
theorem i_rng32 (x : Int32) : -2147483648 ≤ x.toInt ∧ x.toInt ≤ 2147483647 := by have := u32_lt x; rw [i_u32]; split <;> omega
theorem i_rng64 (x : Int64) : -9223372036854775808 ≤ x.toInt ∧ x.toInt ≤ 9223372036854775807 := by have := u64_lt x; rw [i_u64]; split <;> omega
theorem u32_and (x m : Int32) {k : Nat} (hm : u32 m = 2 ^ k - 1) : u32 (x &&& m) = u32 x % 2 ^ k := by
  unfold u32 at *; rw [Int32.toBitVec_and, BitVec.toNat_and, hm, Nat.and_two_pow_sub_one_eq_mod]
theorem u64_and (x m : Int64) {k : Nat} (hm : u64 m = 2 ^ k - 1) : u64 (x &&& m) = u64 x % 2 ^ k := by
  unfold u64 at *; rw [Int64.toBitVec_and, BitVec.toNat_and, hm, Nat.and_two_pow_sub_one_eq_mod]
theorem and_or64 (x y z : Int64) : x &&& (y ||| z) = (x &&& y) ||| (x &&& z) := by
  apply Int64.toBitVec_inj.mp
  simp only [Int64.toBitVec_and, Int64.toBitVec_or]
  exact BitVec.and_or_distrib_left
theorem or_add {a b : Nat} (k : Nat) (ha : a % 2 ^ k = 0) (hb : b < 2 ^ k) : a ||| b = a + b := by
  obtain ⟨q, rfl⟩ := Nat.dvd_of_mod_eq_zero ha
  exact (Nat.two_pow_add_eq_or_of_lt hb q).symm
theorem u32_or {x y : Int32} (k : Nat) (ha : u32 x % 2 ^ k = 0) (hb : u32 y < 2 ^ k) : u32 (x ||| y) = u32 x + u32 y := by
  unfold u32 at *; rw [Int32.toBitVec_or, BitVec.toNat_or, or_add k ha hb]
theorem u64_or {x y : Int64} (k : Nat) (ha : u64 x % 2 ^ k = 0) (hb : u64 y < 2 ^ k) : u64 (x ||| y) = u64 x + u64 y := by
  unfold u64 at *; rw [Int64.toBitVec_or, BitVec.toNat_or, or_add k ha hb]
theorem u32_add (x y : Int32) : u32 (x + y) = (u32 x + u32 y) % 4294967296 := by unfold u32; rw [Int32.toBitVec_add, BitVec.toNat_add]
theorem u64_add (x y : Int64) : u64 (x + y) = (u64 x + u64 y) % 18446744073709551616 := by unfold u64; rw [Int64.toBitVec_add, BitVec.toNat_add]
theorem i_ofNat {k : Nat} (hk : k < 2147483648) : (Int32.ofNat k).toInt = (k : Int) := Int32.toInt_ofNat_of_lt (by omega)
theorem of_i {y : Int32} {k : Nat} (q : y.toInt = (k : Int)) : y = Int32.ofNat k := by
  have := i_rng32 y
  exact Int32.toInt_inj.mp (by rw [i_ofNat (by omega)]; exact q)
theorem sh64a : ∀ k : Fin 64, (((Int32.ofNat k.val &&& 0x3f).toInt64).toBitVec.smod 64).toNat = k.val := by decide +kernel
theorem sh64b : ∀ k : Fin 64, ((Int32.ofNat k.val &&& 0x3f).toInt64.toUInt64.toBitVec % 64).toNat = k.val := by decide +kernel
theorem sh32a : ∀ k : Fin 32, ((Int32.ofNat k.val &&& 31).toBitVec.smod 32).toNat = k.val := by decide +kernel
theorem sh32b : ∀ k : Fin 32, ((Int32.ofNat k.val &&& 31).toUInt32.toBitVec % 32).toNat = k.val := by decide +kernel
theorem u_lshl (x : Int64) {y : Int32} {k : Nat} (q : y.toInt = (k : Int)) (hk : k < 64) : u64 (LShl x y) = u64 x * 2 ^ k % 18446744073709551616 := by
  have e := sh64a ⟨k, hk⟩
  rw [of_i q]; unfold u64 LShl
  rw [Int64.toBitVec_shiftLeft, BitVec.shiftLeft_eq', e, BitVec.toNat_shiftLeft, Nat.shiftLeft_eq]
theorem i_lshr (x : Int64) {y : Int32} {k : Nat} (q : y.toInt = (k : Int)) (hk : k < 64) : (LShr x y).toInt = x.toInt / 2 ^ k := by
  have e := sh64a ⟨k, hk⟩
  rw [of_i q]; unfold LShr
  exact Jvm.Kit.i64_shr x _ e
theorem u_lushr (x : Int64) {y : Int32} {k : Nat} (q : y.toInt = (k : Int)) (hk : k < 64) : u64 (LUshr x y) = u64 x / 2 ^ k := by
  have e := sh64b ⟨k, hk⟩
  rw [of_i q]; unfold u64 LUshr
  show (x.toUInt64 >>> (Int32.ofNat k &&& 0x3f).toInt64.toUInt64).toBitVec.toNat = _
  rw [UInt64.toBitVec_shiftRight, BitVec.ushiftRight_eq', e, BitVec.toNat_ushiftRight, Nat.shiftRight_eq_div_pow]; rfl
theorem u_ishl (x : Int32) {y : Int32} {k : Nat} (q : y.toInt = (k : Int)) (hk : k < 32) : u32 (IShl x y) = u32 x * 2 ^ k % 4294967296 := by
  have e := sh32a ⟨k, hk⟩
  rw [of_i q]; unfold u32 IShl
  rw [Int32.toBitVec_shiftLeft, BitVec.shiftLeft_eq', e, BitVec.toNat_shiftLeft, Nat.shiftLeft_eq]
theorem i_ishr (x : Int32) {y : Int32} {k : Nat} (q : y.toInt = (k : Int)) (hk : k < 32) : (IShr x y).toInt = x.toInt / 2 ^ k := by
  have e := sh32a ⟨k, hk⟩
  rw [of_i q]; unfold IShr
  exact Jvm.Kit.i32_shr x _ e
theorem u_iushr (x : Int32) {y : Int32} {k : Nat} (q : y.toInt = (k : Int)) (hk : k < 32) : u32 (IUshr x y) = u32 x / 2 ^ k := by
  have e := sh32b ⟨k, hk⟩
  rw [of_i q]; unfold u32 IUshr
  show (x.toUInt32 >>> (Int32.ofNat k &&& 31).toUInt32).toBitVec.toNat = _
  rw [UInt32.toBitVec_shiftRight, BitVec.ushiftRight_eq', e, BitVec.toNat_ushiftRight, Nat.shiftRight_eq_div_pow]; rfl
theorem i_i2l (x : Int32) : x.toInt64.toInt = x.toInt := Int32.toInt_toInt64 x
theorem u_l2i (x : Int64) : u32 x.toInt32 = u64 x % 4294967296 := by
  have h1 := u32_i x.toInt32; have h2 := u64_i x
  have e : x.toInt.bmod (2 ^ 32) % 4294967296 = x.toInt % 4294967296 := Int.bmod_emod
  rw [Int64.toInt_toInt32, e] at h1
  omega
theorem i_i2b (x : Int32) : x.toInt8.toInt32.toInt = if x.toInt % 256 < 128 then x.toInt % 256 else x.toInt % 256 - 256 := by
  rw [Int8.toInt_toInt32, Int32.toInt_toInt8, Int.bmod_def]; split <;> split <;> omega
theorem u_i2b (x : Int32) : u32 x.toInt8.toInt32 % 256 = u32 x % 256 := by
  have h1 := u32_i x.toInt8.toInt32; have h2 := u32_i x; rw [i_i2b] at h1; split at h1 <;> omega
end Num
theorem d0_0 : Dc code 0 (.iload_n 1) 1 1 := ⟨at_0, rfl⟩
theorem d0_1 : Dc code 1 (.ldc 7) 2 3 := ⟨at_1, rfl⟩
theorem d0_3 : Dc code 3 (.iand) 1 4 := ⟨at_3, rfl⟩
theorem d0_4 : Dc code 4 (.iconst 5) 1 5 := ⟨at_4, rfl⟩
theorem d0_5 : Dc code 5 (.irem) 1 6 := ⟨at_5, rfl⟩
theorem d0_6 : Dc code 6 (.istore 4) 2 8 := ⟨at_6, rfl⟩
theorem d0_8 : Dc code 8 (.bipush 8) 2 10 := ⟨at_8, rfl⟩
theorem d0_10 : Dc code 10 (.newarray .byte) 2 12 := ⟨at_10, rfl⟩
theorem d0_12 : Dc code 12 (.astore 5) 2 14 := ⟨at_12, rfl⟩
theorem d0_14 : Dc code 14 (.aload 5) 2 16 := ⟨at_14, rfl⟩
theorem d0_16 : Dc code 16 (.iconst 0) 1 17 := ⟨at_16, rfl⟩
theorem d0_17 : Dc code 17 (.lload_n 2) 1 18 := ⟨at_17, rfl⟩
theorem d0_18 : Dc code 18 (.l2i) 1 19 := ⟨at_18, rfl⟩
theorem d0_19 : Dc code 19 (.i2b) 1 20 := ⟨at_19, rfl⟩
theorem d0_20 : Dc code 20 (.bastore) 1 21 := ⟨at_20, rfl⟩
theorem d0_21 : Dc code 21 (.aload 5) 2 23 := ⟨at_21, rfl⟩
theorem d0_23 : Dc code 23 (.iconst 1) 1 24 := ⟨at_23, rfl⟩
theorem d0_24 : Dc code 24 (.lload_n 2) 1 25 := ⟨at_24, rfl⟩
theorem d0_25 : Dc code 25 (.bipush 8) 2 27 := ⟨at_25, rfl⟩
theorem d0_27 : Dc code 27 (.lushr) 1 28 := ⟨at_27, rfl⟩
theorem d0_28 : Dc code 28 (.l2i) 1 29 := ⟨at_28, rfl⟩
theorem d0_29 : Dc code 29 (.i2b) 1 30 := ⟨at_29, rfl⟩
theorem d0_30 : Dc code 30 (.bastore) 1 31 := ⟨at_30, rfl⟩
theorem d0_31 : Dc code 31 (.aload 5) 2 33 := ⟨at_31, rfl⟩
theorem d0_33 : Dc code 33 (.iconst 2) 1 34 := ⟨at_33, rfl⟩
theorem d0_34 : Dc code 34 (.lload_n 2) 1 35 := ⟨at_34, rfl⟩
theorem d0_35 : Dc code 35 (.bipush 16) 2 37 := ⟨at_35, rfl⟩
theorem d0_37 : Dc code 37 (.lushr) 1 38 := ⟨at_37, rfl⟩
theorem d0_38 : Dc code 38 (.l2i) 1 39 := ⟨at_38, rfl⟩
theorem d0_39 : Dc code 39 (.i2b) 1 40 := ⟨at_39, rfl⟩
theorem d0_40 : Dc code 40 (.bastore) 1 41 := ⟨at_40, rfl⟩
theorem d0_41 : Dc code 41 (.aload 5) 2 43 := ⟨at_41, rfl⟩
theorem d0_43 : Dc code 43 (.iconst 3) 1 44 := ⟨at_43, rfl⟩
theorem d0_44 : Dc code 44 (.lload_n 2) 1 45 := ⟨at_44, rfl⟩
theorem d0_45 : Dc code 45 (.bipush 24) 2 47 := ⟨at_45, rfl⟩
theorem d0_47 : Dc code 47 (.lushr) 1 48 := ⟨at_47, rfl⟩
theorem d0_48 : Dc code 48 (.l2i) 1 49 := ⟨at_48, rfl⟩
theorem d0_49 : Dc code 49 (.i2b) 1 50 := ⟨at_49, rfl⟩
theorem d0_50 : Dc code 50 (.bastore) 1 51 := ⟨at_50, rfl⟩
theorem d0_51 : Dc code 51 (.aload 5) 2 53 := ⟨at_51, rfl⟩
theorem d0_53 : Dc code 53 (.iconst 4) 1 54 := ⟨at_53, rfl⟩
theorem d0_54 : Dc code 54 (.lload_n 2) 1 55 := ⟨at_54, rfl⟩
theorem d0_55 : Dc code 55 (.bipush 32) 2 57 := ⟨at_55, rfl⟩
theorem d0_57 : Dc code 57 (.lushr) 1 58 := ⟨at_57, rfl⟩
theorem d0_58 : Dc code 58 (.l2i) 1 59 := ⟨at_58, rfl⟩
theorem d0_59 : Dc code 59 (.i2b) 1 60 := ⟨at_59, rfl⟩
theorem d0_60 : Dc code 60 (.bastore) 1 61 := ⟨at_60, rfl⟩
theorem d0_61 : Dc code 61 (.aload 5) 2 63 := ⟨at_61, rfl⟩
theorem d0_63 : Dc code 63 (.iconst 5) 1 64 := ⟨at_63, rfl⟩
theorem d0_64 : Dc code 64 (.lload_n 2) 1 65 := ⟨at_64, rfl⟩
theorem d0_65 : Dc code 65 (.bipush 40) 2 67 := ⟨at_65, rfl⟩
theorem d0_67 : Dc code 67 (.lushr) 1 68 := ⟨at_67, rfl⟩
theorem d0_68 : Dc code 68 (.l2i) 1 69 := ⟨at_68, rfl⟩
theorem d0_69 : Dc code 69 (.i2b) 1 70 := ⟨at_69, rfl⟩
theorem d0_70 : Dc code 70 (.bastore) 1 71 := ⟨at_70, rfl⟩
theorem d0_71 : Dc code 71 (.aload 5) 2 73 := ⟨at_71, rfl⟩
theorem d0_73 : Dc code 73 (.bipush 6) 2 75 := ⟨at_73, rfl⟩
theorem d0_75 : Dc code 75 (.lload_n 2) 1 76 := ⟨at_75, rfl⟩
theorem d0_76 : Dc code 76 (.bipush 48) 2 78 := ⟨at_76, rfl⟩
theorem d0_78 : Dc code 78 (.lushr) 1 79 := ⟨at_78, rfl⟩
theorem d0_79 : Dc code 79 (.l2i) 1 80 := ⟨at_79, rfl⟩
theorem d0_80 : Dc code 80 (.i2b) 1 81 := ⟨at_80, rfl⟩
theorem d0_81 : Dc code 81 (.bastore) 1 82 := ⟨at_81, rfl⟩
theorem d0_82 : Dc code 82 (.aload 5) 2 84 := ⟨at_82, rfl⟩
theorem d0_84 : Dc code 84 (.bipush 7) 2 86 := ⟨at_84, rfl⟩
theorem d0_86 : Dc code 86 (.lload_n 2) 1 87 := ⟨at_86, rfl⟩
theorem d0_87 : Dc code 87 (.bipush 56) 2 89 := ⟨at_87, rfl⟩
theorem d0_89 : Dc code 89 (.lushr) 1 90 := ⟨at_89, rfl⟩
theorem d0_90 : Dc code 90 (.l2i) 1 91 := ⟨at_90, rfl⟩
theorem d0_91 : Dc code 91 (.i2b) 1 92 := ⟨at_91, rfl⟩
theorem d0_92 : Dc code 92 (.bastore) 1 93 := ⟨at_92, rfl⟩
theorem d0_93 : Dc code 93 (.aload 5) 2 95 := ⟨at_93, rfl⟩
theorem d0_95 : Dc code 95 (.iload 4) 2 97 := ⟨at_95, rfl⟩
theorem d0_97 : Dc code 97 (.iload_n 0) 1 98 := ⟨at_97, rfl⟩
theorem d0_98 : Dc code 98 (.invokestatic 8) 3 101 := ⟨at_98, rfl⟩
theorem d0_101 : Dc code 101 (.istore 6) 2 103 := ⟨at_101, rfl⟩
theorem d0_103 : Dc code 103 (.iload 6) 2 105 := ⟨at_103, rfl⟩
theorem d0_105 : Dc code 105 (.iload 4) 2 107 := ⟨at_105, rfl⟩
theorem d0_107 : Dc code 107 (.iconst 4) 1 108 := ⟨at_107, rfl⟩
theorem d0_108 : Dc code 108 (.iadd) 1 109 := ⟨at_108, rfl⟩
theorem d0_109 : Dj code 109 (.if_icmp .eq 5) 5 114 112 := ⟨at_109, by decide, by decide, rfl⟩
theorem d0_114 : Dc code 114 (.aload 5) 2 116 := ⟨at_114, rfl⟩
theorem d0_116 : Dc code 116 (.iload 4) 2 118 := ⟨at_116, rfl⟩
theorem d0_118 : Dc code 118 (.baload) 1 119 := ⟨at_118, rfl⟩
theorem d0_119 : Dc code 119 (.sipush 255) 3 122 := ⟨at_119, rfl⟩
theorem d0_122 : Dc code 122 (.iand) 1 123 := ⟨at_122, rfl⟩
theorem d0_123 : Dc code 123 (.bipush 24) 2 125 := ⟨at_123, rfl⟩
theorem d0_125 : Dc code 125 (.ishl) 1 126 := ⟨at_125, rfl⟩
theorem d0_126 : Dc code 126 (.aload 5) 2 128 := ⟨at_126, rfl⟩
theorem d0_128 : Dc code 128 (.iload 4) 2 130 := ⟨at_128, rfl⟩
theorem d0_130 : Dc code 130 (.iconst 1) 1 131 := ⟨at_130, rfl⟩
theorem d0_131 : Dc code 131 (.iadd) 1 132 := ⟨at_131, rfl⟩
theorem d0_132 : Dc code 132 (.baload) 1 133 := ⟨at_132, rfl⟩
theorem d0_133 : Dc code 133 (.sipush 255) 3 136 := ⟨at_133, rfl⟩
theorem d0_136 : Dc code 136 (.iand) 1 137 := ⟨at_136, rfl⟩
theorem d0_137 : Dc code 137 (.bipush 16) 2 139 := ⟨at_137, rfl⟩
theorem d0_139 : Dc code 139 (.ishl) 1 140 := ⟨at_139, rfl⟩
theorem d0_140 : Dc code 140 (.ior) 1 141 := ⟨at_140, rfl⟩
theorem d0_141 : Dc code 141 (.aload 5) 2 143 := ⟨at_141, rfl⟩
theorem d0_143 : Dc code 143 (.iload 4) 2 145 := ⟨at_143, rfl⟩
theorem d0_145 : Dc code 145 (.iconst 2) 1 146 := ⟨at_145, rfl⟩
theorem d0_146 : Dc code 146 (.iadd) 1 147 := ⟨at_146, rfl⟩
theorem d0_147 : Dc code 147 (.baload) 1 148 := ⟨at_147, rfl⟩
theorem d0_148 : Dc code 148 (.sipush 255) 3 151 := ⟨at_148, rfl⟩
theorem d0_151 : Dc code 151 (.iand) 1 152 := ⟨at_151, rfl⟩
theorem d0_152 : Dc code 152 (.bipush 8) 2 154 := ⟨at_152, rfl⟩
theorem d0_154 : Dc code 154 (.ishl) 1 155 := ⟨at_154, rfl⟩
theorem d0_155 : Dc code 155 (.ior) 1 156 := ⟨at_155, rfl⟩
theorem d0_156 : Dc code 156 (.aload 5) 2 158 := ⟨at_156, rfl⟩
theorem d0_158 : Dc code 158 (.iload 4) 2 160 := ⟨at_158, rfl⟩
theorem d0_160 : Dc code 160 (.iconst 3) 1 161 := ⟨at_160, rfl⟩
theorem d0_161 : Dc code 161 (.iadd) 1 162 := ⟨at_161, rfl⟩
theorem d0_162 : Dc code 162 (.baload) 1 163 := ⟨at_162, rfl⟩
theorem d0_163 : Dc code 163 (.sipush 255) 3 166 := ⟨at_163, rfl⟩
theorem d0_166 : Dc code 166 (.iand) 1 167 := ⟨at_166, rfl⟩
theorem d0_167 : Dc code 167 (.ior) 1 168 := ⟨at_167, rfl⟩
theorem d0_168 : Dc code 168 (.istore 7) 2 170 := ⟨at_168, rfl⟩
theorem d0_170 : Dc code 170 (.iload 7) 2 172 := ⟨at_170, rfl⟩
theorem d0_172 : Dc code 172 (.iload_n 0) 1 173 := ⟨at_172, rfl⟩
theorem d0_173 : Dj code 173 (.if_icmp .eq 5) 5 178 176 := ⟨at_173, by decide, by decide, rfl⟩
theorem d0_178 : Dc code 178 (.aload 5) 2 180 := ⟨at_178, rfl⟩
theorem d0_180 : Dc code 180 (.iconst 0) 1 181 := ⟨at_180, rfl⟩
theorem d0_181 : Dc code 181 (.iload 4) 2 183 := ⟨at_181, rfl⟩
theorem d0_183 : Dc code 183 (.lload_n 2) 1 184 := ⟨at_183, rfl⟩
theorem d0_184 : Dc code 184 (.invokestatic 14) 3 187 := ⟨at_184, rfl⟩
theorem d0_187 : Dj code 187 (.ifCond .eq 93) 93 280 190 := ⟨at_187, by decide, by decide, rfl⟩
theorem d0_190 : Dc code 190 (.aload 5) 2 192 := ⟨at_190, rfl⟩
theorem d0_192 : Dc code 192 (.iconst 1) 1 193 := ⟨at_192, rfl⟩
theorem d0_193 : Dc code 193 (.iload 4) 2 195 := ⟨at_193, rfl⟩
theorem d0_195 : Dc code 195 (.lload_n 2) 1 196 := ⟨at_195, rfl⟩
theorem d0_196 : Dc code 196 (.invokestatic 14) 3 199 := ⟨at_196, rfl⟩
theorem d0_199 : Dj code 199 (.ifCond .eq 81) 81 280 202 := ⟨at_199, by decide, by decide, rfl⟩
theorem d0_202 : Dc code 202 (.aload 5) 2 204 := ⟨at_202, rfl⟩
theorem d0_204 : Dc code 204 (.iconst 2) 1 205 := ⟨at_204, rfl⟩
theorem d0_205 : Dc code 205 (.iload 4) 2 207 := ⟨at_205, rfl⟩
theorem d0_207 : Dc code 207 (.lload_n 2) 1 208 := ⟨at_207, rfl⟩
theorem d0_208 : Dc code 208 (.invokestatic 14) 3 211 := ⟨at_208, rfl⟩
theorem d0_211 : Dj code 211 (.ifCond .eq 69) 69 280 214 := ⟨at_211, by decide, by decide, rfl⟩
theorem d0_214 : Dc code 214 (.aload 5) 2 216 := ⟨at_214, rfl⟩
theorem d0_216 : Dc code 216 (.iconst 3) 1 217 := ⟨at_216, rfl⟩
theorem d0_217 : Dc code 217 (.iload 4) 2 219 := ⟨at_217, rfl⟩
theorem d0_219 : Dc code 219 (.lload_n 2) 1 220 := ⟨at_219, rfl⟩
theorem d0_220 : Dc code 220 (.invokestatic 14) 3 223 := ⟨at_220, rfl⟩
theorem d0_223 : Dj code 223 (.ifCond .eq 57) 57 280 226 := ⟨at_223, by decide, by decide, rfl⟩
theorem d0_226 : Dc code 226 (.aload 5) 2 228 := ⟨at_226, rfl⟩
theorem d0_228 : Dc code 228 (.iconst 4) 1 229 := ⟨at_228, rfl⟩
theorem d0_229 : Dc code 229 (.iload 4) 2 231 := ⟨at_229, rfl⟩
theorem d0_231 : Dc code 231 (.lload_n 2) 1 232 := ⟨at_231, rfl⟩
theorem d0_232 : Dc code 232 (.invokestatic 14) 3 235 := ⟨at_232, rfl⟩
theorem d0_235 : Dj code 235 (.ifCond .eq 45) 45 280 238 := ⟨at_235, by decide, by decide, rfl⟩
theorem d0_238 : Dc code 238 (.aload 5) 2 240 := ⟨at_238, rfl⟩
theorem d0_240 : Dc code 240 (.iconst 5) 1 241 := ⟨at_240, rfl⟩
theorem d0_241 : Dc code 241 (.iload 4) 2 243 := ⟨at_241, rfl⟩
theorem d0_243 : Dc code 243 (.lload_n 2) 1 244 := ⟨at_243, rfl⟩
theorem d0_244 : Dc code 244 (.invokestatic 14) 3 247 := ⟨at_244, rfl⟩
theorem d0_247 : Dj code 247 (.ifCond .eq 33) 33 280 250 := ⟨at_247, by decide, by decide, rfl⟩
theorem d0_250 : Dc code 250 (.aload 5) 2 252 := ⟨at_250, rfl⟩
theorem d0_252 : Dc code 252 (.bipush 6) 2 254 := ⟨at_252, rfl⟩
theorem d0_254 : Dc code 254 (.iload 4) 2 256 := ⟨at_254, rfl⟩
theorem d0_256 : Dc code 256 (.lload_n 2) 1 257 := ⟨at_256, rfl⟩
theorem d0_257 : Dc code 257 (.invokestatic 14) 3 260 := ⟨at_257, rfl⟩
theorem d0_260 : Dj code 260 (.ifCond .eq 20) 20 280 263 := ⟨at_260, by decide, by decide, rfl⟩
theorem d0_263 : Dc code 263 (.aload 5) 2 265 := ⟨at_263, rfl⟩
theorem d0_265 : Dc code 265 (.bipush 7) 2 267 := ⟨at_265, rfl⟩
theorem d0_267 : Dc code 267 (.iload 4) 2 269 := ⟨at_267, rfl⟩
theorem d0_269 : Dc code 269 (.lload_n 2) 1 270 := ⟨at_269, rfl⟩
theorem d0_270 : Dc code 270 (.invokestatic 14) 3 273 := ⟨at_270, rfl⟩
theorem d0_273 : Dj code 273 (.ifCond .eq 7) 7 280 276 := ⟨at_273, by decide, by decide, rfl⟩
theorem d0_276 : Dc code 276 (.iconst 1) 1 277 := ⟨at_276, rfl⟩
theorem d0_277 : Dj code 277 (.goto 4) 4 281 280 := ⟨at_277, by decide, by decide, rfl⟩
theorem d0_281 : Dc code 281 (.ireturn) 1 282 := ⟨at_281, rfl⟩
theorem pn_0 : plainFor x = true := plainFor_of_name (by first | (simp [plainName, overriddenIn]; done) | decide +kernel)
theorem ef_0 (m : MethodId) (x0 : Int32) (x1 : Int32) (x2 : Int64) : entryFrame m #[(.int x0), (.int x1), (.long x2)] maxLocals = mkF m 0 #[.val (.int x0), .val (.int x1), .val (.long x2), .second, .unset, .unset, .unset, .unset] [] := by first | (simp [entryFrame, mkF, argsToLocals, Value.category, maxLocals]; done) | rfl
theorem d1_0 : Dc prog_43_method_3_code 0 (.aload_n 0) 1 1 := ⟨by decide +kernel, rfl⟩
theorem d1_1 : Dc prog_43_method_3_code 1 (.iload_n 1) 1 2 := ⟨by decide +kernel, rfl⟩
theorem d1_2 : Dc prog_43_method_3_code 2 (.iload_n 2) 1 3 := ⟨by decide +kernel, rfl⟩
theorem d1_3 : Dc prog_43_method_3_code 3 (.bipush 24) 2 5 := ⟨by decide +kernel, rfl⟩
theorem d1_5 : Dc prog_43_method_3_code 5 (.iushr) 1 6 := ⟨by decide +kernel, rfl⟩
theorem d1_6 : Dc prog_43_method_3_code 6 (.i2b) 1 7 := ⟨by decide +kernel, rfl⟩
theorem d1_7 : Dc prog_43_method_3_code 7 (.bastore) 1 8 := ⟨by decide +kernel, rfl⟩
theorem d1_8 : Dc prog_43_method_3_code 8 (.aload_n 0) 1 9 := ⟨by decide +kernel, rfl⟩
theorem d1_9 : Dc prog_43_method_3_code 9 (.iload_n 1) 1 10 := ⟨by decide +kernel, rfl⟩
theorem d1_10 : Dc prog_43_method_3_code 10 (.iconst 1) 1 11 := ⟨by decide +kernel, rfl⟩
theorem d1_11 : Dc prog_43_method_3_code 11 (.iadd) 1 12 := ⟨by decide +kernel, rfl⟩
theorem d1_12 : Dc prog_43_method_3_code 12 (.iload_n 2) 1 13 := ⟨by decide +kernel, rfl⟩
theorem d1_13 : Dc prog_43_method_3_code 13 (.bipush 16) 2 15 := ⟨by decide +kernel, rfl⟩
theorem d1_15 : Dc prog_43_method_3_code 15 (.iushr) 1 16 := ⟨by decide +kernel, rfl⟩
theorem d1_16 : Dc prog_43_method_3_code 16 (.i2b) 1 17 := ⟨by decide +kernel, rfl⟩
theorem d1_17 : Dc prog_43_method_3_code 17 (.bastore) 1 18 := ⟨by decide +kernel, rfl⟩
theorem d1_18 : Dc prog_43_method_3_code 18 (.aload_n 0) 1 19 := ⟨by decide +kernel, rfl⟩
theorem d1_19 : Dc prog_43_method_3_code 19 (.iload_n 1) 1 20 := ⟨by decide +kernel, rfl⟩
theorem d1_20 : Dc prog_43_method_3_code 20 (.iconst 2) 1 21 := ⟨by decide +kernel, rfl⟩
theorem d1_21 : Dc prog_43_method_3_code 21 (.iadd) 1 22 := ⟨by decide +kernel, rfl⟩
theorem d1_22 : Dc prog_43_method_3_code 22 (.iload_n 2) 1 23 := ⟨by decide +kernel, rfl⟩
theorem d1_23 : Dc prog_43_method_3_code 23 (.bipush 8) 2 25 := ⟨by decide +kernel, rfl⟩
theorem d1_25 : Dc prog_43_method_3_code 25 (.iushr) 1 26 := ⟨by decide +kernel, rfl⟩
theorem d1_26 : Dc prog_43_method_3_code 26 (.i2b) 1 27 := ⟨by decide +kernel, rfl⟩
theorem d1_27 : Dc prog_43_method_3_code 27 (.bastore) 1 28 := ⟨by decide +kernel, rfl⟩
theorem d1_28 : Dc prog_43_method_3_code 28 (.aload_n 0) 1 29 := ⟨by decide +kernel, rfl⟩
theorem d1_29 : Dc prog_43_method_3_code 29 (.iload_n 1) 1 30 := ⟨by decide +kernel, rfl⟩
theorem d1_30 : Dc prog_43_method_3_code 30 (.iconst 3) 1 31 := ⟨by decide +kernel, rfl⟩
theorem d1_31 : Dc prog_43_method_3_code 31 (.iadd) 1 32 := ⟨by decide +kernel, rfl⟩
theorem d1_32 : Dc prog_43_method_3_code 32 (.iload_n 2) 1 33 := ⟨by decide +kernel, rfl⟩
theorem d1_33 : Dc prog_43_method_3_code 33 (.i2b) 1 34 := ⟨by decide +kernel, rfl⟩
theorem d1_34 : Dc prog_43_method_3_code 34 (.bastore) 1 35 := ⟨by decide +kernel, rfl⟩
theorem d1_35 : Dc prog_43_method_3_code 35 (.iload_n 1) 1 36 := ⟨by decide +kernel, rfl⟩
theorem d1_36 : Dc prog_43_method_3_code 36 (.iconst 4) 1 37 := ⟨by decide +kernel, rfl⟩
theorem d1_37 : Dc prog_43_method_3_code 37 (.iadd) 1 38 := ⟨by decide +kernel, rfl⟩
theorem d1_38 : Dc prog_43_method_3_code 38 (.ireturn) 1 39 := ⟨by decide +kernel, rfl⟩
theorem pn_1 : plainFor (⟨"com/example/vestigio/vestigio/store/BigEndian", "putInt", "([BII)I"⟩ : MethodName) = true := plainFor_of_name (by first | (simp [plainName, overriddenIn]; done) | decide +kernel)
theorem ef_1 (m : MethodId) (x0 : Addr) (x1 : Int32) (x2 : Int32) : entryFrame m #[(.ref x0), (.int x1), (.int x2)] 3 = mkF m 0 #[.val (.ref x0), .val (.int x1), .val (.int x2)] [] := by first | (simp [entryFrame, mkF, argsToLocals, Value.category]; done) | rfl
theorem d2_0 : Dc method_3_code 0 (.iload_n 1) 1 1 := ⟨by decide +kernel, rfl⟩
theorem d2_1 : Dc method_3_code 1 (.iload_n 2) 1 2 := ⟨by decide +kernel, rfl⟩
theorem d2_2 : Dj method_3_code 2 (.if_icmp .lt 12) 12 14 5 := ⟨by decide +kernel, by decide, by decide, rfl⟩
theorem d2_5 : Dc method_3_code 5 (.iload_n 1) 1 6 := ⟨by decide +kernel, rfl⟩
theorem d2_6 : Dc method_3_code 6 (.iload_n 2) 1 7 := ⟨by decide +kernel, rfl⟩
theorem d2_7 : Dc method_3_code 7 (.iconst 4) 1 8 := ⟨by decide +kernel, rfl⟩
theorem d2_8 : Dc method_3_code 8 (.iadd) 1 9 := ⟨by decide +kernel, rfl⟩
theorem d2_9 : Dj method_3_code 9 (.if_icmp .ge 5) 5 14 12 := ⟨by decide +kernel, by decide, by decide, rfl⟩
theorem d2_12 : Dc method_3_code 12 (.iconst 1) 1 13 := ⟨by decide +kernel, rfl⟩
theorem d2_13 : Dc method_3_code 13 (.ireturn) 1 14 := ⟨by decide +kernel, rfl⟩
theorem d2_14 : Dc method_3_code 14 (.aload_n 0) 1 15 := ⟨by decide +kernel, rfl⟩
theorem d2_15 : Dc method_3_code 15 (.iload_n 1) 1 16 := ⟨by decide +kernel, rfl⟩
theorem d2_16 : Dc method_3_code 16 (.baload) 1 17 := ⟨by decide +kernel, rfl⟩
theorem d2_17 : Dc method_3_code 17 (.lload_n 3) 1 18 := ⟨by decide +kernel, rfl⟩
theorem d2_18 : Dc method_3_code 18 (.bipush 8) 2 20 := ⟨by decide +kernel, rfl⟩
theorem d2_20 : Dc method_3_code 20 (.iload_n 1) 1 21 := ⟨by decide +kernel, rfl⟩
theorem d2_21 : Dc method_3_code 21 (.imul) 1 22 := ⟨by decide +kernel, rfl⟩
theorem d2_22 : Dc method_3_code 22 (.lushr) 1 23 := ⟨by decide +kernel, rfl⟩
theorem d2_23 : Dc method_3_code 23 (.l2i) 1 24 := ⟨by decide +kernel, rfl⟩
theorem d2_24 : Dc method_3_code 24 (.i2b) 1 25 := ⟨by decide +kernel, rfl⟩
theorem d2_25 : Dj method_3_code 25 (.if_icmp .ne 7) 7 32 28 := ⟨by decide +kernel, by decide, by decide, rfl⟩
theorem d2_28 : Dc method_3_code 28 (.iconst 1) 1 29 := ⟨by decide +kernel, rfl⟩
theorem d2_29 : Dj method_3_code 29 (.goto 4) 4 33 32 := ⟨by decide +kernel, by decide, by decide, rfl⟩
theorem d2_33 : Dc method_3_code 33 (.ireturn) 1 34 := ⟨by decide +kernel, rfl⟩
theorem pn_2 : plainFor (⟨"com/example/vestigio/vestigio/store/BigEndianPutIntPinLaw", "kept", "([BIIJ)Z"⟩ : MethodName) = true := plainFor_of_name (by first | (simp [plainName, overriddenIn]; done) | decide +kernel)
theorem ef_2 (m : MethodId) (x0 : Addr) (x1 : Int32) (x2 : Int32) (x3 : Int64) : entryFrame m #[(.ref x0), (.int x1), (.int x2), (.long x3)] 5 = mkF m 0 #[.val (.ref x0), .val (.int x1), .val (.int x2), .val (.long x3), .second] [] := by first | (simp [entryFrame, mkF, argsToLocals, Value.category]; done) | rfl
theorem pd_0 : parseMethodDescriptor "([BII)I" = some ⟨[(.array .byte), .int, .int], some .int⟩ := by decide +kernel
theorem pd_1 : parseMethodDescriptor "([BIIJ)Z" = some ⟨[(.array .byte), .int, .int, .long], some .boolean⟩ := by decide +kernel

theorem i2b_i2b (x : Int32) : x.toInt8.toInt32.toInt8.toInt32 = x.toInt8.toInt32 := i32_inj (by
  have h1 := i_i2b x.toInt8.toInt32; have h2 := i_i2b x
  rw [h1]; split at h2 <;> split <;> omega)
def B (f : Int64) (i : Nat) : Int32 := (LUshr f (Int32.ofNat (8 * i))).toInt32.toInt8.toInt32
theorem B0 (f : Int64) : f.toInt32.toInt8.toInt32 = B f 0 := by
  have e : LUshr f (Int32.ofNat (8 * 0)) = f := u64_inj (by rw [u_lushr f (k := 0) rfl (by decide)]; omega)
  unfold B; rw [e]
theorem o_lt8 {i : Nat} (h : i < 8) : i = 0 ∨ i = 1 ∨ i = 2 ∨ i = 3 ∨ i = 4 ∨ i = 5 ∨ i = 6 ∨ i = 7 := by omega
theorem own_by (v : Int32) {y : Int32} {k : Nat} (hy : y.toInt = (k : Int)) (hk : k < 32) : u32 ((IUshr v y).toInt8.toInt32.toInt8.toInt32 &&& 255) = u32 v / 2 ^ k % 256 := by
  have e1 : u32 ((IUshr v y).toInt8.toInt32.toInt8.toInt32 &&& 255) = u32 ((IUshr v y).toInt8.toInt32.toInt8.toInt32) % 2 ^ 8 := u32_and _ _ (by decide)
  have e2 := u_i2b (IUshr v y); have e3 := u_iushr v hy hk
  rw [e1, i2b_i2b]; omega
theorem own_by0 (v : Int32) : u32 (v.toInt8.toInt32.toInt8.toInt32 &&& 255) = u32 v % 256 := by
  have e1 : u32 (v.toInt8.toInt32.toInt8.toInt32 &&& 255) = u32 (v.toInt8.toInt32.toInt8.toInt32) % 2 ^ 8 := u32_and _ _ (by decide)
  have e2 := u_i2b v
  rw [e1, i2b_i2b]; omega
theorem own_or (v : Int32) : (((IShl ((IUshr v 24).toInt8.toInt32.toInt8.toInt32 &&& 255) 24 ||| IShl ((IUshr v 16).toInt8.toInt32.toInt8.toInt32 &&& 255) 16) ||| IShl ((IUshr v 8).toInt8.toInt32.toInt8.toInt32 &&& 255) 8) ||| (v.toInt8.toInt32.toInt8.toInt32 &&& 255)) = v := by
  have a3 := own_by v (y := 24) (k := 24) rfl (by decide)
  have a2 := own_by v (y := 16) (k := 16) rfl (by decide)
  have a1 := own_by v (y := 8) (k := 8) rfl (by decide)
  have a0 := own_by0 v
  generalize (IUshr v 24).toInt8.toInt32.toInt8.toInt32 &&& 255 = x3 at *
  generalize (IUshr v 16).toInt8.toInt32.toInt8.toInt32 &&& 255 = x2 at *
  generalize (IUshr v 8).toInt8.toInt32.toInt8.toInt32 &&& 255 = x1 at *
  generalize v.toInt8.toInt32.toInt8.toInt32 &&& 255 = x0 at *
  have s3 : u32 (IShl x3 24) = u32 x3 * 2 ^ 24 % 4294967296 := u_ishl x3 (k := 24) rfl (by decide)
  have s2 : u32 (IShl x2 16) = u32 x2 * 2 ^ 16 % 4294967296 := u_ishl x2 (k := 16) rfl (by decide)
  have s1 : u32 (IShl x1 8) = u32 x1 * 2 ^ 8 % 4294967296 := u_ishl x1 (k := 8) rfl (by decide)
  have hv := u32_lt v
  have t1 : u32 (IShl x3 24 ||| IShl x2 16) = u32 (IShl x3 24) + u32 (IShl x2 16) := u32_or 24 (by omega) (by omega)
  have t2 : u32 (IShl x3 24 ||| IShl x2 16 ||| IShl x1 8) = u32 (IShl x3 24 ||| IShl x2 16) + u32 (IShl x1 8) := u32_or 16 (by omega) (by omega)
  have t3 : u32 (IShl x3 24 ||| IShl x2 16 ||| IShl x1 8 ||| x0) = u32 (IShl x3 24 ||| IShl x2 16 ||| IShl x1 8) + u32 x0 := u32_or 8 (by omega) (by omega)
  exact u32_inj (by rw [t3, t2, t1, s3, s2, s1]; omega)

set_option maxRecDepth 65536 in
set_option maxHeartbeats 40000000 in
theorem ct1 (l : Launch) (Z : State) (a0 : Array Value) (hw : ∀ d ∈ tables_1, d.before a0 Z = true) (x0 : Addr) (x1 x2 : Int32) (n0 n k : Nat) (g : Nat → Int32) (h0 : Heap) (Z0 : n0 ≤ h0.size) (g_x0 : n0 ≤ x0) (A : AV Z h0 x0 .byte n (iF g)) (hk : x1.toInt = (k : Int)) (hn : k + 4 ≤ n) :
    Ct l Z (⟨"com/example/vestigio/vestigio/store/BigEndian", "putInt", "([BII)I"⟩ : MethodName) prog_43_method_3_code 3 (some .int) ({ frames := 0, cells := 0, slots := 0, locals := 0 } : Room) #[(.ref x0), (.int x1), (.int x2)] h0 (fun v h' L => v = some (.int (x1 + 4)) ∧ Fr n0 L ∧ Keep h0 h' [x0] ∧ AV Z h' x0 .byte n (iF (upd (upd (upd (upd g k (IUshr x2 24).toInt8.toInt32.toInt8.toInt32) (k + 1) (IUshr x2 16).toInt8.toInt32.toInt8.toInt32) (k + 2) (IUshr x2 8).toInt8.toInt32.toInt8.toInt32) (k + 3) x2.toInt8.toInt32.toInt8.toInt32))) := by
  refine Ct.body pn_1 ?_
  intro p e s m below meth c T X hx hby hml hown hnm hret hlk hZ eT
  rw [ef_1]
  have N := Fr.nil n0
  have K := Keep.refl h0 [x0]
  have hn2 := A.1
  have own_i1 : (x1 + 1).toInt = ((k + 1 : Nat) : Int) := by rw [Jvm.Kit.i32_add] <;> (have : (1 : Int32).toInt = 1 := rfl) <;> omega
  have own_i2 : (x1 + 2).toInt = ((k + 2 : Nat) : Int) := by rw [Jvm.Kit.i32_add] <;> (have : (2 : Int32).toInt = 2 := rfl) <;> omega
  have own_i3 : (x1 + 3).toInt = ((k + 3 : Nat) : Int) := by rw [Jvm.Kit.i32_add] <;> (have : (3 : Int32).toInt = 3 := rfl) <;> omega
  refine w_aloadN X hx (dq hby d1_0) rfl rfl ?_
  refine w_iloadN X hx (dq hby d1_1) rfl ?_
  refine w_iloadN X hx (dq hby d1_2) rfl ?_
  refine w_bipush X hx (dq hby d1_3) (z := 24) rfl ?_
  refine w_iushr X hx (dq hby d1_5) ?_
  refine w_i2b X hx (dq hby d1_6) ?_
  refine w_bastore X hx hZ eT A (i := k) (hk) (by omega) (dq hby d1_7) fun T h1 X eT W A' => ?_
  replace Z0 := Nat.le_trans Z0 (Nat.le_of_eq W.size.symm)
  replace K := K.wr W (Or.inl (List.mem_singleton.mpr rfl))
  replace N := Fr.snoc X N g_x0
  replace A := A'
  refine w_aloadN X hx (dq hby d1_8) rfl rfl ?_
  refine w_iloadN X hx (dq hby d1_9) rfl ?_
  refine w_iconst X hx (dq hby d1_10) (z := 1) rfl ?_
  refine w_iadd X hx (dq hby d1_11) ?_
  refine w_iloadN X hx (dq hby d1_12) rfl ?_
  refine w_bipush X hx (dq hby d1_13) (z := 16) rfl ?_
  refine w_iushr X hx (dq hby d1_15) ?_
  refine w_i2b X hx (dq hby d1_16) ?_
  refine w_bastore X hx hZ eT A (i := (k + 1)) (own_i1) (by omega) (dq hby d1_17) fun T h2 X eT W A' => ?_
  replace Z0 := Nat.le_trans Z0 (Nat.le_of_eq W.size.symm)
  replace K := K.wr W (Or.inl (List.mem_singleton.mpr rfl))
  replace N := Fr.snoc X N g_x0
  replace A := A'
  refine w_aloadN X hx (dq hby d1_18) rfl rfl ?_
  refine w_iloadN X hx (dq hby d1_19) rfl ?_
  refine w_iconst X hx (dq hby d1_20) (z := 2) rfl ?_
  refine w_iadd X hx (dq hby d1_21) ?_
  refine w_iloadN X hx (dq hby d1_22) rfl ?_
  refine w_bipush X hx (dq hby d1_23) (z := 8) rfl ?_
  refine w_iushr X hx (dq hby d1_25) ?_
  refine w_i2b X hx (dq hby d1_26) ?_
  refine w_bastore X hx hZ eT A (i := (k + 2)) (own_i2) (by omega) (dq hby d1_27) fun T h3 X eT W A' => ?_
  replace Z0 := Nat.le_trans Z0 (Nat.le_of_eq W.size.symm)
  replace K := K.wr W (Or.inl (List.mem_singleton.mpr rfl))
  replace N := Fr.snoc X N g_x0
  replace A := A'
  refine w_aloadN X hx (dq hby d1_28) rfl rfl ?_
  refine w_iloadN X hx (dq hby d1_29) rfl ?_
  refine w_iconst X hx (dq hby d1_30) (z := 3) rfl ?_
  refine w_iadd X hx (dq hby d1_31) ?_
  refine w_iloadN X hx (dq hby d1_32) rfl ?_
  refine w_i2b X hx (dq hby d1_33) ?_
  refine w_bastore X hx hZ eT A (i := (k + 3)) (own_i3) (by omega) (dq hby d1_34) fun T h4 X eT W A' => ?_
  replace Z0 := Nat.le_trans Z0 (Nat.le_of_eq W.size.symm)
  replace K := K.wr W (Or.inl (List.mem_singleton.mpr rfl))
  replace N := Fr.snoc X N g_x0
  replace A := A'
  refine w_iloadN X hx (dq hby d1_35) rfl ?_
  refine w_iconst X hx (dq hby d1_36) (z := 4) rfl ?_
  refine w_iadd X hx (dq hby d1_37) ?_
  refine w_retI X hx hret hlk (dq hby d1_38) (by decide) (by decide) ?_
  rw [eT]
  exact ⟨rfl, N, K, A⟩
set_option maxRecDepth 65536 in
set_option maxHeartbeats 40000000 in
theorem ct2 (l : Launch) (Z : State) (a0 : Array Value) (hw : ∀ d ∈ tables_1, d.before a0 Z = true) (x0 : Addr) (x1 x2 : Int32) (x3 : Int64) (n i : Nat) (g : Nat → Int32) (h0 : Heap) (A : AV Z h0 x0 .byte n (iF g)) (hi : x1.toInt = (i : Int)) (hin : i < n) (hi8 : i < 8) (h2 : 0 ≤ x2.toInt ∧ x2.toInt < 5) (hg : x1.toInt < x2.toInt ∨ x2.toInt + 4 ≤ x1.toInt → g i = B x3 i) :
    Ct l Z (⟨"com/example/vestigio/vestigio/store/BigEndianPutIntPinLaw", "kept", "([BIIJ)Z"⟩ : MethodName) method_3_code 5 (some .boolean) ({ frames := 0, cells := 0, slots := 0, locals := 0 } : Room) #[(.ref x0), (.int x1), (.int x2), (.long x3)] h0 (fun v h' L => v = some (.int 1) ∧ h' = h0 ∧ L = []) := by
  refine Ct.body pn_2 ?_
  intro p e s m below meth c T X hx hby hml hown hnm hret hlk hZ eT
  rw [ef_2]
  have l4 : (4 : Int32).toInt = 4 := rfl
  have l8 : (8 : Int32).toInt = 8 := rfl
  have e4 : (x2 + 4).toInt = x2.toInt + 4 := by rw [Jvm.Kit.i32_add] <;> omega
  have e8 : (8 : Int32) * x1 = Int32.ofNat (8 * i) := i32_inj (by rw [Jvm.Kit.i32_mul (by rw [l8, hi]; omega) (by rw [l8, hi]; omega), l8, hi, i_ofNat (by omega)]; omega)
  refine w_iloadN X hx (dq hby d2_0) rfl ?_
  refine w_iloadN X hx (dq hby d2_1) rfl ?_
  refine w_icmp_lt X hx (dj hby d2_2) (fun hc2 => ?_) (fun hc2 => ?_)
  · refine w_aloadN X hx (dq hby d2_14) rfl rfl ?_
    refine w_iloadN X hx (dq hby d2_15) rfl ?_
    refine w_baload X hx hZ eT A (i := i) (hi) (hin) (z := (g i)) (rfl) (dq hby d2_16) ?_
    refine w_lloadN X hx (dq hby d2_17) rfl ?_
    refine w_bipush X hx (dq hby d2_18) (z := 8) rfl ?_
    refine w_iloadN X hx (dq hby d2_20) rfl ?_
    refine w_imul X hx (dq hby d2_21) ?_
    refine w_lushr X hx (dq hby d2_22) ?_
    refine w_l2i X hx (dq hby d2_23) ?_
    refine w_i2b X hx (dq hby d2_24) ?_
    refine w_icmp_ne X hx (dj hby d2_25) (fun hc25 => (?_ : False).elim) (fun hc25 => ?_)
    · exact hc25 (by rw [hg (by omega), e8]; rfl)
    refine w_iconst X hx (dq hby d2_28) (z := 1) rfl ?_
    refine w_goto X hx (dj hby d2_29) ?_
    refine w_retN X hx hret (by simp) hlk (dq hby d2_33) (by decide) (by decide) ?_
    exact ⟨rfl, eT, rfl⟩
  · refine w_iloadN X hx (dq hby d2_5) rfl ?_
    refine w_iloadN X hx (dq hby d2_6) rfl ?_
    refine w_iconst X hx (dq hby d2_7) (z := 4) rfl ?_
    refine w_iadd X hx (dq hby d2_8) ?_
    refine w_icmp_ge X hx (dj hby d2_9) (fun hc9 => ?_) (fun hc9 => ?_)
    · refine w_aloadN X hx (dq hby d2_14) rfl rfl ?_
      refine w_iloadN X hx (dq hby d2_15) rfl ?_
      refine w_baload X hx hZ eT A (i := i) (hi) (hin) (z := (g i)) (rfl) (dq hby d2_16) ?_
      refine w_lloadN X hx (dq hby d2_17) rfl ?_
      refine w_bipush X hx (dq hby d2_18) (z := 8) rfl ?_
      refine w_iloadN X hx (dq hby d2_20) rfl ?_
      refine w_imul X hx (dq hby d2_21) ?_
      refine w_lushr X hx (dq hby d2_22) ?_
      refine w_l2i X hx (dq hby d2_23) ?_
      refine w_i2b X hx (dq hby d2_24) ?_
      refine w_icmp_ne X hx (dj hby d2_25) (fun hc25 => (?_ : False).elim) (fun hc25 => ?_)
      · exact hc25 (by rw [hg (by omega), e8]; rfl)
      refine w_iconst X hx (dq hby d2_28) (z := 1) rfl ?_
      refine w_goto X hx (dj hby d2_29) ?_
      refine w_retN X hx hret (by simp) hlk (dq hby d2_33) (by decide) (by decide) ?_
      exact ⟨rfl, eT, rfl⟩
    · refine w_iconst X hx (dq hby d2_12) (z := 1) rfl ?_
      refine w_retN X hx hret (by simp) hlk (dq hby d2_13) (by decide) (by decide) ?_
      exact ⟨rfl, eT, rfl⟩
def Q0 (n0 : Nat) (v : Option Value) (h : Heap) (L : List Loc) : Prop := v = some (.int (1 : Int32)) ∧ Fr n0 L
set_option maxRecDepth 65536 in
set_option maxHeartbeats 40000000 in
theorem rm0 (l : Launch) (Z : State) (a0 : Array Value) (hw : ∀ d ∈ tables_1, d.before a0 Z = true) (ws : List Jvm.Cond) (i0 : Int32) (i1 : Int32) (i2 : Int64) (h0 : Heap) (n0 : Nat) (Z0 : n0 ≤ h0.size) :
    MetFree l x (head1 (Jvm.Cond.code x code maxLocals ret :: ws) room_1) (fun a U => a = #[(.int i0), (.int i1), (.long i2)] ∧ Z.Warmed39 U.vm ∧ U.heap = h0) (fun _ _ _ _ _ => True) (fun _ U o U' => ∃ v L, o = .returned v ∧ Q0 n0 v U'.heap L ∧ FrameEnd U o U' L 16 128) := by
  refine w_body pn_0 ?_
  intro p e s m below meth c T X hx hby hml hown hnm hret hlk hZ eT
  rw [ef_0]
  have N := Fr.nil n0
  refine w_iloadN X hx (dq hby d0_0) rfl ?_
  refine w_ldc X hx hZ hown (hw _ (List.mem_of_getElem? (i := 0) rfl)) (dq hby d0_1) ?_
  refine w_iand X hx (dq hby d0_3) ?_
  refine w_iconst X hx (dq hby d0_4) (z := 5) rfl ?_
  refine w_irem X hx (dq hby d0_5) (by decide) ?_
  obtain ⟨v4_6, hv4_6⟩ : ∃ z : Int32, z = ((i1 &&& (2147483647 : Int32)) % (5 : Int32)) := ⟨_, rfl⟩
  refine w_istore X hx (dq hby d0_6) (z := v4_6) hv4_6 (Ls' := #[.val (.int i0), .val (.int i1), .val (.long i2), .second, .val (.int v4_6), .unset, .unset, .unset]) rfl ?_
  have m5 : (i1 &&& 2147483647).toInt = i1.toInt % 2 ^ 31 := Jvm.Kit.i32_mask i1 2147483647 (by decide) (by decide)
  have l5 : (5 : Int32).toInt = 5 := rfl
  have r5 : v4_6.toInt = i1.toInt % 2 ^ 31 % 5 := by rw [hv4_6, Jvm.Kit.i32_rem_nonneg (by omega), m5, l5]
  obtain ⟨k, hk0⟩ : ∃ k : Nat, k = v4_6.toInt.toNat := ⟨_, rfl⟩
  have hk : v4_6.toInt = (k : Int) := by omega
  have hk5 : k < 5 := by omega
  have own_i1 : (v4_6 + 1).toInt = ((k + 1 : Nat) : Int) := by rw [Jvm.Kit.i32_add] <;> (have : (1 : Int32).toInt = 1 := rfl) <;> omega
  have own_i2 : (v4_6 + 2).toInt = ((k + 2 : Nat) : Int) := by rw [Jvm.Kit.i32_add] <;> (have : (2 : Int32).toInt = 2 := rfl) <;> omega
  have own_i3 : (v4_6 + 3).toInt = ((k + 3 : Nat) : Int) := by rw [Jvm.Kit.i32_add] <;> (have : (3 : Int32).toInt = 3 := rfl) <;> omega
  refine w_bipush X hx (dq hby d0_8) (z := 8) rfl ?_
  refine w_newarr X hx hZ eT (aty := .byte) (hw _ (List.mem_of_getElem? (i := 1) rfl)) (dq hby d0_10) (n := 8) (cap := 8) (rfl) ((by decide)) (by decide) (by decide) (by decide) fun T h1 b10 hb_b10 X eT EX A_b10 => ?_
  have g_b10 : n0 ≤ b10 := by omega
  replace Z0 := Nat.le_trans Z0 EX.1
  replace A_b10 : AV Z h1 b10 .byte 8 (iF (fun _ => (0 : Int32))) := A_b10
  refine w_astore X hx (dq hby d0_12) rfl (Ls' := #[.val (.int i0), .val (.int i1), .val (.long i2), .second, .val (.int v4_6), .val (.ref b10), .unset, .unset]) rfl ?_
  refine w_aload X hx (dq hby d0_14) rfl rfl ?_
  refine w_iconst X hx (dq hby d0_16) (z := 0) rfl ?_
  refine w_lloadN X hx (dq hby d0_17) rfl ?_
  refine w_l2i X hx (dq hby d0_18) ?_
  refine w_i2b X hx (dq hby d0_19) ?_
  refine w_bastore X hx hZ eT A_b10 (i := 0) (rfl) (by decide) (dq hby d0_20) fun T h2 X eT W A' => ?_
  replace Z0 := Nat.le_trans Z0 (Nat.le_of_eq W.size.symm)
  replace N := Fr.snoc X N g_b10
  replace A_b10 := A'
  obtain ⟨g0_20, hg0_20⟩ : ∃ g, g = (upd (fun _ => (0 : Int32)) 0 ((((i2.toInt32).toInt8.toInt32)).toInt8.toInt32)) := ⟨_, rfl⟩
  rw [← hg0_20] at A_b10
  refine w_aload X hx (dq hby d0_21) rfl rfl ?_
  refine w_iconst X hx (dq hby d0_23) (z := 1) rfl ?_
  refine w_lloadN X hx (dq hby d0_24) rfl ?_
  refine w_bipush X hx (dq hby d0_25) (z := 8) rfl ?_
  refine w_lushr X hx (dq hby d0_27) ?_
  refine w_l2i X hx (dq hby d0_28) ?_
  refine w_i2b X hx (dq hby d0_29) ?_
  refine w_bastore X hx hZ eT A_b10 (i := 1) (rfl) (by decide) (dq hby d0_30) fun T h3 X eT W A' => ?_
  replace Z0 := Nat.le_trans Z0 (Nat.le_of_eq W.size.symm)
  replace N := Fr.snoc X N g_b10
  replace A_b10 := A'
  obtain ⟨g0_30, hg0_30⟩ : ∃ g, g = (upd g0_20 1 (((((LUshr i2 (8 : Int32)).toInt32).toInt8.toInt32)).toInt8.toInt32)) := ⟨_, rfl⟩
  rw [← hg0_30] at A_b10
  refine w_aload X hx (dq hby d0_31) rfl rfl ?_
  refine w_iconst X hx (dq hby d0_33) (z := 2) rfl ?_
  refine w_lloadN X hx (dq hby d0_34) rfl ?_
  refine w_bipush X hx (dq hby d0_35) (z := 16) rfl ?_
  refine w_lushr X hx (dq hby d0_37) ?_
  refine w_l2i X hx (dq hby d0_38) ?_
  refine w_i2b X hx (dq hby d0_39) ?_
  refine w_bastore X hx hZ eT A_b10 (i := 2) (rfl) (by decide) (dq hby d0_40) fun T h4 X eT W A' => ?_
  replace Z0 := Nat.le_trans Z0 (Nat.le_of_eq W.size.symm)
  replace N := Fr.snoc X N g_b10
  replace A_b10 := A'
  obtain ⟨g0_40, hg0_40⟩ : ∃ g, g = (upd g0_30 2 (((((LUshr i2 (16 : Int32)).toInt32).toInt8.toInt32)).toInt8.toInt32)) := ⟨_, rfl⟩
  rw [← hg0_40] at A_b10
  refine w_aload X hx (dq hby d0_41) rfl rfl ?_
  refine w_iconst X hx (dq hby d0_43) (z := 3) rfl ?_
  refine w_lloadN X hx (dq hby d0_44) rfl ?_
  refine w_bipush X hx (dq hby d0_45) (z := 24) rfl ?_
  refine w_lushr X hx (dq hby d0_47) ?_
  refine w_l2i X hx (dq hby d0_48) ?_
  refine w_i2b X hx (dq hby d0_49) ?_
  refine w_bastore X hx hZ eT A_b10 (i := 3) (rfl) (by decide) (dq hby d0_50) fun T h5 X eT W A' => ?_
  replace Z0 := Nat.le_trans Z0 (Nat.le_of_eq W.size.symm)
  replace N := Fr.snoc X N g_b10
  replace A_b10 := A'
  obtain ⟨g0_50, hg0_50⟩ : ∃ g, g = (upd g0_40 3 (((((LUshr i2 (24 : Int32)).toInt32).toInt8.toInt32)).toInt8.toInt32)) := ⟨_, rfl⟩
  rw [← hg0_50] at A_b10
  refine w_aload X hx (dq hby d0_51) rfl rfl ?_
  refine w_iconst X hx (dq hby d0_53) (z := 4) rfl ?_
  refine w_lloadN X hx (dq hby d0_54) rfl ?_
  refine w_bipush X hx (dq hby d0_55) (z := 32) rfl ?_
  refine w_lushr X hx (dq hby d0_57) ?_
  refine w_l2i X hx (dq hby d0_58) ?_
  refine w_i2b X hx (dq hby d0_59) ?_
  refine w_bastore X hx hZ eT A_b10 (i := 4) (rfl) (by decide) (dq hby d0_60) fun T h6 X eT W A' => ?_
  replace Z0 := Nat.le_trans Z0 (Nat.le_of_eq W.size.symm)
  replace N := Fr.snoc X N g_b10
  replace A_b10 := A'
  obtain ⟨g0_60, hg0_60⟩ : ∃ g, g = (upd g0_50 4 (((((LUshr i2 (32 : Int32)).toInt32).toInt8.toInt32)).toInt8.toInt32)) := ⟨_, rfl⟩
  rw [← hg0_60] at A_b10
  refine w_aload X hx (dq hby d0_61) rfl rfl ?_
  refine w_iconst X hx (dq hby d0_63) (z := 5) rfl ?_
  refine w_lloadN X hx (dq hby d0_64) rfl ?_
  refine w_bipush X hx (dq hby d0_65) (z := 40) rfl ?_
  refine w_lushr X hx (dq hby d0_67) ?_
  refine w_l2i X hx (dq hby d0_68) ?_
  refine w_i2b X hx (dq hby d0_69) ?_
  refine w_bastore X hx hZ eT A_b10 (i := 5) (rfl) (by decide) (dq hby d0_70) fun T h7 X eT W A' => ?_
  replace Z0 := Nat.le_trans Z0 (Nat.le_of_eq W.size.symm)
  replace N := Fr.snoc X N g_b10
  replace A_b10 := A'
  obtain ⟨g0_70, hg0_70⟩ : ∃ g, g = (upd g0_60 5 (((((LUshr i2 (40 : Int32)).toInt32).toInt8.toInt32)).toInt8.toInt32)) := ⟨_, rfl⟩
  rw [← hg0_70] at A_b10
  refine w_aload X hx (dq hby d0_71) rfl rfl ?_
  refine w_bipush X hx (dq hby d0_73) (z := 6) rfl ?_
  refine w_lloadN X hx (dq hby d0_75) rfl ?_
  refine w_bipush X hx (dq hby d0_76) (z := 48) rfl ?_
  refine w_lushr X hx (dq hby d0_78) ?_
  refine w_l2i X hx (dq hby d0_79) ?_
  refine w_i2b X hx (dq hby d0_80) ?_
  refine w_bastore X hx hZ eT A_b10 (i := 6) (rfl) (by decide) (dq hby d0_81) fun T h8 X eT W A' => ?_
  replace Z0 := Nat.le_trans Z0 (Nat.le_of_eq W.size.symm)
  replace N := Fr.snoc X N g_b10
  replace A_b10 := A'
  obtain ⟨g0_81, hg0_81⟩ : ∃ g, g = (upd g0_70 6 (((((LUshr i2 (48 : Int32)).toInt32).toInt8.toInt32)).toInt8.toInt32)) := ⟨_, rfl⟩
  rw [← hg0_81] at A_b10
  refine w_aload X hx (dq hby d0_82) rfl rfl ?_
  refine w_bipush X hx (dq hby d0_84) (z := 7) rfl ?_
  refine w_lloadN X hx (dq hby d0_86) rfl ?_
  refine w_bipush X hx (dq hby d0_87) (z := 56) rfl ?_
  refine w_lushr X hx (dq hby d0_89) ?_
  refine w_l2i X hx (dq hby d0_90) ?_
  refine w_i2b X hx (dq hby d0_91) ?_
  refine w_bastore X hx hZ eT A_b10 (i := 7) (rfl) (by decide) (dq hby d0_92) fun T h9 X eT W A' => ?_
  replace Z0 := Nat.le_trans Z0 (Nat.le_of_eq W.size.symm)
  replace N := Fr.snoc X N g_b10
  replace A_b10 := A'
  obtain ⟨g0_92, hg0_92⟩ : ∃ g, g = (upd g0_81 7 (((((LUshr i2 (56 : Int32)).toInt32).toInt8.toInt32)).toInt8.toInt32)) := ⟨_, rfl⟩
  rw [← hg0_92] at A_b10
  have hB : ∀ i, i < 8 → g0_92 i = B i2 i := fun i hi => by
    rcases o_lt8 hi with rfl | rfl | rfl | rfl | rfl | rfl | rfl | rfl <;> simp only [hg0_20, hg0_30, hg0_40, hg0_50, hg0_60, hg0_70, hg0_81, hg0_92, upd, i2b_i2b] <;> first | exact B0 i2 | rfl
  refine w_aload X hx (dq hby d0_93) rfl rfl ?_
  refine w_iload X hx (dq hby d0_95) rfl ?_
  refine w_iloadN X hx (dq hby d0_97) rfl ?_
  refine w_callS X hx hZ eT hml (by rfl) hown (hw _ (List.mem_of_getElem? (i := 2) rfl)) (hw _ (List.mem_of_getElem? (i := 3) rfl)) (hw _ (List.mem_of_getElem? (i := 4) rfl)) (hw _ (List.mem_of_getElem? (i := 5) rfl)) (by decide) (ct1 l Z a0 hw b10 v4_6 i0 n0 8 k g0_92 h9 Z0 g_b10 A_b10 hk (by omega)) (dq hby d0_98) pd_0 (argsL := [(.ref b10), (.int v4_6), (.int i0)]) (rest := []) rfl rfl rfl (W := 0) rfl (by decide) (by decide) (by decide) (by decide) fun v T L X hQ => ?_
  generalize eT : T.heap = h10 at hQ
  obtain ⟨rfl, N', K', A_b10⟩ := hQ
  replace Z0 := Nat.le_trans Z0 K'.1
  replace N := Fr.app N N'
  obtain ⟨gf, hgf⟩ : ∃ g, g = (upd (upd (upd (upd g0_92 k (IUshr i0 24).toInt8.toInt32.toInt8.toInt32) (k + 1) (IUshr i0 16).toInt8.toInt32.toInt8.toInt32) (k + 2) (IUshr i0 8).toInt8.toInt32.toInt8.toInt32) (k + 3) i0.toInt8.toInt32.toInt8.toInt32) := ⟨_, rfl⟩
  rw [← hgf] at A_b10
  have f0 : gf k = (IUshr i0 24).toInt8.toInt32.toInt8.toInt32 := by rw [hgf]; simp [upd]
  have f1 : gf (k + 1) = (IUshr i0 16).toInt8.toInt32.toInt8.toInt32 := by rw [hgf]; simp [upd]
  have f2 : gf (k + 2) = (IUshr i0 8).toInt8.toInt32.toInt8.toInt32 := by rw [hgf]; simp [upd]
  have f3 : gf (k + 3) = i0.toInt8.toInt32.toInt8.toInt32 := by rw [hgf]; simp [upd]
  have ff : ∀ i, i < 8 → (i < k ∨ k + 4 ≤ i) → gf i = B i2 i := fun i hi hh => by rw [hgf, upd_ne _ _ (by omega), upd_ne _ _ (by omega), upd_ne _ _ (by omega), upd_ne _ _ (by omega)]; exact hB i hi
  refine w_istore X hx (dq hby d0_101) (z := (v4_6 + (4 : Int32))) rfl (Ls' := #[.val (.int i0), .val (.int i1), .val (.long i2), .second, .val (.int v4_6), .val (.ref b10), .val (.int (v4_6 + (4 : Int32))), .unset]) rfl ?_
  refine w_iload X hx (dq hby d0_103) rfl ?_
  refine w_iload X hx (dq hby d0_105) rfl ?_
  refine w_iconst X hx (dq hby d0_107) (z := 4) rfl ?_
  refine w_iadd X hx (dq hby d0_108) ?_
  refine w_icmp_eq X hx (dj hby d0_109) (fun hc109 => ?_) (fun hc109 => (?_ : False).elim)
  rotate_left
  · exact hc109 rfl
  refine w_aload X hx (dq hby d0_114) rfl rfl ?_
  refine w_iload X hx (dq hby d0_116) rfl ?_
  refine w_baload X hx hZ eT A_b10 (i := k) (hk) (by omega) (z := ((IUshr i0 (24 : Int32)).toInt8.toInt32.toInt8.toInt32)) (f0) (dq hby d0_118) ?_
  refine w_sipush X hx (dq hby d0_119) (z := 255) rfl ?_
  refine w_iand X hx (dq hby d0_122) ?_
  refine w_bipush X hx (dq hby d0_123) (z := 24) rfl ?_
  refine w_ishl X hx (dq hby d0_125) ?_
  refine w_aload X hx (dq hby d0_126) rfl rfl ?_
  refine w_iload X hx (dq hby d0_128) rfl ?_
  refine w_iconst X hx (dq hby d0_130) (z := 1) rfl ?_
  refine w_iadd X hx (dq hby d0_131) ?_
  refine w_baload X hx hZ eT A_b10 (i := (k + 1)) (own_i1) (by omega) (z := ((IUshr i0 (16 : Int32)).toInt8.toInt32.toInt8.toInt32)) (f1) (dq hby d0_132) ?_
  refine w_sipush X hx (dq hby d0_133) (z := 255) rfl ?_
  refine w_iand X hx (dq hby d0_136) ?_
  refine w_bipush X hx (dq hby d0_137) (z := 16) rfl ?_
  refine w_ishl X hx (dq hby d0_139) ?_
  refine w_ior X hx (dq hby d0_140) ?_
  refine w_aload X hx (dq hby d0_141) rfl rfl ?_
  refine w_iload X hx (dq hby d0_143) rfl ?_
  refine w_iconst X hx (dq hby d0_145) (z := 2) rfl ?_
  refine w_iadd X hx (dq hby d0_146) ?_
  refine w_baload X hx hZ eT A_b10 (i := (k + 2)) (own_i2) (by omega) (z := ((IUshr i0 (8 : Int32)).toInt8.toInt32.toInt8.toInt32)) (f2) (dq hby d0_147) ?_
  refine w_sipush X hx (dq hby d0_148) (z := 255) rfl ?_
  refine w_iand X hx (dq hby d0_151) ?_
  refine w_bipush X hx (dq hby d0_152) (z := 8) rfl ?_
  refine w_ishl X hx (dq hby d0_154) ?_
  refine w_ior X hx (dq hby d0_155) ?_
  refine w_aload X hx (dq hby d0_156) rfl rfl ?_
  refine w_iload X hx (dq hby d0_158) rfl ?_
  refine w_iconst X hx (dq hby d0_160) (z := 3) rfl ?_
  refine w_iadd X hx (dq hby d0_161) ?_
  refine w_baload X hx hZ eT A_b10 (i := (k + 3)) (own_i3) (by omega) (z := (i0.toInt8.toInt32.toInt8.toInt32)) (f3) (dq hby d0_162) ?_
  refine w_sipush X hx (dq hby d0_163) (z := 255) rfl ?_
  refine w_iand X hx (dq hby d0_166) ?_
  refine w_ior X hx (dq hby d0_167) ?_
  obtain ⟨v7_168, hv7_168⟩ : ∃ z : Int32, z = ((((IShl (((IUshr i0 (24 : Int32)).toInt8.toInt32.toInt8.toInt32) &&& (255 : Int32)) (24 : Int32)) ||| (IShl (((IUshr i0 (16 : Int32)).toInt8.toInt32.toInt8.toInt32) &&& (255 : Int32)) (16 : Int32))) ||| (IShl (((IUshr i0 (8 : Int32)).toInt8.toInt32.toInt8.toInt32) &&& (255 : Int32)) (8 : Int32))) ||| ((i0.toInt8.toInt32.toInt8.toInt32) &&& (255 : Int32))) := ⟨_, rfl⟩
  refine w_istore X hx (dq hby d0_168) (z := v7_168) hv7_168 (Ls' := #[.val (.int i0), .val (.int i1), .val (.long i2), .second, .val (.int v4_6), .val (.ref b10), .val (.int (v4_6 + (4 : Int32))), .val (.int v7_168)]) rfl ?_
  refine w_iload X hx (dq hby d0_170) rfl ?_
  refine w_iloadN X hx (dq hby d0_172) rfl ?_
  refine w_icmp_eq X hx (dj hby d0_173) (fun hc173 => ?_) (fun hc173 => (?_ : False).elim)
  rotate_left
  · exact hc173 (hv7_168.trans (own_or i0))
  refine w_aload X hx (dq hby d0_178) rfl rfl ?_
  refine w_iconst X hx (dq hby d0_180) (z := 0) rfl ?_
  refine w_iload X hx (dq hby d0_181) rfl ?_
  refine w_lloadN X hx (dq hby d0_183) rfl ?_
  refine w_callSP X hx hZ eT hml (by rfl) hown (hw _ (List.mem_of_getElem? (i := 6) rfl)) (hw _ (List.mem_of_getElem? (i := 7) rfl)) (hw _ (List.mem_of_getElem? (i := 8) rfl)) (hw _ (List.mem_of_getElem? (i := 9) rfl)) (by decide) (ct2 l Z a0 hw b10 (0 : Int32) v4_6 i2 8 0 gf h10 A_b10 rfl (by decide) (by decide) (by omega) (fun hh => ff 0 (by decide) (by have : (0 : Int32).toInt = 0 := rfl; omega))) (dq hby d0_184) pd_1 (argsL := [(.ref b10), (.int (0 : Int32)), (.int v4_6), (.long i2)]) (rest := []) rfl rfl rfl (W := 0) rfl (by decide) (by decide) (by decide) (by decide) fun T X eT => ?_
  refine w_if_eq X hx (dj hby d0_187) (fun hc187 => (?_ : False).elim) (fun hc187 => ?_)
  · exact absurd hc187 (by decide)
  refine w_aload X hx (dq hby d0_190) rfl rfl ?_
  refine w_iconst X hx (dq hby d0_192) (z := 1) rfl ?_
  refine w_iload X hx (dq hby d0_193) rfl ?_
  refine w_lloadN X hx (dq hby d0_195) rfl ?_
  refine w_callSP X hx hZ eT hml (by rfl) hown (hw _ (List.mem_of_getElem? (i := 6) rfl)) (hw _ (List.mem_of_getElem? (i := 7) rfl)) (hw _ (List.mem_of_getElem? (i := 8) rfl)) (hw _ (List.mem_of_getElem? (i := 9) rfl)) (by decide) (ct2 l Z a0 hw b10 (1 : Int32) v4_6 i2 8 1 gf h10 A_b10 rfl (by decide) (by decide) (by omega) (fun hh => ff 1 (by decide) (by have : (1 : Int32).toInt = 1 := rfl; omega))) (dq hby d0_196) pd_1 (argsL := [(.ref b10), (.int (1 : Int32)), (.int v4_6), (.long i2)]) (rest := []) rfl rfl rfl (W := 0) rfl (by decide) (by decide) (by decide) (by decide) fun T X eT => ?_
  refine w_if_eq X hx (dj hby d0_199) (fun hc199 => (?_ : False).elim) (fun hc199 => ?_)
  · exact absurd hc199 (by decide)
  refine w_aload X hx (dq hby d0_202) rfl rfl ?_
  refine w_iconst X hx (dq hby d0_204) (z := 2) rfl ?_
  refine w_iload X hx (dq hby d0_205) rfl ?_
  refine w_lloadN X hx (dq hby d0_207) rfl ?_
  refine w_callSP X hx hZ eT hml (by rfl) hown (hw _ (List.mem_of_getElem? (i := 6) rfl)) (hw _ (List.mem_of_getElem? (i := 7) rfl)) (hw _ (List.mem_of_getElem? (i := 8) rfl)) (hw _ (List.mem_of_getElem? (i := 9) rfl)) (by decide) (ct2 l Z a0 hw b10 (2 : Int32) v4_6 i2 8 2 gf h10 A_b10 rfl (by decide) (by decide) (by omega) (fun hh => ff 2 (by decide) (by have : (2 : Int32).toInt = 2 := rfl; omega))) (dq hby d0_208) pd_1 (argsL := [(.ref b10), (.int (2 : Int32)), (.int v4_6), (.long i2)]) (rest := []) rfl rfl rfl (W := 0) rfl (by decide) (by decide) (by decide) (by decide) fun T X eT => ?_
  refine w_if_eq X hx (dj hby d0_211) (fun hc211 => (?_ : False).elim) (fun hc211 => ?_)
  · exact absurd hc211 (by decide)
  refine w_aload X hx (dq hby d0_214) rfl rfl ?_
  refine w_iconst X hx (dq hby d0_216) (z := 3) rfl ?_
  refine w_iload X hx (dq hby d0_217) rfl ?_
  refine w_lloadN X hx (dq hby d0_219) rfl ?_
  refine w_callSP X hx hZ eT hml (by rfl) hown (hw _ (List.mem_of_getElem? (i := 6) rfl)) (hw _ (List.mem_of_getElem? (i := 7) rfl)) (hw _ (List.mem_of_getElem? (i := 8) rfl)) (hw _ (List.mem_of_getElem? (i := 9) rfl)) (by decide) (ct2 l Z a0 hw b10 (3 : Int32) v4_6 i2 8 3 gf h10 A_b10 rfl (by decide) (by decide) (by omega) (fun hh => ff 3 (by decide) (by have : (3 : Int32).toInt = 3 := rfl; omega))) (dq hby d0_220) pd_1 (argsL := [(.ref b10), (.int (3 : Int32)), (.int v4_6), (.long i2)]) (rest := []) rfl rfl rfl (W := 0) rfl (by decide) (by decide) (by decide) (by decide) fun T X eT => ?_
  refine w_if_eq X hx (dj hby d0_223) (fun hc223 => (?_ : False).elim) (fun hc223 => ?_)
  · exact absurd hc223 (by decide)
  refine w_aload X hx (dq hby d0_226) rfl rfl ?_
  refine w_iconst X hx (dq hby d0_228) (z := 4) rfl ?_
  refine w_iload X hx (dq hby d0_229) rfl ?_
  refine w_lloadN X hx (dq hby d0_231) rfl ?_
  refine w_callSP X hx hZ eT hml (by rfl) hown (hw _ (List.mem_of_getElem? (i := 6) rfl)) (hw _ (List.mem_of_getElem? (i := 7) rfl)) (hw _ (List.mem_of_getElem? (i := 8) rfl)) (hw _ (List.mem_of_getElem? (i := 9) rfl)) (by decide) (ct2 l Z a0 hw b10 (4 : Int32) v4_6 i2 8 4 gf h10 A_b10 rfl (by decide) (by decide) (by omega) (fun hh => ff 4 (by decide) (by have : (4 : Int32).toInt = 4 := rfl; omega))) (dq hby d0_232) pd_1 (argsL := [(.ref b10), (.int (4 : Int32)), (.int v4_6), (.long i2)]) (rest := []) rfl rfl rfl (W := 0) rfl (by decide) (by decide) (by decide) (by decide) fun T X eT => ?_
  refine w_if_eq X hx (dj hby d0_235) (fun hc235 => (?_ : False).elim) (fun hc235 => ?_)
  · exact absurd hc235 (by decide)
  refine w_aload X hx (dq hby d0_238) rfl rfl ?_
  refine w_iconst X hx (dq hby d0_240) (z := 5) rfl ?_
  refine w_iload X hx (dq hby d0_241) rfl ?_
  refine w_lloadN X hx (dq hby d0_243) rfl ?_
  refine w_callSP X hx hZ eT hml (by rfl) hown (hw _ (List.mem_of_getElem? (i := 6) rfl)) (hw _ (List.mem_of_getElem? (i := 7) rfl)) (hw _ (List.mem_of_getElem? (i := 8) rfl)) (hw _ (List.mem_of_getElem? (i := 9) rfl)) (by decide) (ct2 l Z a0 hw b10 (5 : Int32) v4_6 i2 8 5 gf h10 A_b10 rfl (by decide) (by decide) (by omega) (fun hh => ff 5 (by decide) (by have : (5 : Int32).toInt = 5 := rfl; omega))) (dq hby d0_244) pd_1 (argsL := [(.ref b10), (.int (5 : Int32)), (.int v4_6), (.long i2)]) (rest := []) rfl rfl rfl (W := 0) rfl (by decide) (by decide) (by decide) (by decide) fun T X eT => ?_
  refine w_if_eq X hx (dj hby d0_247) (fun hc247 => (?_ : False).elim) (fun hc247 => ?_)
  · exact absurd hc247 (by decide)
  refine w_aload X hx (dq hby d0_250) rfl rfl ?_
  refine w_bipush X hx (dq hby d0_252) (z := 6) rfl ?_
  refine w_iload X hx (dq hby d0_254) rfl ?_
  refine w_lloadN X hx (dq hby d0_256) rfl ?_
  refine w_callSP X hx hZ eT hml (by rfl) hown (hw _ (List.mem_of_getElem? (i := 6) rfl)) (hw _ (List.mem_of_getElem? (i := 7) rfl)) (hw _ (List.mem_of_getElem? (i := 8) rfl)) (hw _ (List.mem_of_getElem? (i := 9) rfl)) (by decide) (ct2 l Z a0 hw b10 (6 : Int32) v4_6 i2 8 6 gf h10 A_b10 rfl (by decide) (by decide) (by omega) (fun hh => ff 6 (by decide) (by have : (6 : Int32).toInt = 6 := rfl; omega))) (dq hby d0_257) pd_1 (argsL := [(.ref b10), (.int (6 : Int32)), (.int v4_6), (.long i2)]) (rest := []) rfl rfl rfl (W := 0) rfl (by decide) (by decide) (by decide) (by decide) fun T X eT => ?_
  refine w_if_eq X hx (dj hby d0_260) (fun hc260 => (?_ : False).elim) (fun hc260 => ?_)
  · exact absurd hc260 (by decide)
  refine w_aload X hx (dq hby d0_263) rfl rfl ?_
  refine w_bipush X hx (dq hby d0_265) (z := 7) rfl ?_
  refine w_iload X hx (dq hby d0_267) rfl ?_
  refine w_lloadN X hx (dq hby d0_269) rfl ?_
  refine w_callSP X hx hZ eT hml (by rfl) hown (hw _ (List.mem_of_getElem? (i := 6) rfl)) (hw _ (List.mem_of_getElem? (i := 7) rfl)) (hw _ (List.mem_of_getElem? (i := 8) rfl)) (hw _ (List.mem_of_getElem? (i := 9) rfl)) (by decide) (ct2 l Z a0 hw b10 (7 : Int32) v4_6 i2 8 7 gf h10 A_b10 rfl (by decide) (by decide) (by omega) (fun hh => ff 7 (by decide) (by have : (7 : Int32).toInt = 7 := rfl; omega))) (dq hby d0_270) pd_1 (argsL := [(.ref b10), (.int (7 : Int32)), (.int v4_6), (.long i2)]) (rest := []) rfl rfl rfl (W := 0) rfl (by decide) (by decide) (by decide) (by decide) fun T X eT => ?_
  refine w_if_eq X hx (dj hby d0_273) (fun hc273 => (?_ : False).elim) (fun hc273 => ?_)
  · exact absurd hc273 (by decide)
  refine w_iconst X hx (dq hby d0_276) (z := 1) rfl ?_
  refine w_goto X hx (dj hby d0_277) ?_
  refine w_retN X hx hret (by simp) hlk (dq hby d0_281) (by decide) (by decide) ?_
  exact ⟨by simp [nar], N⟩
set_option maxRecDepth 65536 in
set_option maxHeartbeats 40000000 in
theorem comes_1 {Post : Tables → Env → Array Value → State → Outcome → State → Prop} (hpost : ∀ tb e args s v u, (limb_1_1.after args s (.returned v) u = true ∧ limb_1_2.after args s (.returned v) u = true) → FrameEnd s (.returned v) u (Jvm.fieldLocs frame_1_writes args s ++ Jvm.arrayLocs frame_1_arrays args s ++ Jvm.staticLocs frame_1_statics s) 16 128 → Post tb e args s (.returned v) u) :
    ArmFor flags0 classFile x code maxLocals ret World_1 tables_1 room_1 Calls_1 rest_1 Pre_1 Post := by
  intro l hfl _ _ p e ha hc hk s m args below hf hA hF happ hP
  obtain ⟨hcalls, hrest, hpre⟩ := hP
  obtain ⟨-, -, -, hnamed, -, -, -, hat⟩ := (Spec.applies_iff hf).mp happ
  obtain ⟨hg, hn⟩ := and_e (Cond.before_iff.mp (show (Jvm.Cond.and given_1 narrow_1).before args s = true from hpre))
  obtain ⟨g0, k0⟩ := and_e hg
  obtain ⟨g1, k1⟩ := and_e k0
  obtain ⟨g2, k2⟩ := and_e k1
  obtain ⟨w0, w1, w2, rfl⟩ : ∃ w0 w1 w2 : Value, args = #[w0, w1, w2] := by
    have hs : args.size = 3 := by simpa [Cond.value, given_1] using g0
    obtain ⟨L⟩ := args
    match L, hs with
    | [w0, w1, w2], _ => exact ⟨w0, w1, w2, rfl⟩
  have hw := fun d (hd : d ∈ tables_1) => atoms_spec (ws := Jvm.Cond.code x code maxLocals ret :: tables_1) hat d (List.mem_cons_of_mem _ hd)
  obtain ⟨i0, ei0⟩ := is_v g1
  obtain rfl : w0 = (.int i0) := Option.some.inj ei0
  obtain ⟨i1, ei1⟩ := is_v g2
  obtain rfl : w1 = (.int i1) := Option.some.inj ei1
  obtain ⟨i2, ei2⟩ := isL_v k2
  obtain rfl : w2 = (.long i2) := Option.some.inj ei2
  obtain ⟨n, o, h1, h2, h3, _, L, rfl, ⟨rfl, N⟩, hq⟩ := rm0 l s _ hw tables_1 i0 i1 i2 s.heap s.heap.size (Nat.le_refl _) p e ha hc hk s m _ below hf ((Spec.applies_iff_loose hf).mp happ).1 ⟨rfl, State.Warmed39.refl s, rfl⟩ trivial
  exact ⟨n, _, h1, h2, h3, hpost _ _ _ _ _ _ ⟨Cond.after_iff.mpr rfl, Cond.after_iff.mpr (eq_i res_at (Term.int_eval (1)) rfl)⟩ ⟨hq.1, hq.2.1, hq.2.2.sift fun y hy => Or.inr (N y hy)⟩⟩
theorem main_1_1 : Claimed_1_1 := comes_1 fun _ _ _ _ _ _ h hF => ⟨h.1, hF⟩
theorem main_1_2 : Claimed_1_2 := comes_1 fun _ _ _ _ _ _ h hF => ⟨h.2, hF⟩

end Jvm.Pilot.@@N@@
namespace Jvm.Pilot.@@N@@
open Jvm Jvm.ClassFile Sem Op Lib Jvm.Free Jvm.Stand Jvm.Pilot.@@N@@.Jvm.D
/-! MADE BY PROGRAM (witnessworld.py) out of the Statement's table words and the real class files: 9 classes; the members and pool entries that the words name. The judged class is class 1, her method 1. -/
namespace start1
open Jvm.ClassFile
def u (s : String) : CpInfo := .utf8 (stringToUtf16 s)
/-- a pool by its gaps: so many unusable entries, then the entry; so many at the end -/
def gap : Nat → List CpInfo → List CpInfo
  | 0, r => r
  | n + 1, r => .unusable :: gap n r
def poolList (es : List (Nat × CpInfo)) (last : Nat) : List CpInfo := es.foldr (fun e r => gap e.1 (e.2 :: r)) (gap last [])
def pool (es : List (Nat × CpInfo)) (last : Nat) : Array CpInfo := ⟨poolList es last⟩
def fileOf (pool : Array CpInfo) (this : Nat) (attrs : Array Attribute := #[]) (ms : Array MethodInfo := #[]) (fl : Nat := 33) (sup : Nat := 0) (ifs : Array Nat := #[]) (fds : Array FieldInfo := #[]) : ClassFile where
  minorVersion := 0
  majorVersion := 65
  constantPool := pool
  accessFlags := fl
  thisClass := this
  superClass := sup
  interfaces := ifs
  fields := fds
  methods := ms
  attributes := attrs
def plain (name : String) (sup : Option ClassId) : Class where
  name := name
  kind := .ordinary
  loader := none
  accessFlags := 33
  super := sup
  interfaces := #[]
  cf := none
  fields := #[]
  methods := #[]
  instanceTypes := #[]
  staticTypes := #[]
  resolved := #[]
  callSites := []
  init := .initialized
  statics := none
  mirror := none

def pool0 : Array CpInfo := pool [(5, u "<init>"), (0, u "()V"), (1, .class_ 10), (1, u "java/lang/Object")] 113

def k0m0 : Method := { name := "<init>", desc := "()V", sig := { parameters := [], returnType := none }, accessFlags := 1, code := none }
/-- java/lang/Object -/
def k0 : Class := { plain "java/lang/Object" none with
  accessFlags := 33
  interfaces := #[]
  cf := some (fileOf pool0 8 #[] #[{ accessFlags := 1, nameIndex := 5, descriptorIndex := 6, attributes := #[] }] 33 0 #[] #[])
  fields := #[]
  methods := #[k0m0]
  instanceTypes := #[]
  staticTypes := #[]
  resolved := Array.replicate 124 none
  statics := none }

def pool1 : Array CpInfo := pool [(2, .class_ 4), (1, u "java/lang/Object"), (0, u "<init>"), (0, u "()V"), (0, .integer 2147483647), (0, .methodref 9 10), (0, .class_ 11), (0, .nameAndType 12 13), (0, u "com/example/vestigio/vestigio/store/BigEndian"), (0, u "putInt"), (0, u "([BII)I"), (0, .methodref 15 16), (0, .class_ 17), (0, .nameAndType 18 19), (0, u "com/example/vestigio/vestigio/store/BigEndianPutIntPinLaw"), (0, u "kept"), (0, u "([BIIJ)Z"), (2, u "law"), (0, u "(IIJ)Z")] 5

def k1m0 : Method := { name := "<init>", desc := "()V", sig := { parameters := [], returnType := none }, accessFlags := 2, code := none }
def k1c1 : Code := { maxStack := 5, maxLocals := 8, code := code, exceptionTable := #[], attributes := #[] }
def k1m1 : Method := { name := "law", desc := "(IIJ)Z", sig := { parameters := [.int, .int, .long], returnType := some .boolean }, accessFlags := 9, code := some k1c1 }
def k1c2 : Code := { maxStack := 5, maxLocals := 5, code := method_3_code, exceptionTable := #[], attributes := #[] }
def k1m2 : Method := { name := "kept", desc := "([BIIJ)Z", sig := { parameters := [(.array .byte), .int, .int, .long], returnType := some .boolean }, accessFlags := 10, code := some k1c2 }
/-- com/example/vestigio/vestigio/store/BigEndianPutIntPinLaw -/
def k1 : Class := { plain "com/example/vestigio/vestigio/store/BigEndianPutIntPinLaw" (some 0) with
  accessFlags := 49
  interfaces := #[]
  cf := some (fileOf pool1 15 #[] #[{ accessFlags := 2, nameIndex := 5, descriptorIndex := 6, attributes := #[] }, { accessFlags := 9, nameIndex := 22, descriptorIndex := 23, attributes := #[] }, { accessFlags := 10, nameIndex := 18, descriptorIndex := 19, attributes := #[] }] 49 2 #[] #[])
  fields := #[]
  methods := #[k1m0, k1m1, k1m2]
  instanceTypes := #[]
  staticTypes := #[]
  resolved := Array.replicate 29 none
  statics := none }

def pool2 : Array CpInfo := pool [(2, .class_ 4), (1, u "java/lang/Object"), (0, u "<init>"), (0, u "()V"), (1, .class_ 10), (1, u "com/example/vestigio/vestigio/store/BigEndian"), (0, u "putInt"), (0, u "([BII)I")] 15

def k2m0 : Method := { name := "<init>", desc := "()V", sig := { parameters := [], returnType := none }, accessFlags := 2, code := none }
def k2c1 : Code := { maxStack := 4, maxLocals := 3, code := prog_43_method_3_code, exceptionTable := #[], attributes := #[] }
def k2m1 : Method := { name := "putInt", desc := "([BII)I", sig := { parameters := [(.array .byte), .int, .int], returnType := some .int }, accessFlags := 8, code := some k2c1 }
/-- com/example/vestigio/vestigio/store/BigEndian -/
def k2 : Class := { plain "com/example/vestigio/vestigio/store/BigEndian" (some 0) with
  accessFlags := 48
  interfaces := #[]
  cf := some (fileOf pool2 8 #[] #[{ accessFlags := 2, nameIndex := 5, descriptorIndex := 6, attributes := #[] }, { accessFlags := 8, nameIndex := 11, descriptorIndex := 12, attributes := #[] }] 48 2 #[] #[])
  fields := #[]
  methods := #[k2m0, k2m1]
  instanceTypes := #[]
  staticTypes := #[]
  resolved := Array.replicate 28 none
  statics := none }

def pool3 : Array CpInfo := pool [(1, u "java/lang/Cloneable"), (0, .class_ 1), (0, u "java/lang/Object"), (0, .class_ 3)] 3

/-- java/lang/Cloneable -/
def k3 : Class := { plain "java/lang/Cloneable" (some 0) with
  accessFlags := 1537
  interfaces := #[]
  cf := some (fileOf pool3 2 #[] #[] 1537 4 #[] #[])
  fields := #[]
  methods := #[]
  instanceTypes := #[]
  staticTypes := #[]
  resolved := Array.replicate 8 none
  statics := none }

def pool4 : Array CpInfo := pool [(1, u "java/io/Serializable"), (0, .class_ 1), (0, u "java/lang/Object"), (0, .class_ 3)] 3

/-- java/io/Serializable -/
def k4 : Class := { plain "java/io/Serializable" (some 0) with
  accessFlags := 1537
  interfaces := #[]
  cf := some (fileOf pool4 2 #[] #[] 1537 4 #[] #[])
  fields := #[]
  methods := #[]
  instanceTypes := #[]
  staticTypes := #[]
  resolved := Array.replicate 8 none
  statics := none }

/-- the primitive byte -/
def k5 : Class := { plain "byte" none with kind := .primitive 'B', accessFlags := 0x411 }
/-- [B -/
def k6 : Class := { plain "[B" (some 0) with kind := .array 5 .byte, interfaces := #[3, 4], accessFlags := 1041 }

/-- the primitive int -/
def k7 : Class := { plain "int" none with kind := .primitive 'I', accessFlags := 0x411 }
/-- [I -/
def k8 : Class := { plain "[I" (some 0) with kind := .array 7 .int, interfaces := #[3, 4], accessFlags := 1041 }

def heap : Heap := #[]
def classes : Array Class := #[k0, k1, k2, k3, k4, k5, k6, k7, k8]
def interned : List (Array UInt16 × Addr) := []
def slotsUsed : Nat := 0
def theMethod : MethodId := ⟨1, 1⟩
def args0 : Array Value := #[.int 5, .int 7, .long 1]
def aboutOver (below : List Frame) : State where
  vm := { classes := classes, interned := interned.toArray }
  heap := heap
  slotsUsed := slotsUsed
  threads := #[{ frames := .invoking theMethod args0 :: below }]
def below0 : List Frame := [.native { method := ⟨0, 0⟩, args := #[] }]
def about1 : State := aboutOver below0
def p0 : Program := .bare "" "" ""
def e0 : Env := launch0.env 0 0 0
theorem w_frames : about1.frames = Frame.invoking theMethod args0 :: below0 := rfl
set_option maxRecDepth 65536 in
theorem w_args : argsFit about1.vm theMethod args0 = true := by decide +kernel
set_option maxRecDepth 65536 in
theorem w_heap : heapFits about1 = true := by decide +kernel
set_option maxRecDepth 65536 in
theorem w_runnable : about1.curStatus? = some .runnable := by decide +kernel
set_option maxRecDepth 65536 in
theorem w_alone : about1.alone = true := by decide +kernel
set_option maxRecDepth 65536 in
theorem w_named : about1.methodNamed? x = some theMethod := by decide +kernel
set_option maxRecDepth 65536 in
theorem w_hears : about1.hears theMethod below0 = true := by decide +kernel
set_option maxRecDepth 65536 in
theorem w_ripe : about1.ripe theMethod args0 below0 = true := by decide +kernel
theorem w_running : about1.status = .running := rfl
set_option maxRecDepth 65536 in
theorem w_room : about1.hasRoom e0.platform room_1 = true :=
  launch0.hasRoom_least _ room_1 (by decide +kernel) (by decide +kernel) (by decide +kernel) (by decide +kernel) (by decide +kernel) (by decide +kernel)
theorem allAtoms_all (ts : List Jvm.Cond) (a : Array Jvm.Value) (st : Jvm.State) : (allAtoms ts).before a st = ts.all (fun c => c.before a st) := by
  induction ts with
  | nil => rfl
  | cons c t ih =>
    show (Jvm.Cond.and c (allAtoms t)).before a st = _
    rw [Jvm.Cond.before_and, ih, List.all_cons]
def words1 : List Jvm.Cond := Jvm.Cond.code x code maxLocals ret :: tables_1
/-- a 'code' word, met by the world's own term for the bytes: nothing is compared byte by byte -/
theorem code_word {y : MethodName} {bytes : ByteArray} {mx : Nat} {rt : Option FieldType} {a : Array Value} {s : State} {m : MethodId} {meth : Method} {c : Code} (h1 : s.methodNamed? y = some m) (h2 : s.vm.method? m = some meth) (h3 : meth.code = some c) (h4 : c.code = bytes)
    (h5 : (c.maxLocals == mx && c.exceptionTable.isEmpty && decide (c.maxStack ≤ mostOperands) && decide (meth.sig.returnType = rt) && !meth.locks && decide (parseMethodDescriptor y.desc = some meth.sig)) = true) : (Jvm.Cond.code y bytes mx rt).before a s = true := by
  simp only [Bool.and_eq_true, beq_iff_eq, Bool.not_eq_true', decide_eq_true_eq] at h5
  obtain ⟨⟨⟨⟨⟨g1, g2⟩, g3⟩, g4⟩, g5⟩, g6⟩ := h5
  simp [Cond.before, Cond.holds, Cond.value, h1, h2, h3, h4, g1, g2, g3, g4, g5, g6]
def isCode : Jvm.Cond → Bool
  | .code _ _ _ _ => true
  | _ => false
theorem all_split {L : List Jvm.Cond} {P : Jvm.Cond → Bool} (h1 : L.all (fun c => isCode c || P c) = true) (h2 : ∀ c ∈ L.filter isCode, P c = true) : L.all P = true := by
  refine List.all_eq_true.mpr fun c hc => ?_
  have h := List.all_eq_true.mp h1 c hc
  rcases Bool.eq_false_or_eq_true (isCode c) with hi | hi
  · exact h2 c (List.mem_filter.mpr ⟨hc, hi⟩)
  · simpa [hi] using h
set_option maxRecDepth 65536 in
theorem w_c0 : (Jvm.Cond.code x code maxLocals ret).before args0 about1 = true := code_word (m := ⟨1, 1⟩) (meth := k1m1) (c := k1c1) (by decide +kernel) rfl rfl rfl (by decide +kernel)
set_option maxRecDepth 65536 in
theorem w_c1 : (Jvm.Cond.code ({ cls := "com/example/vestigio/vestigio/store/BigEndian", name := "putInt", desc := "([BII)I" } : Jvm.MethodName) prog_43_method_3_code (3 : Nat) (Option.some Jvm.ClassFile.FieldType.int)).before args0 about1 = true := code_word (m := ⟨2, 1⟩) (meth := k2m1) (c := k2c1) (by decide +kernel) rfl rfl rfl (by decide +kernel)
set_option maxRecDepth 65536 in
theorem w_c2 : (Jvm.Cond.code ({ cls := "com/example/vestigio/vestigio/store/BigEndianPutIntPinLaw", name := "kept", desc := "([BIIJ)Z" } : Jvm.MethodName) method_3_code (5 : Nat) (Option.some Jvm.ClassFile.FieldType.boolean)).before args0 about1 = true := code_word (m := ⟨1, 2⟩) (meth := k1m2) (c := k1c2) (by decide +kernel) rfl rfl rfl (by decide +kernel)
def codes1 : List Jvm.Cond := [Jvm.Cond.code x code maxLocals ret, Jvm.Cond.code ({ cls := "com/example/vestigio/vestigio/store/BigEndian", name := "putInt", desc := "([BII)I" } : Jvm.MethodName) prog_43_method_3_code (3 : Nat) (Option.some Jvm.ClassFile.FieldType.int), Jvm.Cond.code ({ cls := "com/example/vestigio/vestigio/store/BigEndianPutIntPinLaw", name := "kept", desc := "([BIIJ)Z" } : Jvm.MethodName) method_3_code (5 : Nat) (Option.some Jvm.ClassFile.FieldType.boolean)]
set_option maxRecDepth 65536 in
theorem codes_eq : words1.filter isCode = codes1 := rfl
theorem w_codes : ∀ c ∈ words1.filter isCode, c.before args0 about1 = true := by
  rw [codes_eq]
  intro c hc
  simp only [codes1, List.mem_cons, List.not_mem_nil, or_false] at hc
  rcases hc with rfl | rfl | rfl
  · exact w_c0
  · exact w_c1
  · exact w_c2
set_option maxRecDepth 65536 in
theorem w_t1 : words1.all (fun c => isCode c || c.before args0 about1) = true := by decide +kernel
theorem w_tables : (allAtoms (Jvm.Cond.code x code maxLocals ret :: tables_1)).before args0 about1 = true := by
  rw [allAtoms_all]
  show words1.all (fun c => c.before args0 about1) = true
  refine all_split ?_ w_codes
  rw [w_t1]
set_option maxRecDepth 65536 in
theorem w_case : (Jvm.Cond.and given_1 narrow_1).before args0 about1 = true := by decide +kernel
theorem w_applies : (headSpec (Jvm.Cond.code x code maxLocals ret :: tables_1) room_1).applies x e0.platform about1 = true :=
  (Spec.applies_iff w_frames).mpr ⟨w_running, w_runnable, w_alone, w_named, w_hears, w_ripe, w_room, w_tables⟩
theorem atStart : AtStart classFile x code maxLocals ret World_1 tables_1 room_1 Calls_1 rest_1 Pre_1 launch0 p0 e0 about1 theMethod args0 below0 :=
  ⟨lists_1, trivial, launch0.admits_env _ _ _, launch0.least_env, fairChoices_fair.cas, fairChoices_fair.clock, w_frames, w_args, w_heap, w_applies, trivial, trivial, w_case⟩
end start1
theorem witness_1 : WitnessClaimed_1 := ⟨start1.p0, start1.e0, start1.about1, start1.theMethod, start1.args0, start1.below0, start1.atStart⟩
end Jvm.Pilot.@@N@@
