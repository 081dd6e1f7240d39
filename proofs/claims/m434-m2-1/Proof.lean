import JvmDerived
import JvmDerived.Pilot.@@N@@Statement
import JvmDerived.Pilot.@@N@@Code
set_option linter.unusedVariables false
set_option linter.unusedSimpArgs false
@@BLOCK:NumsL.lean.txt@@
namespace Jvm.Pilot.@@N@@
open Jvm Jvm.ClassFile Sem Op Lib Jvm.Free Jvm.Stand Jvm.LawKit Jvm.RoadKit Bundle Jvm.Pilot.@@N@@.Jvm.D
section Kit
variable {p : Program} {l : Launch} {e : Env} {R : Room} {s : State} {m : MethodId} {args : Array Value} {below : List Frame} {meth : Method} {c : Code} {T : State} {locs : List Loc} {cells slots : Nat} {Z : State} {a0 : Array Value} {h : Heap}
variable {Q : Option Value → Heap → List Loc → Prop} {C S : Nat} {pc pc' : Nat} {Ls Ls' : Array Slot} {rest : List Value}
/-- the goal of a walk: from the state σ the run comes to its end, which is as Q says -/
def Go (p : Program) (e : Env) (below : List Frame) (s : State) (Q : Option Value → Heap → List Loc → Prop) (C S : Nat) (σ : State) : Prop :=
  ∃ s₂ o, Steps p.tables e below σ s₂ ∧ s₂.status = .running ∧ Ended s₂ below o ∧ ∃ v L, o = .returned v ∧ Q v s₂.heap L ∧ FrameEnd s o s₂ L C S
theorem Go.step {σ τ : State} (st : ∀ t, Steps p.tables e below τ t → Steps p.tables e below σ t) (k : Go p e below s Q C S τ) : Go p e below s Q C S σ := by
  obtain ⟨s₂, o, h1, h2⟩ := k
  exact ⟨s₂, o, st _ h1, h2⟩
theorem Go.mono {Q' : Option Value → Heap → List Loc → Prop} {σ : State} (k : Go p e below s Q C S σ) (hq : ∀ v h L, Q v h L → Q' v h L) : Go p e below s Q' C S σ := by
  obtain ⟨s₂, o, h1, h2, h3, v, L, h4, h5, h6⟩ := k
  exact ⟨s₂, o, h1, h2, h3, v, L, h4, hq _ _ _ h5, h6⟩
/-- a join: the road behind it is walked once -/
theorem w_j1 {A0 : Type} {σ : State} (F : A0 → State) (P : A0 → Prop) (hJ : ∀ a0, P a0 → Go p e below s Q C S (F a0)) (hB : (∀ a0, P a0 → Go p e below s Q C S (F a0)) → Go p e below s Q C S σ) : Go p e below s Q C S σ := hB hJ
theorem w_j2 {A0 A1 : Type} {σ : State} (F : A0 → A1 → State) (P : A0 → A1 → Prop) (hJ : ∀ a0 a1, P a0 a1 → Go p e below s Q C S (F a0 a1)) (hB : (∀ a0 a1, P a0 a1 → Go p e below s Q C S (F a0 a1)) → Go p e below s Q C S σ) : Go p e below s Q C S σ := hB hJ
theorem w_j3 {A0 A1 A2 : Type} {σ : State} (F : A0 → A1 → A2 → State) (P : A0 → A1 → A2 → Prop) (hJ : ∀ a0 a1 a2, P a0 a1 a2 → Go p e below s Q C S (F a0 a1 a2)) (hB : (∀ a0 a1 a2, P a0 a1 a2 → Go p e below s Q C S (F a0 a1 a2)) → Go p e below s Q C S σ) : Go p e below s Q C S σ := hB hJ
theorem w_j4 {A0 A1 A2 A3 : Type} {σ : State} (F : A0 → A1 → A2 → A3 → State) (P : A0 → A1 → A2 → A3 → Prop) (hJ : ∀ a0 a1 a2 a3, P a0 a1 a2 a3 → Go p e below s Q C S (F a0 a1 a2 a3)) (hB : (∀ a0 a1 a2 a3, P a0 a1 a2 a3 → Go p e below s Q C S (F a0 a1 a2 a3)) → Go p e below s Q C S σ) : Go p e below s Q C S σ := hB hJ
theorem w_j5 {A0 A1 A2 A3 A4 : Type} {σ : State} (F : A0 → A1 → A2 → A3 → A4 → State) (P : A0 → A1 → A2 → A3 → A4 → Prop) (hJ : ∀ a0 a1 a2 a3 a4, P a0 a1 a2 a3 a4 → Go p e below s Q C S (F a0 a1 a2 a3 a4)) (hB : (∀ a0 a1 a2 a3 a4, P a0 a1 a2 a3 a4 → Go p e below s Q C S (F a0 a1 a2 a3 a4)) → Go p e below s Q C S σ) : Go p e below s Q C S σ := hB hJ
theorem w_j6 {A0 A1 A2 A3 A4 A5 : Type} {σ : State} (F : A0 → A1 → A2 → A3 → A4 → A5 → State) (P : A0 → A1 → A2 → A3 → A4 → A5 → Prop) (hJ : ∀ a0 a1 a2 a3 a4 a5, P a0 a1 a2 a3 a4 a5 → Go p e below s Q C S (F a0 a1 a2 a3 a4 a5)) (hB : (∀ a0 a1 a2 a3 a4 a5, P a0 a1 a2 a3 a4 a5 → Go p e below s Q C S (F a0 a1 a2 a3 a4 a5)) → Go p e below s Q C S σ) : Go p e below s Q C S σ := hB hJ
theorem w_j7 {A0 A1 A2 A3 A4 A5 A6 : Type} {σ : State} (F : A0 → A1 → A2 → A3 → A4 → A5 → A6 → State) (P : A0 → A1 → A2 → A3 → A4 → A5 → A6 → Prop) (hJ : ∀ a0 a1 a2 a3 a4 a5 a6, P a0 a1 a2 a3 a4 a5 a6 → Go p e below s Q C S (F a0 a1 a2 a3 a4 a5 a6)) (hB : (∀ a0 a1 a2 a3 a4 a5 a6, P a0 a1 a2 a3 a4 a5 a6 → Go p e below s Q C S (F a0 a1 a2 a3 a4 a5 a6)) → Go p e below s Q C S σ) : Go p e below s Q C S σ := hB hJ
theorem w_eqI {x z : Int32} (hz : x = z) (k : Go p e below s Q C S (T.setTop (mkF m pc Ls (.int z :: rest)))) : Go p e below s Q C S (T.setTop (mkF m pc Ls (.int x :: rest))) := hz ▸ k
theorem w_eqJ {x z : Int64} (hz : x = z) (k : Go p e below s Q C S (T.setTop (mkF m pc Ls (.long z :: rest)))) : Go p e below s Q C S (T.setTop (mkF m pc Ls (.long x :: rest))) := hz ▸ k
def Dc (code : ByteArray) (pc : Nat) (i : Instr) (n pc' : Nat) : Prop := decode code pc = .ok (i, n) ∧ pc + n = pc'
def Dj (code : ByteArray) (pc : Nat) (i : Instr) (o : Int) (pcT pcF : Nat) : Prop := decode code pc = .ok (i, 3) ∧ 0 ≤ (pc : Int) + o ∧ ((pc : Int) + o).toNat = pcT ∧ pc + 3 = pcF
theorem dq {code : ByteArray} {i : Instr} {n : Nat} (hq : c.code = code) (d : Dc code pc i n pc') : Dc c.code pc i n pc' := hq ▸ d
theorem dj {code : ByteArray} {i : Instr} {o : Int} {pcT pcF : Nat} (hq : c.code = code) (d : Dj code pc i o pcT pcF) : Dj c.code pc i o pcT pcF := hq ▸ d
abbrev St (p : Program) (l : Launch) (e : Env) (R : Room) (s : State) (m : MethodId) (args : Array Value) (below : List Frame) (meth : Method) (c : Code) (T : State) (locs : List Loc) (cells slots : Nat) : Prop := Stand p l e R s m args below meth c T locs cells slots
/-! loads, stores, constants -/
theorem w_iload (X : Stand p l e R s m args below meth c T locs cells slots) (hx : p.tables.exec = Jvm.exec) {n : Nat} {z : Int32} (hd : Dc c.code pc (.iload n) 2 pc') (hl : Ls[n]? = some (.val (.int z))) (k : Go p e below s Q C S (T.setTop (mkF m pc' Ls (.int z :: rest)))) : Go p e below s Q C S (T.setTop (mkF m pc Ls (rest))) := by
  obtain ⟨hd, rfl⟩ := hd; exact k.step fun _ t => XS.iload X.here hx rfl hd hl t
theorem w_iloadN (X : Stand p l e R s m args below meth c T locs cells slots) (hx : p.tables.exec = Jvm.exec) {n : Fin 4} {z : Int32} (hd : Dc c.code pc (.iload_n n) 1 pc') (hl : Ls[n.val]? = some (.val (.int z))) (k : Go p e below s Q C S (T.setTop (mkF m pc' Ls (.int z :: rest)))) : Go p e below s Q C S (T.setTop (mkF m pc Ls (rest))) := by
  obtain ⟨hd, rfl⟩ := hd; exact k.step fun _ t => XS.iloadN X.here hx rfl hd hl t
theorem w_istore (X : Stand p l e R s m args below meth c T locs cells slots) (hx : p.tables.exec = Jvm.exec) {n : Nat} {x z : Int32} (hd : Dc c.code pc (.istore n) 2 pc') (hz : z = x) (hs : storeLocals Ls n (.int z) = some Ls') (k : Go p e below s Q C S (T.setTop (mkF m pc' Ls' (rest)))) : Go p e below s Q C S (T.setTop (mkF m pc Ls (.int x :: rest))) := by
  obtain ⟨hd, rfl⟩ := hd; subst hz; exact k.step fun _ t => XS.istore X.here hx rfl hd rfl hs t
theorem w_istoreN (X : Stand p l e R s m args below meth c T locs cells slots) (hx : p.tables.exec = Jvm.exec) {n : Fin 4} {x z : Int32} (hd : Dc c.code pc (.istore_n n) 1 pc') (hz : z = x) (hs : storeLocals Ls n.val (.int z) = some Ls') (k : Go p e below s Q C S (T.setTop (mkF m pc' Ls' (rest)))) : Go p e below s Q C S (T.setTop (mkF m pc Ls (.int x :: rest))) := by
  obtain ⟨hd, rfl⟩ := hd; subst hz; exact k.step fun _ t => XS.istoreN X.here hx rfl hd rfl hs t
theorem w_lload (X : Stand p l e R s m args below meth c T locs cells slots) (hx : p.tables.exec = Jvm.exec) {n : Nat} {z : Int64} (hd : Dc c.code pc (.lload n) 2 pc') (hl : Ls[n]? = some (.val (.long z))) (k : Go p e below s Q C S (T.setTop (mkF m pc' Ls (.long z :: rest)))) : Go p e below s Q C S (T.setTop (mkF m pc Ls (rest))) := by
  obtain ⟨hd, rfl⟩ := hd; exact k.step fun _ t => XS.lload X.here hx rfl hd hl t
theorem w_lloadN (X : Stand p l e R s m args below meth c T locs cells slots) (hx : p.tables.exec = Jvm.exec) {n : Fin 4} {z : Int64} (hd : Dc c.code pc (.lload_n n) 1 pc') (hl : Ls[n.val]? = some (.val (.long z))) (k : Go p e below s Q C S (T.setTop (mkF m pc' Ls (.long z :: rest)))) : Go p e below s Q C S (T.setTop (mkF m pc Ls (rest))) := by
  obtain ⟨hd, rfl⟩ := hd; exact k.step fun _ t => XS.lloadN X.here hx rfl hd hl t
theorem w_lstore (X : Stand p l e R s m args below meth c T locs cells slots) (hx : p.tables.exec = Jvm.exec) {n : Nat} {x z : Int64} (hd : Dc c.code pc (.lstore n) 2 pc') (hz : z = x) (hs : storeLocals Ls n (.long z) = some Ls') (k : Go p e below s Q C S (T.setTop (mkF m pc' Ls' (rest)))) : Go p e below s Q C S (T.setTop (mkF m pc Ls (.long x :: rest))) := by
  obtain ⟨hd, rfl⟩ := hd; subst hz; exact k.step fun _ t => XS.lstore X.here hx rfl hd rfl hs t
theorem w_lstoreN (X : Stand p l e R s m args below meth c T locs cells slots) (hx : p.tables.exec = Jvm.exec) {n : Fin 4} {x z : Int64} (hd : Dc c.code pc (.lstore_n n) 1 pc') (hz : z = x) (hs : storeLocals Ls n.val (.long z) = some Ls') (k : Go p e below s Q C S (T.setTop (mkF m pc' Ls' (rest)))) : Go p e below s Q C S (T.setTop (mkF m pc Ls (.long x :: rest))) := by
  obtain ⟨hd, rfl⟩ := hd; subst hz; exact k.step fun _ t => XS.lstoreN X.here hx rfl hd rfl hs t
theorem w_aload (X : Stand p l e R s m args below meth c T locs cells slots) (hx : p.tables.exec = Jvm.exec) {n : Nat} {v : Value} (hd : Dc c.code pc (.aload n) 2 pc') (hl : Ls[n]? = some (.val v)) (hv : v.isRef = true) (k : Go p e below s Q C S (T.setTop (mkF m pc' Ls (v :: rest)))) : Go p e below s Q C S (T.setTop (mkF m pc Ls (rest))) := by
  obtain ⟨hd, rfl⟩ := hd; exact k.step fun _ t => XS.aload X.here hx rfl hd hl hv t
theorem w_aloadN (X : Stand p l e R s m args below meth c T locs cells slots) (hx : p.tables.exec = Jvm.exec) {n : Fin 4} {v : Value} (hd : Dc c.code pc (.aload_n n) 1 pc') (hl : Ls[n.val]? = some (.val v)) (hv : v.isRef = true) (k : Go p e below s Q C S (T.setTop (mkF m pc' Ls (v :: rest)))) : Go p e below s Q C S (T.setTop (mkF m pc Ls (rest))) := by
  obtain ⟨hd, rfl⟩ := hd; exact k.step fun _ t => XS.aloadN X.here hx rfl hd hl hv t
theorem w_astore (X : Stand p l e R s m args below meth c T locs cells slots) (hx : p.tables.exec = Jvm.exec) {n : Nat} {v : Value} (hd : Dc c.code pc (.astore n) 2 pc') (hv : v.isRef = true) (hs : storeLocals Ls n v = some Ls') (k : Go p e below s Q C S (T.setTop (mkF m pc' Ls' (rest)))) : Go p e below s Q C S (T.setTop (mkF m pc Ls (v :: rest))) := by
  obtain ⟨hd, rfl⟩ := hd; exact k.step fun _ t => XS.astore X.here hx rfl hd rfl hv hs t
theorem w_astoreN (X : Stand p l e R s m args below meth c T locs cells slots) (hx : p.tables.exec = Jvm.exec) {n : Fin 4} {v : Value} (hd : Dc c.code pc (.astore_n n) 1 pc') (hv : v.isRef = true) (hs : storeLocals Ls n.val v = some Ls') (k : Go p e below s Q C S (T.setTop (mkF m pc' Ls' (rest)))) : Go p e below s Q C S (T.setTop (mkF m pc Ls (v :: rest))) := by
  obtain ⟨hd, rfl⟩ := hd; exact k.step fun _ t => XS.astoreN X.here hx rfl hd rfl hv hs t
theorem w_iconst (X : Stand p l e R s m args below meth c T locs cells slots) (hx : p.tables.exec = Jvm.exec) {i : Int} {z : Int32} (hd : Dc c.code pc (.iconst i) 1 pc') (hz : Int32.ofInt i = z) (k : Go p e below s Q C S (T.setTop (mkF m pc' Ls (.int z :: rest)))) : Go p e below s Q C S (T.setTop (mkF m pc Ls rest)) := by
  obtain ⟨hd, rfl⟩ := hd; subst hz; exact k.step fun _ t => XS.iconst X.here hx rfl hd t
theorem w_bipush (X : Stand p l e R s m args below meth c T locs cells slots) (hx : p.tables.exec = Jvm.exec) {i : Int} {z : Int32} (hd : Dc c.code pc (.bipush i) 2 pc') (hz : (Int8.ofInt i).toInt32 = z) (k : Go p e below s Q C S (T.setTop (mkF m pc' Ls (.int z :: rest)))) : Go p e below s Q C S (T.setTop (mkF m pc Ls rest)) := by
  obtain ⟨hd, rfl⟩ := hd; subst hz; exact k.step fun _ t => XS.bipush X.here hx rfl hd t
theorem w_sipush (X : Stand p l e R s m args below meth c T locs cells slots) (hx : p.tables.exec = Jvm.exec) {i : Int} {z : Int32} (hd : Dc c.code pc (.sipush i) 3 pc') (hz : (Int16.ofInt i).toInt32 = z) (k : Go p e below s Q C S (T.setTop (mkF m pc' Ls (.int z :: rest)))) : Go p e below s Q C S (T.setTop (mkF m pc Ls rest)) := by
  obtain ⟨hd, rfl⟩ := hd; subst hz; exact k.step fun _ t => XS.sipush X.here hx rfl hd t
theorem w_lconst (X : Stand p l e R s m args below meth c T locs cells slots) (hx : p.tables.exec = Jvm.exec) {i : Fin 2} {z : Int64} (hd : Dc c.code pc (.lconst i) 1 pc') (hz : Int64.ofNat i = z) (k : Go p e below s Q C S (T.setTop (mkF m pc' Ls (.long z :: rest)))) : Go p e below s Q C S (T.setTop (mkF m pc Ls rest)) := by
  obtain ⟨hd, rfl⟩ := hd; subst hz; exact k.step fun _ t => XS.lconst X.here hx rfl hd t
theorem w_null (X : Stand p l e R s m args below meth c T locs cells slots) (hx : p.tables.exec = Jvm.exec) (hd : Dc c.code pc .aconst_null 1 pc') (k : Go p e below s Q C S (T.setTop (mkF m pc' Ls (.null :: rest)))) : Go p e below s Q C S (T.setTop (mkF m pc Ls rest)) := by
  obtain ⟨hd, rfl⟩ := hd; exact k.step fun _ t => XS.aconstNull X.here hx rfl hd t
theorem w_ldc (X : Stand p l e R s m args below meth c T locs cells slots) (hx : p.tables.exec = Jvm.exec) (hZ : Z.Warmed39 s.vm) {own : String} {index : Nat} {z : Int32} (hown : s.vm.findClass own = some m.cls) (w : (Jvm.Cond.constant own index z).before a0 Z = true) (hd : Dc c.code pc (.ldc index) 2 pc') (k : Go p e below s Q C S (T.setTop (mkF m pc' Ls (.int z :: rest)))) : Go p e below s Q C S (T.setTop (mkF m pc Ls rest)) := by
  obtain ⟨hd, rfl⟩ := hd; exact k.step fun t q => X.ldcInt hx hown (mvT hZ w) (g := mkF m pc Ls rest) rfl hd t q
theorem w_ldcw (X : Stand p l e R s m args below meth c T locs cells slots) (hx : p.tables.exec = Jvm.exec) (hZ : Z.Warmed39 s.vm) {own : String} {index : Nat} {z : Int32} (hown : s.vm.findClass own = some m.cls) (w : (Jvm.Cond.constant own index z).before a0 Z = true) (hd : Dc c.code pc (.ldc_w index) 3 pc') (k : Go p e below s Q C S (T.setTop (mkF m pc' Ls (.int z :: rest)))) : Go p e below s Q C S (T.setTop (mkF m pc Ls rest)) := by
  obtain ⟨hd, rfl⟩ := hd; exact k.step fun t q => X.ldcwInt hx hown (mvT hZ w) (g := mkF m pc Ls rest) rfl hd t q
theorem w_ldc2 (X : Stand p l e R s m args below meth c T locs cells slots) (hx : p.tables.exec = Jvm.exec) (hZ : Z.Warmed39 s.vm) {own : String} {index : Nat} {z : Int64} (hown : s.vm.findClass own = some m.cls) (w : (Jvm.Cond.constantLong own index z).before a0 Z = true) (hd : Dc c.code pc (.ldc2_w index) 3 pc') (k : Go p e below s Q C S (T.setTop (mkF m pc' Ls (.long z :: rest)))) : Go p e below s Q C S (T.setTop (mkF m pc Ls rest)) := by
  obtain ⟨hd, rfl⟩ := hd; exact k.step fun t q => X.ldc2Long hx hown (mvT hZ w) (g := mkF m pc Ls rest) rfl hd t q
theorem w_iinc (X : Stand p l e R s m args below meth c T locs cells slots) (hx : p.tables.exec = Jvm.exec) {n : Nat} {i : Int} {x z : Int32} (hd : Dc c.code pc (.iinc n i) 3 pc') (hl : Ls[n]? = some (.val (.int x))) (hz : x + Int32.ofInt i = z) (hs : storeLocals Ls n (.int z) = some Ls') (k : Go p e below s Q C S (T.setTop (mkF m pc' Ls' rest))) : Go p e below s Q C S (T.setTop (mkF m pc Ls rest)) := by
  obtain ⟨hd, rfl⟩ := hd; subst hz; exact k.step fun _ t => XS.iinc X.here hx rfl hd hl hs t
/-! arithmetic -/
def IShl (x y : Int32) : Int32 := x <<< (y &&& 31)
def IShr (x y : Int32) : Int32 := x >>> (y &&& 31)
def IUshr (x y : Int32) : Int32 := (x.toUInt32 >>> (y &&& 31).toUInt32).toInt32
def LShl (x : Int64) (y : Int32) : Int64 := x <<< (y &&& 0x3f).toInt64
def LShr (x : Int64) (y : Int32) : Int64 := x >>> (y &&& 0x3f).toInt64
def LUshr (x : Int64) (y : Int32) : Int64 := (x.toUInt64 >>> (y &&& 0x3f).toInt64.toUInt64).toInt64
theorem w_iadd (X : Stand p l e R s m args below meth c T locs cells slots) (hx : p.tables.exec = Jvm.exec) {x y : Int32} (hd : Dc c.code pc .iadd 1 pc') (k : Go p e below s Q C S (T.setTop (mkF m pc' Ls (.int (x + y) :: rest)))) : Go p e below s Q C S (T.setTop (mkF m pc Ls (.int y :: .int x :: rest))) := by
  obtain ⟨hd, rfl⟩ := hd; exact k.step fun _ t => XS.iadd X.here hx rfl hd rfl t
theorem w_isub (X : Stand p l e R s m args below meth c T locs cells slots) (hx : p.tables.exec = Jvm.exec) {x y : Int32} (hd : Dc c.code pc .isub 1 pc') (k : Go p e below s Q C S (T.setTop (mkF m pc' Ls (.int (x - y) :: rest)))) : Go p e below s Q C S (T.setTop (mkF m pc Ls (.int y :: .int x :: rest))) := by
  obtain ⟨hd, rfl⟩ := hd; exact k.step fun _ t => XS.isub X.here hx rfl hd rfl t
theorem w_imul (X : Stand p l e R s m args below meth c T locs cells slots) (hx : p.tables.exec = Jvm.exec) {x y : Int32} (hd : Dc c.code pc .imul 1 pc') (k : Go p e below s Q C S (T.setTop (mkF m pc' Ls (.int (x * y) :: rest)))) : Go p e below s Q C S (T.setTop (mkF m pc Ls (.int y :: .int x :: rest))) := by
  obtain ⟨hd, rfl⟩ := hd; exact k.step fun _ t => XS.imul X.here hx rfl hd rfl t
theorem w_iand (X : Stand p l e R s m args below meth c T locs cells slots) (hx : p.tables.exec = Jvm.exec) {x y : Int32} (hd : Dc c.code pc .iand 1 pc') (k : Go p e below s Q C S (T.setTop (mkF m pc' Ls (.int (x &&& y) :: rest)))) : Go p e below s Q C S (T.setTop (mkF m pc Ls (.int y :: .int x :: rest))) := by
  obtain ⟨hd, rfl⟩ := hd; exact k.step fun _ t => XS.iand X.here hx rfl hd rfl t
theorem w_ior (X : Stand p l e R s m args below meth c T locs cells slots) (hx : p.tables.exec = Jvm.exec) {x y : Int32} (hd : Dc c.code pc .ior 1 pc') (k : Go p e below s Q C S (T.setTop (mkF m pc' Ls (.int (x ||| y) :: rest)))) : Go p e below s Q C S (T.setTop (mkF m pc Ls (.int y :: .int x :: rest))) := by
  obtain ⟨hd, rfl⟩ := hd; exact k.step fun _ t => XS.ior X.here hx rfl hd rfl t
theorem w_ixor (X : Stand p l e R s m args below meth c T locs cells slots) (hx : p.tables.exec = Jvm.exec) {x y : Int32} (hd : Dc c.code pc .ixor 1 pc') (k : Go p e below s Q C S (T.setTop (mkF m pc' Ls (.int (x ^^^ y) :: rest)))) : Go p e below s Q C S (T.setTop (mkF m pc Ls (.int y :: .int x :: rest))) := by
  obtain ⟨hd, rfl⟩ := hd; exact k.step fun _ t => XS.ixor X.here hx rfl hd rfl t
theorem w_ishl (X : Stand p l e R s m args below meth c T locs cells slots) (hx : p.tables.exec = Jvm.exec) {x : Int32} {y : Int32} (hd : Dc c.code pc .ishl 1 pc') (k : Go p e below s Q C S (T.setTop (mkF m pc' Ls (.int (IShl x y) :: rest)))) : Go p e below s Q C S (T.setTop (mkF m pc Ls (.int y :: .int x :: rest))) := by
  obtain ⟨hd, rfl⟩ := hd; exact k.step fun _ t => XS.ishl X.here hx rfl hd rfl t
theorem w_ishr (X : Stand p l e R s m args below meth c T locs cells slots) (hx : p.tables.exec = Jvm.exec) {x : Int32} {y : Int32} (hd : Dc c.code pc .ishr 1 pc') (k : Go p e below s Q C S (T.setTop (mkF m pc' Ls (.int (IShr x y) :: rest)))) : Go p e below s Q C S (T.setTop (mkF m pc Ls (.int y :: .int x :: rest))) := by
  obtain ⟨hd, rfl⟩ := hd; exact k.step fun _ t => XS.ishr X.here hx rfl hd rfl t
theorem w_iushr (X : Stand p l e R s m args below meth c T locs cells slots) (hx : p.tables.exec = Jvm.exec) {x : Int32} {y : Int32} (hd : Dc c.code pc .iushr 1 pc') (k : Go p e below s Q C S (T.setTop (mkF m pc' Ls (.int (IUshr x y) :: rest)))) : Go p e below s Q C S (T.setTop (mkF m pc Ls (.int y :: .int x :: rest))) := by
  obtain ⟨hd, rfl⟩ := hd; exact k.step fun _ t => XS.iushr X.here hx rfl hd rfl t
theorem w_ladd (X : Stand p l e R s m args below meth c T locs cells slots) (hx : p.tables.exec = Jvm.exec) {x y : Int64} (hd : Dc c.code pc .ladd 1 pc') (k : Go p e below s Q C S (T.setTop (mkF m pc' Ls (.long (x + y) :: rest)))) : Go p e below s Q C S (T.setTop (mkF m pc Ls (.long y :: .long x :: rest))) := by
  obtain ⟨hd, rfl⟩ := hd; exact k.step fun _ t => XS.ladd X.here hx rfl hd rfl t
theorem w_lsub (X : Stand p l e R s m args below meth c T locs cells slots) (hx : p.tables.exec = Jvm.exec) {x y : Int64} (hd : Dc c.code pc .lsub 1 pc') (k : Go p e below s Q C S (T.setTop (mkF m pc' Ls (.long (x - y) :: rest)))) : Go p e below s Q C S (T.setTop (mkF m pc Ls (.long y :: .long x :: rest))) := by
  obtain ⟨hd, rfl⟩ := hd; exact k.step fun _ t => XS.lsub X.here hx rfl hd rfl t
theorem w_lmul (X : Stand p l e R s m args below meth c T locs cells slots) (hx : p.tables.exec = Jvm.exec) {x y : Int64} (hd : Dc c.code pc .lmul 1 pc') (k : Go p e below s Q C S (T.setTop (mkF m pc' Ls (.long (x * y) :: rest)))) : Go p e below s Q C S (T.setTop (mkF m pc Ls (.long y :: .long x :: rest))) := by
  obtain ⟨hd, rfl⟩ := hd; exact k.step fun _ t => XS.lmul X.here hx rfl hd rfl t
theorem w_land (X : Stand p l e R s m args below meth c T locs cells slots) (hx : p.tables.exec = Jvm.exec) {x y : Int64} (hd : Dc c.code pc .land 1 pc') (k : Go p e below s Q C S (T.setTop (mkF m pc' Ls (.long (x &&& y) :: rest)))) : Go p e below s Q C S (T.setTop (mkF m pc Ls (.long y :: .long x :: rest))) := by
  obtain ⟨hd, rfl⟩ := hd; exact k.step fun _ t => XS.land X.here hx rfl hd rfl t
theorem w_lor (X : Stand p l e R s m args below meth c T locs cells slots) (hx : p.tables.exec = Jvm.exec) {x y : Int64} (hd : Dc c.code pc .lor 1 pc') (k : Go p e below s Q C S (T.setTop (mkF m pc' Ls (.long (x ||| y) :: rest)))) : Go p e below s Q C S (T.setTop (mkF m pc Ls (.long y :: .long x :: rest))) := by
  obtain ⟨hd, rfl⟩ := hd; exact k.step fun _ t => XS.lor X.here hx rfl hd rfl t
theorem w_lxor (X : Stand p l e R s m args below meth c T locs cells slots) (hx : p.tables.exec = Jvm.exec) {x y : Int64} (hd : Dc c.code pc .lxor 1 pc') (k : Go p e below s Q C S (T.setTop (mkF m pc' Ls (.long (x ^^^ y) :: rest)))) : Go p e below s Q C S (T.setTop (mkF m pc Ls (.long y :: .long x :: rest))) := by
  obtain ⟨hd, rfl⟩ := hd; exact k.step fun _ t => XS.lxor X.here hx rfl hd rfl t
theorem w_lshl (X : Stand p l e R s m args below meth c T locs cells slots) (hx : p.tables.exec = Jvm.exec) {x : Int64} {y : Int32} (hd : Dc c.code pc .lshl 1 pc') (k : Go p e below s Q C S (T.setTop (mkF m pc' Ls (.long (LShl x y) :: rest)))) : Go p e below s Q C S (T.setTop (mkF m pc Ls (.int y :: .long x :: rest))) := by
  obtain ⟨hd, rfl⟩ := hd; exact k.step fun _ t => XS.lshl X.here hx rfl hd rfl t
theorem w_lshr (X : Stand p l e R s m args below meth c T locs cells slots) (hx : p.tables.exec = Jvm.exec) {x : Int64} {y : Int32} (hd : Dc c.code pc .lshr 1 pc') (k : Go p e below s Q C S (T.setTop (mkF m pc' Ls (.long (LShr x y) :: rest)))) : Go p e below s Q C S (T.setTop (mkF m pc Ls (.int y :: .long x :: rest))) := by
  obtain ⟨hd, rfl⟩ := hd; exact k.step fun _ t => XS.lshr X.here hx rfl hd rfl t
theorem w_lushr (X : Stand p l e R s m args below meth c T locs cells slots) (hx : p.tables.exec = Jvm.exec) {x : Int64} {y : Int32} (hd : Dc c.code pc .lushr 1 pc') (k : Go p e below s Q C S (T.setTop (mkF m pc' Ls (.long (LUshr x y) :: rest)))) : Go p e below s Q C S (T.setTop (mkF m pc Ls (.int y :: .long x :: rest))) := by
  obtain ⟨hd, rfl⟩ := hd; exact k.step fun _ t => XS.lushr X.here hx rfl hd rfl t
theorem w_ineg (X : Stand p l e R s m args below meth c T locs cells slots) (hx : p.tables.exec = Jvm.exec) {x : Int32} (hd : Dc c.code pc .ineg 1 pc') (k : Go p e below s Q C S (T.setTop (mkF m pc' Ls (.int (-x) :: rest)))) : Go p e below s Q C S (T.setTop (mkF m pc Ls (.int x :: rest))) := by
  obtain ⟨hd, rfl⟩ := hd; exact k.step fun _ t => XS.ineg X.here hx rfl hd rfl t
theorem w_lneg (X : Stand p l e R s m args below meth c T locs cells slots) (hx : p.tables.exec = Jvm.exec) {x : Int64} (hd : Dc c.code pc .lneg 1 pc') (k : Go p e below s Q C S (T.setTop (mkF m pc' Ls (.long (-x) :: rest)))) : Go p e below s Q C S (T.setTop (mkF m pc Ls (.long x :: rest))) := by
  obtain ⟨hd, rfl⟩ := hd; exact k.step fun _ t => XS.lneg X.here hx rfl hd rfl t
theorem w_i2l (X : Stand p l e R s m args below meth c T locs cells slots) (hx : p.tables.exec = Jvm.exec) {x : Int32} (hd : Dc c.code pc .i2l 1 pc') (k : Go p e below s Q C S (T.setTop (mkF m pc' Ls (.long (x.toInt64) :: rest)))) : Go p e below s Q C S (T.setTop (mkF m pc Ls (.int x :: rest))) := by
  obtain ⟨hd, rfl⟩ := hd; exact k.step fun _ t => XS.i2l X.here hx rfl hd rfl t
theorem w_l2i (X : Stand p l e R s m args below meth c T locs cells slots) (hx : p.tables.exec = Jvm.exec) {x : Int64} (hd : Dc c.code pc .l2i 1 pc') (k : Go p e below s Q C S (T.setTop (mkF m pc' Ls (.int (x.toInt32) :: rest)))) : Go p e below s Q C S (T.setTop (mkF m pc Ls (.long x :: rest))) := by
  obtain ⟨hd, rfl⟩ := hd; exact k.step fun _ t => XS.l2i X.here hx rfl hd rfl t
theorem w_i2b (X : Stand p l e R s m args below meth c T locs cells slots) (hx : p.tables.exec = Jvm.exec) {x : Int32} (hd : Dc c.code pc .i2b 1 pc') (k : Go p e below s Q C S (T.setTop (mkF m pc' Ls (.int (x.toInt8.toInt32) :: rest)))) : Go p e below s Q C S (T.setTop (mkF m pc Ls (.int x :: rest))) := by
  obtain ⟨hd, rfl⟩ := hd; exact k.step fun _ t => XS.i2b X.here hx rfl hd rfl t
theorem w_i2c (X : Stand p l e R s m args below meth c T locs cells slots) (hx : p.tables.exec = Jvm.exec) {x : Int32} (hd : Dc c.code pc .i2c 1 pc') (k : Go p e below s Q C S (T.setTop (mkF m pc' Ls (.int (x.toUInt32.toUInt16.toUInt32.toInt32) :: rest)))) : Go p e below s Q C S (T.setTop (mkF m pc Ls (.int x :: rest))) := by
  obtain ⟨hd, rfl⟩ := hd; exact k.step fun _ t => XS.i2c X.here hx rfl hd rfl t
theorem w_i2s (X : Stand p l e R s m args below meth c T locs cells slots) (hx : p.tables.exec = Jvm.exec) {x : Int32} (hd : Dc c.code pc .i2s 1 pc') (k : Go p e below s Q C S (T.setTop (mkF m pc' Ls (.int (x.toInt16.toInt32) :: rest)))) : Go p e below s Q C S (T.setTop (mkF m pc Ls (.int x :: rest))) := by
  obtain ⟨hd, rfl⟩ := hd; exact k.step fun _ t => XS.i2s X.here hx rfl hd rfl t
theorem w_idiv (X : Stand p l e R s m args below meth c T locs cells slots) (hx : p.tables.exec = Jvm.exec) {x y : Int32} (hd : Dc c.code pc .idiv 1 pc') (hy : y ≠ 0) (k : Go p e below s Q C S (T.setTop (mkF m pc' Ls (.int (x / y) :: rest)))) : Go p e below s Q C S (T.setTop (mkF m pc Ls (.int y :: .int x :: rest))) := by
  obtain ⟨hd, rfl⟩ := hd; exact k.step fun _ t => XS.idiv X.here hx rfl hd rfl hy t
theorem w_irem (X : Stand p l e R s m args below meth c T locs cells slots) (hx : p.tables.exec = Jvm.exec) {x y : Int32} (hd : Dc c.code pc .irem 1 pc') (hy : y ≠ 0) (k : Go p e below s Q C S (T.setTop (mkF m pc' Ls (.int (x % y) :: rest)))) : Go p e below s Q C S (T.setTop (mkF m pc Ls (.int y :: .int x :: rest))) := by
  obtain ⟨hd, rfl⟩ := hd; exact k.step fun _ t => iremM X hx rfl hd rfl hy t
theorem w_ldiv (X : Stand p l e R s m args below meth c T locs cells slots) (hx : p.tables.exec = Jvm.exec) {x y : Int64} (hd : Dc c.code pc .ldiv 1 pc') (hy : y ≠ 0) (k : Go p e below s Q C S (T.setTop (mkF m pc' Ls (.long (x / y) :: rest)))) : Go p e below s Q C S (T.setTop (mkF m pc Ls (.long y :: .long x :: rest))) := by
  obtain ⟨hd, rfl⟩ := hd; exact k.step fun _ t => XS.ldiv X.here hx rfl hd rfl hy t
theorem w_dup (X : Stand p l e R s m args below meth c T locs cells slots) (hx : p.tables.exec = Jvm.exec) {v : Value} (hd : Dc c.code pc .dup 1 pc') (hc : v.category = 1) (k : Go p e below s Q C S (T.setTop (mkF m pc' Ls (v :: v :: rest)))) : Go p e below s Q C S (T.setTop (mkF m pc Ls (v :: rest))) := by
  obtain ⟨hd, rfl⟩ := hd; exact k.step fun _ t => XS.dup X.here hx rfl hd rfl hc t
theorem w_dupx1 (X : Stand p l e R s m args below meth c T locs cells slots) (hx : p.tables.exec = Jvm.exec) {v w : Value} (hd : Dc c.code pc .dup_x1 1 pc') (hc : v.category = 1) (hc' : w.category = 1) (k : Go p e below s Q C S (T.setTop (mkF m pc' Ls (v :: w :: v :: rest)))) : Go p e below s Q C S (T.setTop (mkF m pc Ls (v :: w :: rest))) := by
  obtain ⟨hd, rfl⟩ := hd; exact k.step fun _ t => XS.dupX1 X.here hx rfl hd rfl hc hc' t
theorem w_dup2 (X : Stand p l e R s m args below meth c T locs cells slots) (hx : p.tables.exec = Jvm.exec) {v w : Value} (hd : Dc c.code pc .dup2 1 pc') (hc : v.category = 1) (hc' : w.category = 1) (k : Go p e below s Q C S (T.setTop (mkF m pc' Ls (v :: w :: v :: w :: rest)))) : Go p e below s Q C S (T.setTop (mkF m pc Ls (v :: w :: rest))) := by
  obtain ⟨hd, rfl⟩ := hd; exact k.step fun _ t => XT.dup2 X.here hx rfl hd rfl hc hc' t
theorem w_dup2L (X : Stand p l e R s m args below meth c T locs cells slots) (hx : p.tables.exec = Jvm.exec) {x : Int64} (hd : Dc c.code pc .dup2 1 pc') (k : Go p e below s Q C S (T.setTop (mkF m pc' Ls (.long x :: .long x :: rest)))) : Go p e below s Q C S (T.setTop (mkF m pc Ls (.long x :: rest))) := by
  obtain ⟨hd, rfl⟩ := hd; exact k.step fun _ t => XT.dup2L X.here hx rfl hd rfl t
theorem w_pop (X : Stand p l e R s m args below meth c T locs cells slots) (hx : p.tables.exec = Jvm.exec) {v : Value} (hd : Dc c.code pc .pop 1 pc') (hc : v.category = 1) (k : Go p e below s Q C S (T.setTop (mkF m pc' Ls rest))) : Go p e below s Q C S (T.setTop (mkF m pc Ls (v :: rest))) := by
  obtain ⟨hd, rfl⟩ := hd; exact k.step fun _ t => XS.pop X.here hx rfl hd rfl hc t
/-! branches -/
theorem w_goto (X : Stand p l e R s m args below meth c T locs cells slots) (hx : p.tables.exec = Jvm.exec) {o : Int} {pcT pcF : Nat} (hd : Dj c.code pc (.goto o) o pcT pcF) (k : Go p e below s Q C S (T.setTop (mkF m pcT Ls rest))) : Go p e below s Q C S (T.setTop (mkF m pc Ls rest)) := by
  obtain ⟨hd, ho, rfl, -⟩ := hd; exact k.step fun _ t => XS.goto X.here hx rfl rfl hd ho rfl t
theorem w_icmp_eq (X : Stand p l e R s m args below meth c T locs cells slots) (hx : p.tables.exec = Jvm.exec) {o : Int} {x y : Int32} {pcT pcF : Nat} (hd : Dj c.code pc (.if_icmp .eq o) o pcT pcF) (kt : x = y → Go p e below s Q C S (T.setTop (mkF m pcT Ls (rest)))) (kf : x ≠ y → Go p e below s Q C S (T.setTop (mkF m pcF Ls (rest)))) : Go p e below s Q C S (T.setTop (mkF m pc Ls (.int y :: .int x :: rest))) := by
  obtain ⟨hd, ho, rfl, rfl⟩ := hd
  by_cases hb : x = y
  · exact (kt hb).step fun _ t => XS.icmpYes X.here hx rfl rfl hd rfl (teq hb).1 ho rfl t
  · exact (kf hb).step fun _ t => XS.icmpNo X.here hx rfl hd rfl (feq hb).1 t
theorem w_if_eq (X : Stand p l e R s m args below meth c T locs cells slots) (hx : p.tables.exec = Jvm.exec) {o : Int} {x : Int32} {pcT pcF : Nat} (hd : Dj c.code pc (.ifCond .eq o) o pcT pcF) (kt : x = 0 → Go p e below s Q C S (T.setTop (mkF m pcT Ls (rest)))) (kf : x ≠ 0 → Go p e below s Q C S (T.setTop (mkF m pcF Ls (rest)))) : Go p e below s Q C S (T.setTop (mkF m pc Ls (.int x :: rest))) := by
  obtain ⟨hd, ho, rfl, rfl⟩ := hd
  have e0 : (0 : Int32).toInt = 0 := rfl
  by_cases hb : x = (0 : Int32)
  · exact (kt hb).step fun _ t => XS.ifYes X.here hx rfl rfl hd rfl ((if0 _ _).trans (teq hb).1) ho rfl t
  · exact (kf hb).step fun _ t => XS.ifNo X.here hx rfl hd rfl ((if0 _ _).trans (feq hb).1) t
theorem w_lcmp_eq (X : Stand p l e R s m args below meth c T locs cells slots) (hx : p.tables.exec = Jvm.exec) {o : Int} {x y : Int64} {pc1 pcT pcF : Nat} (hd1 : Dc c.code pc .lcmp 1 pc1) (hd : Dj c.code pc1 (.ifCond .eq o) o pcT pcF) (kt : x = y → Go p e below s Q C S (T.setTop (mkF m pcT Ls (rest)))) (kf : x ≠ y → Go p e below s Q C S (T.setTop (mkF m pcF Ls (rest)))) : Go p e below s Q C S (T.setTop (mkF m pc Ls (.long y :: .long x :: rest))) := by
  obtain ⟨hd1, rfl⟩ := hd1
  refine Go.step (fun _ t => XS.lcmp X.here hx rfl hd1 rfl t) ?_
  exact w_if_eq X hx hd (fun q => kt ((lw_eq x y).mp q)) (fun q => kf (fun r => q ((lw_eq x y).mpr r)))
theorem w_icmp_ne (X : Stand p l e R s m args below meth c T locs cells slots) (hx : p.tables.exec = Jvm.exec) {o : Int} {x y : Int32} {pcT pcF : Nat} (hd : Dj c.code pc (.if_icmp .ne o) o pcT pcF) (kt : x ≠ y → Go p e below s Q C S (T.setTop (mkF m pcT Ls (rest)))) (kf : x = y → Go p e below s Q C S (T.setTop (mkF m pcF Ls (rest)))) : Go p e below s Q C S (T.setTop (mkF m pc Ls (.int y :: .int x :: rest))) := by
  obtain ⟨hd, ho, rfl, rfl⟩ := hd
  by_cases hb : x = y
  · exact (kf hb).step fun _ t => XS.icmpNo X.here hx rfl hd rfl (teq hb).2 t
  · exact (kt hb).step fun _ t => XS.icmpYes X.here hx rfl rfl hd rfl (feq hb).2 ho rfl t
theorem w_if_ne (X : Stand p l e R s m args below meth c T locs cells slots) (hx : p.tables.exec = Jvm.exec) {o : Int} {x : Int32} {pcT pcF : Nat} (hd : Dj c.code pc (.ifCond .ne o) o pcT pcF) (kt : x ≠ 0 → Go p e below s Q C S (T.setTop (mkF m pcT Ls (rest)))) (kf : x = 0 → Go p e below s Q C S (T.setTop (mkF m pcF Ls (rest)))) : Go p e below s Q C S (T.setTop (mkF m pc Ls (.int x :: rest))) := by
  obtain ⟨hd, ho, rfl, rfl⟩ := hd
  have e0 : (0 : Int32).toInt = 0 := rfl
  by_cases hb : x = (0 : Int32)
  · exact (kf hb).step fun _ t => XS.ifNo X.here hx rfl hd rfl ((if0 _ _).trans (teq hb).2) t
  · exact (kt hb).step fun _ t => XS.ifYes X.here hx rfl rfl hd rfl ((if0 _ _).trans (feq hb).2) ho rfl t
theorem w_lcmp_ne (X : Stand p l e R s m args below meth c T locs cells slots) (hx : p.tables.exec = Jvm.exec) {o : Int} {x y : Int64} {pc1 pcT pcF : Nat} (hd1 : Dc c.code pc .lcmp 1 pc1) (hd : Dj c.code pc1 (.ifCond .ne o) o pcT pcF) (kt : x ≠ y → Go p e below s Q C S (T.setTop (mkF m pcT Ls (rest)))) (kf : x = y → Go p e below s Q C S (T.setTop (mkF m pcF Ls (rest)))) : Go p e below s Q C S (T.setTop (mkF m pc Ls (.long y :: .long x :: rest))) := by
  obtain ⟨hd1, rfl⟩ := hd1
  refine Go.step (fun _ t => XS.lcmp X.here hx rfl hd1 rfl t) ?_
  exact w_if_ne X hx hd (fun q => kt (fun r => q ((lw_eq x y).mpr r))) (fun q => kf ((lw_eq x y).mp q))
theorem w_icmp_lt (X : Stand p l e R s m args below meth c T locs cells slots) (hx : p.tables.exec = Jvm.exec) {o : Int} {x y : Int32} {pcT pcF : Nat} (hd : Dj c.code pc (.if_icmp .lt o) o pcT pcF) (kt : x.toInt < y.toInt → Go p e below s Q C S (T.setTop (mkF m pcT Ls (rest)))) (kf : y.toInt ≤ x.toInt → Go p e below s Q C S (T.setTop (mkF m pcF Ls (rest)))) : Go p e below s Q C S (T.setTop (mkF m pc Ls (.int y :: .int x :: rest))) := by
  obtain ⟨hd, ho, rfl, rfl⟩ := hd
  by_cases hb : x < y
  · exact (kt (Int32.lt_iff_toInt_lt.mp hb)).step fun _ t => XS.icmpYes X.here hx rfl rfl hd rfl (tlt hb).1 ho rfl t
  · exact (kf (by rw [Int32.lt_iff_toInt_lt] at hb; omega)).step fun _ t => XS.icmpNo X.here hx rfl hd rfl (flt hb).1 t
theorem w_if_lt (X : Stand p l e R s m args below meth c T locs cells slots) (hx : p.tables.exec = Jvm.exec) {o : Int} {x : Int32} {pcT pcF : Nat} (hd : Dj c.code pc (.ifCond .lt o) o pcT pcF) (kt : x.toInt < 0 → Go p e below s Q C S (T.setTop (mkF m pcT Ls (rest)))) (kf : 0 ≤ x.toInt → Go p e below s Q C S (T.setTop (mkF m pcF Ls (rest)))) : Go p e below s Q C S (T.setTop (mkF m pc Ls (.int x :: rest))) := by
  obtain ⟨hd, ho, rfl, rfl⟩ := hd
  have e0 : (0 : Int32).toInt = 0 := rfl
  by_cases hb : x < (0 : Int32)
  · exact (kt (by rw [Int32.lt_iff_toInt_lt] at hb; omega)).step fun _ t => XS.ifYes X.here hx rfl rfl hd rfl ((if0 _ _).trans (tlt hb).1) ho rfl t
  · exact (kf (by rw [Int32.lt_iff_toInt_lt] at hb; omega)).step fun _ t => XS.ifNo X.here hx rfl hd rfl ((if0 _ _).trans (flt hb).1) t
theorem w_lcmp_lt (X : Stand p l e R s m args below meth c T locs cells slots) (hx : p.tables.exec = Jvm.exec) {o : Int} {x y : Int64} {pc1 pcT pcF : Nat} (hd1 : Dc c.code pc .lcmp 1 pc1) (hd : Dj c.code pc1 (.ifCond .lt o) o pcT pcF) (kt : x.toInt < y.toInt → Go p e below s Q C S (T.setTop (mkF m pcT Ls (rest)))) (kf : y.toInt ≤ x.toInt → Go p e below s Q C S (T.setTop (mkF m pcF Ls (rest)))) : Go p e below s Q C S (T.setTop (mkF m pc Ls (.long y :: .long x :: rest))) := by
  obtain ⟨hd1, rfl⟩ := hd1
  have e0 : (0 : Int32).toInt = 0 := rfl
  have L : (lcmpW x y).toInt < 0 → x.toInt < y.toInt := fun q => by have := (lw_lt x y).mp (by rw [Int32.lt_iff_toInt_lt]; omega); rwa [Int64.lt_iff_toInt_lt] at this
  have N : 0 ≤ (lcmpW x y).toInt → y.toInt ≤ x.toInt := fun q => by
    have h1 : ¬ x < y := fun r => by have := (lw_lt x y).mpr r; rw [Int32.lt_iff_toInt_lt] at this; omega
    rw [Int64.lt_iff_toInt_lt] at h1; omega
  have M : 0 < (lcmpW x y).toInt → y.toInt < x.toInt := fun q => by have := (lw_gt x y).mp (by rw [Int32.lt_iff_toInt_lt]; omega); rwa [Int64.lt_iff_toInt_lt] at this
  have P : (lcmpW x y).toInt ≤ 0 → x.toInt ≤ y.toInt := fun q => by
    have h1 : ¬ y < x := fun r => by have := (lw_gt x y).mpr r; rw [Int32.lt_iff_toInt_lt] at this; omega
    rw [Int64.lt_iff_toInt_lt] at h1; omega
  refine Go.step (fun _ t => XS.lcmp X.here hx rfl hd1 rfl t) ?_
  exact w_if_lt X hx hd (fun q => kt (L q)) (fun q => kf (N q))
theorem w_icmp_ge (X : Stand p l e R s m args below meth c T locs cells slots) (hx : p.tables.exec = Jvm.exec) {o : Int} {x y : Int32} {pcT pcF : Nat} (hd : Dj c.code pc (.if_icmp .ge o) o pcT pcF) (kt : y.toInt ≤ x.toInt → Go p e below s Q C S (T.setTop (mkF m pcT Ls (rest)))) (kf : x.toInt < y.toInt → Go p e below s Q C S (T.setTop (mkF m pcF Ls (rest)))) : Go p e below s Q C S (T.setTop (mkF m pc Ls (.int y :: .int x :: rest))) := by
  obtain ⟨hd, ho, rfl, rfl⟩ := hd
  by_cases hb : x < y
  · exact (kf (Int32.lt_iff_toInt_lt.mp hb)).step fun _ t => XS.icmpNo X.here hx rfl hd rfl (tlt hb).2.1 t
  · exact (kt (by rw [Int32.lt_iff_toInt_lt] at hb; omega)).step fun _ t => XS.icmpYes X.here hx rfl rfl hd rfl (flt hb).2.1 ho rfl t
theorem w_if_ge (X : Stand p l e R s m args below meth c T locs cells slots) (hx : p.tables.exec = Jvm.exec) {o : Int} {x : Int32} {pcT pcF : Nat} (hd : Dj c.code pc (.ifCond .ge o) o pcT pcF) (kt : 0 ≤ x.toInt → Go p e below s Q C S (T.setTop (mkF m pcT Ls (rest)))) (kf : x.toInt < 0 → Go p e below s Q C S (T.setTop (mkF m pcF Ls (rest)))) : Go p e below s Q C S (T.setTop (mkF m pc Ls (.int x :: rest))) := by
  obtain ⟨hd, ho, rfl, rfl⟩ := hd
  have e0 : (0 : Int32).toInt = 0 := rfl
  by_cases hb : x < (0 : Int32)
  · exact (kf (by rw [Int32.lt_iff_toInt_lt] at hb; omega)).step fun _ t => XS.ifNo X.here hx rfl hd rfl ((if0 _ _).trans (tlt hb).2.1) t
  · exact (kt (by rw [Int32.lt_iff_toInt_lt] at hb; omega)).step fun _ t => XS.ifYes X.here hx rfl rfl hd rfl ((if0 _ _).trans (flt hb).2.1) ho rfl t
theorem w_lcmp_ge (X : Stand p l e R s m args below meth c T locs cells slots) (hx : p.tables.exec = Jvm.exec) {o : Int} {x y : Int64} {pc1 pcT pcF : Nat} (hd1 : Dc c.code pc .lcmp 1 pc1) (hd : Dj c.code pc1 (.ifCond .ge o) o pcT pcF) (kt : y.toInt ≤ x.toInt → Go p e below s Q C S (T.setTop (mkF m pcT Ls (rest)))) (kf : x.toInt < y.toInt → Go p e below s Q C S (T.setTop (mkF m pcF Ls (rest)))) : Go p e below s Q C S (T.setTop (mkF m pc Ls (.long y :: .long x :: rest))) := by
  obtain ⟨hd1, rfl⟩ := hd1
  have e0 : (0 : Int32).toInt = 0 := rfl
  have L : (lcmpW x y).toInt < 0 → x.toInt < y.toInt := fun q => by have := (lw_lt x y).mp (by rw [Int32.lt_iff_toInt_lt]; omega); rwa [Int64.lt_iff_toInt_lt] at this
  have N : 0 ≤ (lcmpW x y).toInt → y.toInt ≤ x.toInt := fun q => by
    have h1 : ¬ x < y := fun r => by have := (lw_lt x y).mpr r; rw [Int32.lt_iff_toInt_lt] at this; omega
    rw [Int64.lt_iff_toInt_lt] at h1; omega
  have M : 0 < (lcmpW x y).toInt → y.toInt < x.toInt := fun q => by have := (lw_gt x y).mp (by rw [Int32.lt_iff_toInt_lt]; omega); rwa [Int64.lt_iff_toInt_lt] at this
  have P : (lcmpW x y).toInt ≤ 0 → x.toInt ≤ y.toInt := fun q => by
    have h1 : ¬ y < x := fun r => by have := (lw_gt x y).mpr r; rw [Int32.lt_iff_toInt_lt] at this; omega
    rw [Int64.lt_iff_toInt_lt] at h1; omega
  refine Go.step (fun _ t => XS.lcmp X.here hx rfl hd1 rfl t) ?_
  exact w_if_ge X hx hd (fun q => kt (N q)) (fun q => kf (L q))
theorem w_icmp_gt (X : Stand p l e R s m args below meth c T locs cells slots) (hx : p.tables.exec = Jvm.exec) {o : Int} {x y : Int32} {pcT pcF : Nat} (hd : Dj c.code pc (.if_icmp .gt o) o pcT pcF) (kt : y.toInt < x.toInt → Go p e below s Q C S (T.setTop (mkF m pcT Ls (rest)))) (kf : x.toInt ≤ y.toInt → Go p e below s Q C S (T.setTop (mkF m pcF Ls (rest)))) : Go p e below s Q C S (T.setTop (mkF m pc Ls (.int y :: .int x :: rest))) := by
  obtain ⟨hd, ho, rfl, rfl⟩ := hd
  by_cases hb : y < x
  · exact (kt (Int32.lt_iff_toInt_lt.mp hb)).step fun _ t => XS.icmpYes X.here hx rfl rfl hd rfl (tlt hb).2.2.1 ho rfl t
  · exact (kf (by rw [Int32.lt_iff_toInt_lt] at hb; omega)).step fun _ t => XS.icmpNo X.here hx rfl hd rfl (flt hb).2.2.1 t
theorem w_if_gt (X : Stand p l e R s m args below meth c T locs cells slots) (hx : p.tables.exec = Jvm.exec) {o : Int} {x : Int32} {pcT pcF : Nat} (hd : Dj c.code pc (.ifCond .gt o) o pcT pcF) (kt : 0 < x.toInt → Go p e below s Q C S (T.setTop (mkF m pcT Ls (rest)))) (kf : x.toInt ≤ 0 → Go p e below s Q C S (T.setTop (mkF m pcF Ls (rest)))) : Go p e below s Q C S (T.setTop (mkF m pc Ls (.int x :: rest))) := by
  obtain ⟨hd, ho, rfl, rfl⟩ := hd
  have e0 : (0 : Int32).toInt = 0 := rfl
  by_cases hb : (0 : Int32) < x
  · exact (kt (by rw [Int32.lt_iff_toInt_lt] at hb; omega)).step fun _ t => XS.ifYes X.here hx rfl rfl hd rfl ((if0 _ _).trans (tlt hb).2.2.1) ho rfl t
  · exact (kf (by rw [Int32.lt_iff_toInt_lt] at hb; omega)).step fun _ t => XS.ifNo X.here hx rfl hd rfl ((if0 _ _).trans (flt hb).2.2.1) t
theorem w_lcmp_gt (X : Stand p l e R s m args below meth c T locs cells slots) (hx : p.tables.exec = Jvm.exec) {o : Int} {x y : Int64} {pc1 pcT pcF : Nat} (hd1 : Dc c.code pc .lcmp 1 pc1) (hd : Dj c.code pc1 (.ifCond .gt o) o pcT pcF) (kt : y.toInt < x.toInt → Go p e below s Q C S (T.setTop (mkF m pcT Ls (rest)))) (kf : x.toInt ≤ y.toInt → Go p e below s Q C S (T.setTop (mkF m pcF Ls (rest)))) : Go p e below s Q C S (T.setTop (mkF m pc Ls (.long y :: .long x :: rest))) := by
  obtain ⟨hd1, rfl⟩ := hd1
  have e0 : (0 : Int32).toInt = 0 := rfl
  have L : (lcmpW x y).toInt < 0 → x.toInt < y.toInt := fun q => by have := (lw_lt x y).mp (by rw [Int32.lt_iff_toInt_lt]; omega); rwa [Int64.lt_iff_toInt_lt] at this
  have N : 0 ≤ (lcmpW x y).toInt → y.toInt ≤ x.toInt := fun q => by
    have h1 : ¬ x < y := fun r => by have := (lw_lt x y).mpr r; rw [Int32.lt_iff_toInt_lt] at this; omega
    rw [Int64.lt_iff_toInt_lt] at h1; omega
  have M : 0 < (lcmpW x y).toInt → y.toInt < x.toInt := fun q => by have := (lw_gt x y).mp (by rw [Int32.lt_iff_toInt_lt]; omega); rwa [Int64.lt_iff_toInt_lt] at this
  have P : (lcmpW x y).toInt ≤ 0 → x.toInt ≤ y.toInt := fun q => by
    have h1 : ¬ y < x := fun r => by have := (lw_gt x y).mpr r; rw [Int32.lt_iff_toInt_lt] at this; omega
    rw [Int64.lt_iff_toInt_lt] at h1; omega
  refine Go.step (fun _ t => XS.lcmp X.here hx rfl hd1 rfl t) ?_
  exact w_if_gt X hx hd (fun q => kt (M q)) (fun q => kf (P q))
theorem w_icmp_le (X : Stand p l e R s m args below meth c T locs cells slots) (hx : p.tables.exec = Jvm.exec) {o : Int} {x y : Int32} {pcT pcF : Nat} (hd : Dj c.code pc (.if_icmp .le o) o pcT pcF) (kt : x.toInt ≤ y.toInt → Go p e below s Q C S (T.setTop (mkF m pcT Ls (rest)))) (kf : y.toInt < x.toInt → Go p e below s Q C S (T.setTop (mkF m pcF Ls (rest)))) : Go p e below s Q C S (T.setTop (mkF m pc Ls (.int y :: .int x :: rest))) := by
  obtain ⟨hd, ho, rfl, rfl⟩ := hd
  by_cases hb : y < x
  · exact (kf (Int32.lt_iff_toInt_lt.mp hb)).step fun _ t => XS.icmpNo X.here hx rfl hd rfl (tlt hb).2.2.2 t
  · exact (kt (by rw [Int32.lt_iff_toInt_lt] at hb; omega)).step fun _ t => XS.icmpYes X.here hx rfl rfl hd rfl (flt hb).2.2.2 ho rfl t
theorem w_if_le (X : Stand p l e R s m args below meth c T locs cells slots) (hx : p.tables.exec = Jvm.exec) {o : Int} {x : Int32} {pcT pcF : Nat} (hd : Dj c.code pc (.ifCond .le o) o pcT pcF) (kt : x.toInt ≤ 0 → Go p e below s Q C S (T.setTop (mkF m pcT Ls (rest)))) (kf : 0 < x.toInt → Go p e below s Q C S (T.setTop (mkF m pcF Ls (rest)))) : Go p e below s Q C S (T.setTop (mkF m pc Ls (.int x :: rest))) := by
  obtain ⟨hd, ho, rfl, rfl⟩ := hd
  have e0 : (0 : Int32).toInt = 0 := rfl
  by_cases hb : (0 : Int32) < x
  · exact (kf (by rw [Int32.lt_iff_toInt_lt] at hb; omega)).step fun _ t => XS.ifNo X.here hx rfl hd rfl ((if0 _ _).trans (tlt hb).2.2.2) t
  · exact (kt (by rw [Int32.lt_iff_toInt_lt] at hb; omega)).step fun _ t => XS.ifYes X.here hx rfl rfl hd rfl ((if0 _ _).trans (flt hb).2.2.2) ho rfl t
theorem w_lcmp_le (X : Stand p l e R s m args below meth c T locs cells slots) (hx : p.tables.exec = Jvm.exec) {o : Int} {x y : Int64} {pc1 pcT pcF : Nat} (hd1 : Dc c.code pc .lcmp 1 pc1) (hd : Dj c.code pc1 (.ifCond .le o) o pcT pcF) (kt : x.toInt ≤ y.toInt → Go p e below s Q C S (T.setTop (mkF m pcT Ls (rest)))) (kf : y.toInt < x.toInt → Go p e below s Q C S (T.setTop (mkF m pcF Ls (rest)))) : Go p e below s Q C S (T.setTop (mkF m pc Ls (.long y :: .long x :: rest))) := by
  obtain ⟨hd1, rfl⟩ := hd1
  have e0 : (0 : Int32).toInt = 0 := rfl
  have L : (lcmpW x y).toInt < 0 → x.toInt < y.toInt := fun q => by have := (lw_lt x y).mp (by rw [Int32.lt_iff_toInt_lt]; omega); rwa [Int64.lt_iff_toInt_lt] at this
  have N : 0 ≤ (lcmpW x y).toInt → y.toInt ≤ x.toInt := fun q => by
    have h1 : ¬ x < y := fun r => by have := (lw_lt x y).mpr r; rw [Int32.lt_iff_toInt_lt] at this; omega
    rw [Int64.lt_iff_toInt_lt] at h1; omega
  have M : 0 < (lcmpW x y).toInt → y.toInt < x.toInt := fun q => by have := (lw_gt x y).mp (by rw [Int32.lt_iff_toInt_lt]; omega); rwa [Int64.lt_iff_toInt_lt] at this
  have P : (lcmpW x y).toInt ≤ 0 → x.toInt ≤ y.toInt := fun q => by
    have h1 : ¬ y < x := fun r => by have := (lw_gt x y).mpr r; rw [Int32.lt_iff_toInt_lt] at this; omega
    rw [Int64.lt_iff_toInt_lt] at h1; omega
  refine Go.step (fun _ t => XS.lcmp X.here hx rfl hd1 rfl t) ?_
  exact w_if_le X hx hd (fun q => kt (P q)) (fun q => kf (M q))
theorem w_acmp (X : Stand p l e R s m args below meth c T locs cells slots) (hx : p.tables.exec = Jvm.exec) {o : Int} {cd : ClassFile.ACond} {x y : Value} {pcT pcF : Nat} (hd : Dj c.code pc (.if_acmp cd o) o pcT pcF) (h1 : x.isRef = true) (h2 : y.isRef = true) {b : Bool} (hb : acV cd (decide (x = y)) = b) (k : Go p e below s Q C S (T.setTop (mkF m (if b = true then pcT else pcF) Ls rest))) : Go p e below s Q C S (T.setTop (mkF m pc Ls (y :: x :: rest))) := by
  obtain ⟨hd, ho, rfl, rfl⟩ := hd; subst hb; exact k.step fun _ t => Jvm.RoadKit.acmp X hx rfl h1 h2 rfl hd rfl rfl ho rfl t
theorem w_ifnullR (X : Stand p l e R s m args below meth c T locs cells slots) (hx : p.tables.exec = Jvm.exec) {o : Int} {b : Addr} {pcT pcF : Nat} (hd : Dj c.code pc (.ifnull o) o pcT pcF) (k : Go p e below s Q C S (T.setTop (mkF m pcF Ls rest))) : Go p e below s Q C S (T.setTop (mkF m pc Ls (.ref b :: rest))) := by
  obtain ⟨hd, -, -, rfl⟩ := hd; exact k.step fun _ t => XS.ifnullNo X.here hx rfl hd rfl t
/-! returns -/
theorem w_ret (X : Stand p l e R s m args below meth c T locs cells slots) (hx : p.tables.exec = Jvm.exec) (hret : meth.sig.returnType = none) (hlk : meth.locks = false) (hd : Dc c.code pc .return_ 1 pc') (hC : cells ≤ C) (hS : slots ≤ S) (hQ : Q none T.heap locs) : Go p e below s Q C S (T.setTop (mkF m pc Ls [])) := by
  obtain ⟨fs, hr, hrun, hended, hW, hsame⟩ := X.leave (v := none) (fun _ => rfl) hlk
  exact ⟨_, _, X.returnOut hx hret hd.1 hr, hrun, hended, _, _, rfl, hQ, ⟨_, rfl⟩, hW, hsame.mono hC hS⟩
theorem w_retI (X : Stand p l e R s m args below meth c T locs cells slots) (hx : p.tables.exec = Jvm.exec) (hret : meth.sig.returnType = some .int) (hlk : meth.locks = false) {z : Int32} (hd : Dc c.code pc .ireturn 1 pc') (hC : cells ≤ C) (hS : slots ≤ S) (hQ : Q (some (.int z)) T.heap locs) : Go p e below s Q C S (T.setTop (mkF m pc Ls (.int z :: rest))) := by
  obtain ⟨fs, hr, hrun, hended, hW, hsame⟩ := X.leave (v := some (.int z)) (fun h => by rw [hret] at h; cases h) hlk
  exact ⟨_, _, retOut X hx hret rfl (Or.inl ⟨rfl, Or.inl rfl, _, rfl⟩) hd.1 hr, hrun, hended, _, _, rfl, hQ, ⟨_, rfl⟩, hW, hsame.mono hC hS⟩
theorem w_retN (X : Stand p l e R s m args below meth c T locs cells slots) (hx : p.tables.exec = Jvm.exec) {t : FieldType} (hret : meth.sig.returnType = some t) (ht : t = .boolean ∨ t = .byte ∨ t = .char ∨ t = .short) (hlk : meth.locks = false) {z : Int32} (hd : Dc c.code pc .ireturn 1 pc') (hC : cells ≤ C) (hS : slots ≤ S) (hQ : Q (some (.int (nar t z))) T.heap locs) : Go p e below s Q C S (T.setTop (mkF m pc Ls (.int z :: rest))) := by
  obtain ⟨fs, hr, hrun, hended, hW, hsame⟩ := X.leave (v := some (.int (nar t z))) (fun h => by rw [hret] at h; cases h) hlk
  exact ⟨_, _, retN X hx hret ht hd.1 hr, hrun, hended, _, _, rfl, hQ, ⟨_, rfl⟩, hW, hsame.mono hC hS⟩
theorem w_retJ (X : Stand p l e R s m args below meth c T locs cells slots) (hx : p.tables.exec = Jvm.exec) (hret : meth.sig.returnType = some .long) (hlk : meth.locks = false) {z : Int64} (hd : Dc c.code pc .lreturn 1 pc') (hC : cells ≤ C) (hS : slots ≤ S) (hQ : Q (some (.long z)) T.heap locs) : Go p e below s Q C S (T.setTop (mkF m pc Ls (.long z :: rest))) := by
  obtain ⟨fs, hr, hrun, hended, hW, hsame⟩ := X.leave (v := some (.long z)) (fun h => by rw [hret] at h; cases h) hlk
  exact ⟨_, _, retOut X hx hret rfl (Or.inr (Or.inl ⟨rfl, rfl, _, rfl⟩)) hd.1 hr, hrun, hended, _, _, rfl, hQ, ⟨_, rfl⟩, hW, hsame.mono hC hS⟩
theorem w_retA (X : Stand p l e R s m args below meth c T locs cells slots) (hx : p.tables.exec = Jvm.exec) {t : FieldType} {a : Addr} (hret : meth.sig.returnType = some t) (ht : t.isReference = true) (hn : narrow t (.ref a) = .ref a) (hlk : meth.locks = false) (hd : Dc c.code pc .areturn 1 pc') (hC : cells ≤ C) (hS : slots ≤ S) (hQ : Q (some (.ref a)) T.heap locs) : Go p e below s Q C S (T.setTop (mkF m pc Ls (.ref a :: rest))) := by
  obtain ⟨fs, hr, hrun, hended, hW, hsame⟩ := X.leave (v := some (.ref a)) (fun h => by rw [hret] at h; cases h) hlk
  exact ⟨_, _, retOut X hx hret hn (Or.inr (Or.inr (Or.inr (Or.inr ⟨rfl, ht, rfl⟩)))) hd.1 hr, hrun, hended, _, _, rfl, hQ, ⟨_, rfl⟩, hW, hsame.mono hC hS⟩
/-! contracts -/
def Ct (l : Launch) (Z : State) (y : MethodName) (bytes : ByteArray) (maxL : Nat) (ret : Option FieldType) (rm : Room) (as' : Array Value) (h : Heap) (Q : Option Value → Heap → List Loc → Prop) : Prop :=
  MetFree l y (head1 [Jvm.Cond.code y bytes maxL ret] rm) (fun a U => a = as' ∧ Z.Warmed39 U.vm ∧ U.heap = h) (fun _ _ _ _ _ => True) (fun _ U o U' => ∃ v L, o = .returned v ∧ Q v U'.heap L ∧ FrameEnd U o U' L rm.cells rm.slots)
theorem w_body {y : MethodName} {bytes : ByteArray} {maxL : Nat} {ret : Option FieldType} {rm : Room} {as' : Array Value} {ws : List Jvm.Cond} (hp : plainFor y = true)
    (body : ∀ (p : Program) (e : Env) (s : State) (m : MethodId) (below : List Frame) (meth : Method) (c : Code) (T : State), Stand p l e rm s m as' below meth c T [] 0 0 → p.tables.exec = Jvm.exec → c.code = bytes → c.maxLocals = maxL → s.vm.findClass y.cls = some m.cls → meth.name = y.name → meth.sig.returnType = ret → meth.locks = false → Z.Warmed39 s.vm → T.heap = h → Go p e below s Q C S (T.setTop (entryFrame m as' maxL))) :
    MetFree l y (head1 (Jvm.Cond.code y bytes maxL ret :: ws) rm) (fun a U => a = as' ∧ Z.Warmed39 U.vm ∧ U.heap = h) (fun _ _ _ _ _ => True) (fun _ U o U' => ∃ v L, o = .returned v ∧ Q v U'.heap L ∧ FrameEnd U o U' L C S) := by
  refine MetFree.of_bodySF hp hisR ?_
  intro p e s m args below meth c s₁ Bd hml0 hP hK
  obtain ⟨rfl, hZ, hh⟩ := hP
  exact body p e s m below meth c s₁ (Stand.of_body Bd) Bd.exec Bd.bytes hml0 (findClass_of_methodNamed Bd.named) (name_of_methodNamed Bd.named Bd.method).1 Bd.returns Bd.notSynchronized hZ (by rw [← hh, Bd.state]; rfl)
theorem Ct.body {y : MethodName} {bytes : ByteArray} {maxL : Nat} {ret : Option FieldType} {rm : Room} {as' : Array Value} (hp : plainFor y = true)
    (body : ∀ (p : Program) (e : Env) (s : State) (m : MethodId) (below : List Frame) (meth : Method) (c : Code) (T : State), Stand p l e rm s m as' below meth c T [] 0 0 → p.tables.exec = Jvm.exec → c.code = bytes → c.maxLocals = maxL → s.vm.findClass y.cls = some m.cls → meth.name = y.name → meth.sig.returnType = ret → meth.locks = false → Z.Warmed39 s.vm → T.heap = h → Go p e below s Q rm.cells rm.slots (T.setTop (entryFrame m as' maxL))) :
    Ct l Z y bytes maxL ret rm as' h Q := w_body hp body
/-! calls -/
theorem w_callS (X : Stand p l e R s m args below meth c T locs cells slots) (hx : p.tables.exec = Jvm.exec) (hZ : Z.Warmed39 s.vm) (eT : T.heap = h) {kk : Nat} (hml : c.maxLocals = kk) (hkk : Ls.size = kk) {own : String} (hown : s.vm.findClass own = some m.cls) {index : Nat} {y : MethodName} {bytes : ByteArray} {maxL : Nat} {ret : Option FieldType} {rm : Room} {as' : Array Value} {Qc : Option Value → Heap → List Loc → Prop}
    (w1 : (Jvm.Cond.methodLink own index y).before a0 Z = true) (w2 : (Jvm.Cond.static y).before a0 Z = true) (w3 : (Jvm.Cond.initialized y.cls).before a0 Z = true) (w4 : (Jvm.Cond.code y bytes maxL ret).before a0 Z = true) (hy : y.cls ≠ "java/lang/invoke/MethodHandle" ∧ y.cls ≠ "java/lang/invoke/VarHandle")
    (hM : Ct l Z y bytes maxL ret rm as' h Qc) (hd : Dc c.code pc (.invokestatic index) 3 pc') {ps : List FieldType} {r : Option FieldType} (hpd : parseMethodDescriptor y.desc = some ⟨ps, r⟩) {argsL st rest : List Value} (has : argsL.toArray = as') (hst : st = argsL.reverse ++ rest) (hlen : argsL.length = ps.length) {W : Nat} (hW : (rest.map fun v => v.category).sum = W)
    (hf : rm.frames + 1 ≤ R.frames) (hl : W + (maxL + 11) + rm.locals ≤ R.locals) (hcl : cells + rm.cells ≤ R.cells) (hsl : slots + rm.slots ≤ R.slots)
    (k : ∀ (v : Option Value) (T' : State) (L : List Loc), Stand p l e R s m args below meth c T' (locs ++ L) (cells + rm.cells) (slots + rm.slots) → Qc v T'.heap L → Go p e below s Q C S (T'.setTop (mkF m pc' Ls (v.toList ++ rest)))) :
    Go p e below s Q C S (T.setTop (mkF m pc Ls st)) := by
  subst hst has hW
  obtain ⟨hd, rfl⟩ := hd
  obtain ⟨v, _, ⟨T', L', k', n'⟩, -, X', ⟨Lc, hQ, e1, e2, e3⟩, st⟩ := Jvm.LawKit.callS X hx (y := y) hown (mvT hZ w1) (mvT hZ w2) (mvT hZ w3) (mvT hZ w4) hy (backOf (W := (rest.map fun v => v.category).sum) hM hZ w4 w3 hf hl) (g := mkF m pc Ls (argsL.reverse ++ rest)) rfl (hkk.trans hml.symm) (argsL := argsL) (rest := rest) (lenOf hpd hlen) rfl (by show 2 * 0 + _ ≤ _; omega) hd (fun _ _ => ⟨rfl, eT, hcl, hsl⟩)
  dsimp only [Pt.U, Pt.locs, Pt.cells, Pt.slots] at X' e1 e2 e3 st hQ
  subst e1 e2 e3
  exact (k v T' Lc X' hQ).step st
theorem w_callV (X : Stand p l e R s m args below meth c T locs cells slots) (hx : p.tables.exec = Jvm.exec) (hZ : Z.Warmed39 s.vm) (eT : T.heap = h) {kk : Nat} (hml : c.maxLocals = kk) (hkk : Ls.size = kk) {own : String} (hown : s.vm.findClass own = some m.cls) {index : Nat} {y : MethodName} {bytes : ByteArray} {maxL : Nat} {ret : Option FieldType} {rm : Room} {as' : Array Value} {Qc : Option Value → Heap → List Loc → Prop}
    (w1 : (Jvm.Cond.methodLink own index y).before a0 Z = true) (w2 : (Jvm.Cond.declares y).before a0 Z = true) (w5 : (Jvm.Cond.selects y.cls y y).before a0 Z = true) (w6 : (Jvm.Cond.instanceMethod y).before a0 Z = true) (w3 : (Jvm.Cond.initialized y.cls).before a0 Z = true) (w4 : (Jvm.Cond.code y bytes maxL ret).before a0 Z = true) (hy : y.cls ≠ "java/lang/invoke/MethodHandle" ∧ y.cls ≠ "java/lang/invoke/VarHandle")
    (hM : Ct l Z y bytes maxL ret rm as' h Qc) {b : Addr} (E : Exa Z h b y.cls) (hd : Dc c.code pc (.invokevirtual index) 3 pc') {ps : List FieldType} {r : Option FieldType} (hpd : parseMethodDescriptor y.desc = some ⟨ps, r⟩) {argsL st rest : List Value} (has : (.ref b :: argsL).toArray = as') (hst : st = argsL.reverse ++ .ref b :: rest) (hlen : argsL.length = ps.length) {W : Nat} (hW : (rest.map fun v => v.category).sum = W)
    (hf : rm.frames + 1 ≤ R.frames) (hl : W + (maxL + 11) + rm.locals ≤ R.locals) (hcl : cells + rm.cells ≤ R.cells) (hsl : slots + rm.slots ≤ R.slots)
    (k : ∀ (v : Option Value) (T' : State) (L : List Loc), Stand p l e R s m args below meth c T' (locs ++ L) (cells + rm.cells) (slots + rm.slots) → Qc v T'.heap L → Go p e below s Q C S (T'.setTop (mkF m pc' Ls (v.toList ++ rest)))) :
    Go p e below s Q C S (T.setTop (mkF m pc Ls st)) := by
  subst hst has hW
  obtain ⟨hd, rfl⟩ := hd
  obtain ⟨cq, kq, qa, qb, qc⟩ := isOf hZ eT E
  obtain ⟨v, _, ⟨T', L', k', n'⟩, -, X', ⟨Lc, hQ, e1, e2, e3⟩, st⟩ := X.virtualBack hx (y := y) (z := y) hown (mvT hZ w1) (mvT hZ w2) (notFace_of_selects (args := #[]) (mvT hZ w5)) (mvT hZ w5) (mvT hZ w6) hy (backOf (W := (rest.map fun v => v.category).sum) hM hZ w4 w3 hf hl) qa qc (g := mkF m pc Ls (argsL.reverse ++ .ref b :: rest)) rfl (hkk.trans hml.symm) (Steps.refl _) (argsL := argsL) (rest := rest) (lenOf hpd hlen) rfl (by show 2 * 0 + _ ≤ _; omega) hd (fun _ _ => ⟨rfl, eT, hcl, hsl⟩)
  dsimp only [Pt.U, Pt.locs, Pt.cells, Pt.slots] at X' e1 e2 e3 st hQ
  subst e1 e2 e3
  exact (k v T' Lc X' hQ).step fun _ q => st.trans q
theorem w_callSP (X : Stand p l e R s m args below meth c T locs cells slots) (hx : p.tables.exec = Jvm.exec) (hZ : Z.Warmed39 s.vm) (eT : T.heap = h) {kk : Nat} (hml : c.maxLocals = kk) (hkk : Ls.size = kk) {own : String} (hown : s.vm.findClass own = some m.cls) {index : Nat} {y : MethodName} {bytes : ByteArray} {maxL : Nat} {ret : Option FieldType} {f lo : Nat} {as' : Array Value} {rv : Value}
    (w1 : (Jvm.Cond.methodLink own index y).before a0 Z = true) (w2 : (Jvm.Cond.static y).before a0 Z = true) (w3 : (Jvm.Cond.initialized y.cls).before a0 Z = true) (w4 : (Jvm.Cond.code y bytes maxL ret).before a0 Z = true) (hy : y.cls ≠ "java/lang/invoke/MethodHandle" ∧ y.cls ≠ "java/lang/invoke/VarHandle")
    (hM : Ct l Z y bytes maxL ret ({ frames := f, cells := 0, slots := 0, locals := lo } : Room) as' h (fun v h' L => v = some rv ∧ h' = h ∧ L = [])) (hd : Dc c.code pc (.invokestatic index) 3 pc') {ps : List FieldType} {r : Option FieldType} (hpd : parseMethodDescriptor y.desc = some ⟨ps, r⟩) {argsL st rest : List Value} (has : argsL.toArray = as') (hst : st = argsL.reverse ++ rest) (hlen : argsL.length = ps.length) {W : Nat} (hW : (rest.map fun v => v.category).sum = W)
    (hf : f + 1 ≤ R.frames) (hl : W + (maxL + 11) + lo ≤ R.locals) (hcl : cells ≤ R.cells) (hsl : slots ≤ R.slots)
    (k : ∀ T', Stand p l e R s m args below meth c T' locs cells slots → T'.heap = h → Go p e below s Q C S (T'.setTop (mkF m pc' Ls (rv :: rest)))) :
    Go p e below s Q C S (T.setTop (mkF m pc Ls st)) := by
  refine w_callS X hx hZ eT hml hkk hown w1 w2 w3 w4 hy hM hd hpd has hst hlen hW hf hl hcl hsl fun v T' L X' hQ => ?_
  obtain ⟨rfl, e', rfl⟩ := hQ
  rw [List.append_nil] at X'
  exact k T' X' e'
theorem w_callVP (X : Stand p l e R s m args below meth c T locs cells slots) (hx : p.tables.exec = Jvm.exec) (hZ : Z.Warmed39 s.vm) (eT : T.heap = h) {kk : Nat} (hml : c.maxLocals = kk) (hkk : Ls.size = kk) {own : String} (hown : s.vm.findClass own = some m.cls) {index : Nat} {y : MethodName} {bytes : ByteArray} {maxL : Nat} {ret : Option FieldType} {f lo : Nat} {as' : Array Value} {rv : Value}
    (w1 : (Jvm.Cond.methodLink own index y).before a0 Z = true) (w2 : (Jvm.Cond.declares y).before a0 Z = true) (w5 : (Jvm.Cond.selects y.cls y y).before a0 Z = true) (w6 : (Jvm.Cond.instanceMethod y).before a0 Z = true) (w3 : (Jvm.Cond.initialized y.cls).before a0 Z = true) (w4 : (Jvm.Cond.code y bytes maxL ret).before a0 Z = true) (hy : y.cls ≠ "java/lang/invoke/MethodHandle" ∧ y.cls ≠ "java/lang/invoke/VarHandle")
    (hM : Ct l Z y bytes maxL ret ({ frames := f, cells := 0, slots := 0, locals := lo } : Room) as' h (fun v h' L => v = some rv ∧ h' = h ∧ L = [])) {b : Addr} (E : Exa Z h b y.cls) (hd : Dc c.code pc (.invokevirtual index) 3 pc') {ps : List FieldType} {r : Option FieldType} (hpd : parseMethodDescriptor y.desc = some ⟨ps, r⟩) {argsL st rest : List Value} (has : (.ref b :: argsL).toArray = as') (hst : st = argsL.reverse ++ .ref b :: rest) (hlen : argsL.length = ps.length) {W : Nat} (hW : (rest.map fun v => v.category).sum = W)
    (hf : f + 1 ≤ R.frames) (hl : W + (maxL + 11) + lo ≤ R.locals) (hcl : cells ≤ R.cells) (hsl : slots ≤ R.slots)
    (k : ∀ T', Stand p l e R s m args below meth c T' locs cells slots → T'.heap = h → Go p e below s Q C S (T'.setTop (mkF m pc' Ls (rv :: rest)))) :
    Go p e below s Q C S (T.setTop (mkF m pc Ls st)) := by
  refine w_callV X hx hZ eT hml hkk hown w1 w2 w5 w6 w3 w4 hy hM E hd hpd has hst hlen hW hf hl hcl hsl fun v T' L X' hQ => ?_
  obtain ⟨rfl, e', rfl⟩ := hQ
  rw [List.append_nil] at X'
  exact k T' X' e'
theorem w_callI (X : Stand p l e R s m args below meth c T locs cells slots) (hx : p.tables.exec = Jvm.exec) (hZ : Z.Warmed39 s.vm) (eT : T.heap = h) {kk : Nat} (hml : c.maxLocals = kk) (hkk : Ls.size = kk) {own : String} (hown : s.vm.findClass own = some m.cls) {index : Nat} {y : MethodName} {bytes : ByteArray} {maxL : Nat} {rm : Room} {as' : Array Value} {Qc : Option Value → Heap → List Loc → Prop} (hy1 : y.name = "<init>")
    (w1 : (Jvm.Cond.methodLink own index y).before a0 Z = true) (w6 : (Jvm.Cond.instanceMethod y).before a0 Z = true) (w3 : (Jvm.Cond.initialized y.cls).before a0 Z = true) (w4 : (Jvm.Cond.code y bytes maxL none).before a0 Z = true) (hy : y.cls ≠ "java/lang/invoke/MethodHandle" ∧ y.cls ≠ "java/lang/invoke/VarHandle")
    (hM : Ct l Z y bytes maxL none rm as' h Qc) {b : Addr} (hd : Dc c.code pc (.invokespecial index) 3 pc') {ps : List FieldType} {r : Option FieldType} (hpd : parseMethodDescriptor y.desc = some ⟨ps, r⟩) {argsL st rest : List Value} (has : (.ref b :: argsL).toArray = as') (hst : st = argsL.reverse ++ .ref b :: rest) (hlen : argsL.length = ps.length) {W : Nat} (hW : (rest.map fun v => v.category).sum = W)
    (hf : rm.frames + 1 ≤ R.frames) (hl : W + (maxL + 11) + rm.locals ≤ R.locals) (hcl : cells + rm.cells ≤ R.cells) (hsl : slots + rm.slots ≤ R.slots)
    (k : ∀ (v : Option Value) (T' : State) (L : List Loc), Stand p l e R s m args below meth c T' (locs ++ L) (cells + rm.cells) (slots + rm.slots) → Qc v T'.heap L → Go p e below s Q C S (T'.setTop (mkF m pc' Ls (v.toList ++ rest)))) :
    Go p e below s Q C S (T.setTop (mkF m pc Ls st)) := by
  subst hst has hW
  obtain ⟨hd, rfl⟩ := hd
  obtain ⟨v, _, ⟨T', L', k', n'⟩, -, X', ⟨Lc, hQ, e1, e2, e3⟩, st⟩ := X.specialBack hx (y := y) hy1 hown (mvT hZ w1) (mvT hZ w6) (mvT hZ w4) hy (backOf (W := (rest.map fun v => v.category).sum) hM hZ w4 w3 hf hl) (g := mkF m pc Ls (argsL.reverse ++ .ref b :: rest)) rfl (hkk.trans hml.symm) (Steps.refl _) (a := b) (argsL := argsL) (rest := rest) (lenOf hpd hlen) rfl (by show 2 * 0 + _ ≤ _; omega) hd (fun _ _ => ⟨rfl, eT, hcl, hsl⟩)
  dsimp only [Pt.U, Pt.locs, Pt.cells, Pt.slots] at X' e1 e2 e3 st hQ
  subst e1 e2 e3
  exact (k v T' Lc X' hQ).step fun _ q => st.trans q
theorem w_objinit (X : Stand p l e R s m args below meth c T locs cells slots) (hx : p.tables.exec = Jvm.exec) (hZ : Z.Warmed39 s.vm) (eT : T.heap = h) {kk : Nat} (hml : c.maxLocals = kk) (hkk : Ls.size = kk) {own : String} (hown : s.vm.findClass own = some m.cls) {index : Nat}
    (w1 : (Jvm.Cond.methodLink own index Lib.objectInit).before a0 Z = true) (w2 : (Jvm.Cond.instanceMethod Lib.objectInit).before a0 Z = true) (w3 : (Jvm.Cond.code Lib.objectInit ⟨#[0xb1]⟩ 1 none).before a0 Z = true) (hd : Dc c.code pc (.invokespecial index) 3 pc') {a : Addr} (hf : 1 ≤ R.frames) {W : Nat} (hW : (rest.map fun v => v.category).sum = W) (hl : W + 12 ≤ R.locals)
    (k : ∀ T', Stand p l e R s m args below meth c T' locs cells slots → T'.heap = h → Go p e below s Q C S (T'.setTop (mkF m pc' Ls rest))) : Go p e below s Q C S (T.setTop (mkF m pc Ls (.ref a :: rest))) := by
  obtain ⟨hd, rfl⟩ := hd
  obtain ⟨T', X', e', st⟩ := initO X hx hZ hown w1 w2 w3 eT (g := mkF m pc Ls (.ref a :: rest)) rfl (hkk.trans hml.symm) rfl hd hf (W := W) (by show 2 * 0 + _ ≤ _; omega) hl
  exact (k T' X' e').step st
/-! fields -/
theorem w_getf (X : Stand p l e R s m args below meth c T locs cells slots) (hx : p.tables.exec = Jvm.exec) (hZ : Z.Warmed39 s.vm) (eT : T.heap = h) {own O n d : String} {index : Nat} (hown : s.vm.findClass own = some m.cls) (w : (Jvm.Cond.fieldLink own index O n d).before a0 Z = true) {a : Addr} {v : Value} (F : Fld Z h a O n d v) (hd : Dc c.code pc (.getfield index) 3 pc')
    (k : ∀ T', Stand p l e R s m args below meth c T' locs cells slots → T'.heap = h → Go p e below s Q C S (T'.setTop (mkF m pc' Ls (v :: rest)))) : Go p e below s Q C S (T.setTop (mkF m pc Ls (.ref a :: rest))) := by
  obtain ⟨hd, rfl⟩ := hd
  obtain ⟨T', X', e', st⟩ := getF X hx hZ hown (host := "") (Or.inl w) Via.refl eT F (g := mkF m pc Ls (.ref a :: rest)) rfl rfl hd
  exact (k T' X' e').step st
theorem w_putf (X : Stand p l e R s m args below meth c T locs cells slots) (hx : p.tables.exec = Jvm.exec) (hZ : Z.Warmed39 s.vm) (eT : T.heap = h) {own O n d : String} {index kk : Nat} {ty : FieldType} (hown : s.vm.findClass own = some m.cls) (w : (Jvm.Cond.fieldLink own index O n d).before a0 Z = true) {a : Addr} {v old : Value} (F : Fld Z h a O n d old) (E : Exa Z h a O) (L : (Jvm.Cond.lays O O n d).before a0 Z = true ∨ ((Jvm.Cond.laysFinal O O n d).before a0 Z = true ∧ own = O ∧ meth.name = "<init>")) (wi : (Jvm.Cond.instantiable O kk).before a0 Z = true)
    (hty : parseFieldDescriptor d = some ty) (hn : narrow ty v = v) (hf : fits ty v = true) (hd : Dc c.code pc (.putfield index) 3 pc')
    (k : ∀ T' h', Stand p l e R s m args below meth c T' (locs ++ [⟨a, Jvm.RoadKit.slotOf Z O n d⟩]) cells slots → T'.heap = h' → Wr h h' a (Jvm.RoadKit.slotOf Z O n d) v → Go p e below s Q C S (T'.setTop (mkF m pc' Ls rest))) : Go p e below s Q C S (T.setTop (mkF m pc Ls (v :: .ref a :: rest))) := by
  obtain ⟨hd, rfl⟩ := hd
  obtain ⟨T', h', X', e', W, st⟩ := putF X hx hZ hown (host := "") (Or.inl w) Via.refl eT F E L wi hty hn hf (g := mkF m pc Ls (v :: .ref a :: rest)) rfl rfl hd
  exact (k T' h' X' e' W).step st
theorem w_new (X : Stand p l e R s m args below meth c T locs cells slots) (hx : p.tables.exec = Jvm.exec) (hZ : Z.Warmed39 s.vm) (eT : T.heap = h) {own K : String} {index n : Nat} (hown : s.vm.findClass own = some m.cls) (w : (Jvm.Cond.classLink own index K).before a0 Z = true) (wi : (Jvm.Cond.instantiable K n).before a0 Z = true) (wz : (Jvm.Cond.initialized K).before a0 Z = true) (hd : Dc c.code pc (.new index) 3 pc') (hcl : cells + 1 ≤ R.cells) (hsl : slots + n ≤ R.slots)
    (k : ∀ T' h' b, b = h.size → Stand p l e R s m args below meth c T' locs (cells + 1) (slots + n) → T'.heap = h' → Ext h h' → Exa Z h' b K → (∀ {O nm d : String} {ty : FieldType}, Laid Z a0 K O nm d → parseFieldDescriptor d = some ty → Fld Z h' b O nm d (defaultValue ty)) → Go p e below s Q C S (T'.setTop (mkF m pc' Ls (.ref b :: rest)))) : Go p e below s Q C S (T.setTop (mkF m pc Ls rest)) := by
  obtain ⟨hd, rfl⟩ := hd
  obtain ⟨T', h', X', e', E, A, D, -, st⟩ := newO X hx hZ hown w wi wz eT (g := mkF m pc Ls rest) rfl hd hcl hsl
  exact (k T' h' _ rfl X' e' E A D).step st
/-! arrays: n places, place i holds f i -/
def AV (Z : State) (h : Heap) (a : Addr) (ty : FieldType) (n : Nat) (f : Nat → Value) : Prop := n < 2 ^ 31 ∧ ∃ cl : Cell, Arr Z h a cl ty ∧ cl.slots.size = n ∧ ∀ i, i < n → cl.slots[i]? = some (f i)
theorem AV.lt {a : Addr} {ty : FieldType} {n : Nat} {f : Nat → Value} (A : AV Z h a ty n f) : a < h.size := by obtain ⟨-, c, A, -⟩ := A; exact A.lt
theorem AV.ext {a : Addr} {ty : FieldType} {n : Nat} {f : Nat → Value} {h' : Heap} (A : AV Z h a ty n f) (E : Ext h h') : AV Z h' a ty n f := by obtain ⟨h1, c, A, r⟩ := A; exact ⟨h1, c, A.ext E, r⟩
theorem AV.other {a b : Addr} {ty : FieldType} {n sl : Nat} {v : Value} {f : Nat → Value} {h' : Heap} (A : AV Z h a ty n f) (W : Wr h h' b sl v) (q : a ≠ b) : AV Z h' a ty n f := by obtain ⟨h1, c, A, r⟩ := A; exact ⟨h1, c, A.other W q, r⟩
theorem AV.keep {a : Addr} {ty : FieldType} {n : Nat} {ws : List Addr} {f : Nat → Value} {h' : Heap} (A : AV Z h a ty n f) (K : Keep h h' ws) (q : a ∉ ws) : AV Z h' a ty n f := by obtain ⟨h1, c, A, r⟩ := A; exact ⟨h1, c, ⟨K.2.1 a c A.1 q, A.2⟩, r⟩
theorem AV.congr {a : Addr} {ty : FieldType} {n : Nat} {f g : Nat → Value} (A : AV Z h a ty n f) (q : ∀ i, i < n → f i = g i) : AV Z h a ty n g := by obtain ⟨h1, c, A, r1, r2⟩ := A; exact ⟨h1, c, A, r1, fun i hi => by rw [r2 i hi, q i hi]⟩
theorem av_idx {j : Int32} {i n : Nat} {cl : Cell} (hj : j.toInt = (i : Int)) (hi : i < n) (hc : cl.slots.size = n) : ¬ (j < 0 ∨ cl.slots.size ≤ j.toNatClampNeg) ∧ j.toNatClampNeg = i := by
  have e0 : (0 : Int32).toInt = 0 := rfl
  simp only [Int32.lt_iff_toInt_lt, Int32.toNatClampNeg, e0, hj, hc]; omega
def put (f : Nat → Value) (i : Nat) (v : Value) : Nat → Value := fun k => if k = i then v else f k
theorem put_at (f : Nat → Value) (i : Nat) (v : Value) : put f i v i = v := by simp [put]
theorem put_ne (f : Nat → Value) {i k : Nat} (v : Value) (q : k ≠ i) : put f i v k = f k := by simp [put, q]
theorem AV.same {a : Addr} {ty : FieldType} {n : Nat} {v : Value} {f : Nat → Value} {h' : Heap} {i : Nat} (A : AV Z h a ty n f) (hi : i < n) (W : Wr h h' a i v) : AV Z h' a ty n (put f i v) := by
  obtain ⟨h1, c, A, r1, r2⟩ := A
  refine ⟨h1, _, A.same W, by rw [sz_set]; exact r1, fun k hk => ?_⟩
  by_cases u : k = i
  · subst u; rw [put_at]; simp [Cell.setSlot, r1, hk]
  · rw [put_ne _ _ u]; simp only [Cell.setSlot]; rw [Array.getElem?_setIfInBounds_ne (Ne.symm u)]; exact r2 k hk
theorem w_newarr (X : Stand p l e R s m args below meth c T locs cells slots) (hx : p.tables.exec = Jvm.exec) (hZ : Z.Warmed39 s.vm) (eT : T.heap = h) {aty : ArrayType} (w : (Jvm.Cond.arrayClass (newarray.typeOf aty)).before a0 Z = true) (hd : Dc c.code pc (.newarray aty) 2 pc') {z : Int32} {n cap : Nat} (hz : z.toInt = (n : Int)) (hcap : n ≤ cap) (hb : cap * 8 ≤ 536870912) (hcl : cells + 1 ≤ R.cells) (hsl : slots + cap ≤ R.slots)
    (k : ∀ T' h' b, b = h.size → Stand p l e R s m args below meth c T' locs (cells + 1) (slots + cap) → T'.heap = h' → Ext h h' → AV Z h' b (newarray.typeOf aty) n (fun _ => defaultValue (newarray.typeOf aty)) → Go p e below s Q C S (T'.setTop (mkF m pc' Ls (.ref b :: rest)))) : Go p e below s Q C S (T.setTop (mkF m pc Ls (.int z :: rest))) := by
  obtain ⟨hd, rfl⟩ := hd
  have e0 : (0 : Int32).toInt = 0 := rfl
  have hn : ¬ z < 0 := by rw [Int32.lt_iff_toInt_lt]; omega
  have en : z.toNatClampNeg = n := by simp only [Int32.toNatClampNeg]; omega
  have hlt := Int32.toInt_lt z
  obtain ⟨T', h', cA, X', e', E, A, st⟩ := newP X hx hZ w eT (g := mkF m pc Ls (.int z :: rest)) rfl hd rfl hn (cap := cap) (by omega) hb hcl hsl
  refine (k T' h' _ rfl X' e' E ⟨by omega, _, A, by rw [sz_new]; exact en, fun i hi => ?_⟩).step st
  simp [newA, en, hi]
theorem w_arrlen (X : Stand p l e R s m args below meth c T locs cells slots) (hx : p.tables.exec = Jvm.exec) (hZ : Z.Warmed39 s.vm) (eT : T.heap = h) {a : Addr} {ty : FieldType} {n : Nat} {f : Nat → Value} (A : AV Z h a ty n f) {z : Int32} (hz : z.toInt = (n : Int)) (hd : Dc c.code pc .arraylength 1 pc') (k : Go p e below s Q C S (T.setTop (mkF m pc' Ls (.int z :: rest)))) : Go p e below s Q C S (T.setTop (mkF m pc Ls (.ref a :: rest))) := by
  obtain ⟨hd, rfl⟩ := hd
  obtain ⟨h1, c, A, r1, -⟩ := A
  have ez : z = c.slots.size.toInt32 := Int32.toInt_inj.mp (by rw [len_toInt (by omega), hz, r1])
  subst ez
  exact k.step fun t q => X.arraylength hx (by rw [eT]; exact A.1) (State.isArrayOf_alike hZ.alike A.2.1) (g := mkF m pc Ls (.ref a :: rest)) rfl rfl hd t q
def iF (g : Nat → Int32) : Nat → Value := fun k => .int (g k)
def lF (g : Nat → Int64) : Nat → Value := fun k => .long (g k)
def upd {α : Type} (g : Nat → α) (i : Nat) (v : α) : Nat → α := fun k => if k = i then v else g k
theorem upd_at {α : Type} (g : Nat → α) (i : Nat) (v : α) : upd g i v i = v := by simp [upd]
theorem upd_ne {α : Type} (g : Nat → α) {i k : Nat} (v : α) (q : k ≠ i) : upd g i v k = g k := by simp [upd, q]
theorem put_iF (g : Nat → Int32) (i : Nat) (v : Int32) : put (iF g) i (.int v) = iF (upd g i v) := by funext k; simp only [put, iF, upd]; split <;> rfl
theorem put_lF (g : Nat → Int64) (i : Nat) (v : Int64) : put (lF g) i (.long v) = lF (upd g i v) := by funext k; simp only [put, lF, upd]; split <;> rfl
theorem w_baload (X : Stand p l e R s m args below meth c T locs cells slots) (hx : p.tables.exec = Jvm.exec) (hZ : Z.Warmed39 s.vm) (eT : T.heap = h) {a : Addr} {n : Nat} {g : Nat → Int32} (A : AV Z h a .byte n (iF g)) {j : Int32} {i : Nat} (hj : j.toInt = (i : Int)) (hi : i < n) {z : Int32} (hv : g i = z) (hd : Dc c.code pc .baload 1 pc') (k : Go p e below s Q C S (T.setTop (mkF m pc' Ls (.int z :: rest)))) : Go p e below s Q C S (T.setTop (mkF m pc Ls (.int j :: .ref a :: rest))) := by
  obtain ⟨hd, rfl⟩ := hd
  subst hv
  obtain ⟨h1, cl, A, r1, r2⟩ := A
  obtain ⟨q1, q2⟩ := av_idx hj hi r1
  exact k.step fun t q => X.baloadBytes hx (by rw [eT]; exact A.1) (State.isArrayOf_alike hZ.alike A.2.1) A.2.2 q1 (by rw [q2, r2 i hi]; rfl) (g := mkF m pc Ls (.int j :: .ref a :: rest)) rfl rfl hd t q
theorem w_iaload (X : Stand p l e R s m args below meth c T locs cells slots) (hx : p.tables.exec = Jvm.exec) (hZ : Z.Warmed39 s.vm) (eT : T.heap = h) {a : Addr} {n : Nat} {g : Nat → Int32} (A : AV Z h a .int n (iF g)) {j : Int32} {i : Nat} (hj : j.toInt = (i : Int)) (hi : i < n) {z : Int32} (hv : g i = z) (hd : Dc c.code pc .iaload 1 pc') (k : Go p e below s Q C S (T.setTop (mkF m pc' Ls (.int z :: rest)))) : Go p e below s Q C S (T.setTop (mkF m pc Ls (.int j :: .ref a :: rest))) := by
  obtain ⟨hd, rfl⟩ := hd
  subst hv
  obtain ⟨h1, cl, A, r1, r2⟩ := A
  obtain ⟨q1, q2⟩ := av_idx hj hi r1
  exact k.step fun t q => X.iaload hx (by rw [eT]; exact A.1) (State.isArrayOf_alike hZ.alike A.2.1) A.2.2 q1 (by rw [q2, r2 i hi]; rfl) (g := mkF m pc Ls (.int j :: .ref a :: rest)) rfl rfl hd t q
theorem w_laload (X : Stand p l e R s m args below meth c T locs cells slots) (hx : p.tables.exec = Jvm.exec) (hZ : Z.Warmed39 s.vm) (eT : T.heap = h) {a : Addr} {n : Nat} {g : Nat → Int64} (A : AV Z h a .long n (lF g)) {j : Int32} {i : Nat} (hj : j.toInt = (i : Int)) (hi : i < n) {z : Int64} (hv : g i = z) (hd : Dc c.code pc .laload 1 pc') (k : Go p e below s Q C S (T.setTop (mkF m pc' Ls (.long z :: rest)))) : Go p e below s Q C S (T.setTop (mkF m pc Ls (.int j :: .ref a :: rest))) := by
  obtain ⟨hd, rfl⟩ := hd
  subst hv
  obtain ⟨h1, cl, A, r1, r2⟩ := A
  obtain ⟨q1, q2⟩ := av_idx hj hi r1
  exact k.step fun t q => X.laload hx (by rw [eT]; exact A.1) (State.isArrayOf_alike hZ.alike A.2.1) A.2.2 q1 (by rw [q2, r2 i hi]; rfl) (g := mkF m pc Ls (.int j :: .ref a :: rest)) rfl rfl hd t q
theorem w_zaload (X : Stand p l e R s m args below meth c T locs cells slots) (hx : p.tables.exec = Jvm.exec) (hZ : Z.Warmed39 s.vm) (eT : T.heap = h) {a : Addr} {n : Nat} {g : Nat → Int32} (A : AV Z h a .boolean n (iF g)) {j : Int32} {i : Nat} (hj : j.toInt = (i : Int)) (hi : i < n) {z : Int32} (hv : g i = z) (hd : Dc c.code pc .baload 1 pc') (k : Go p e below s Q C S (T.setTop (mkF m pc' Ls (.int z :: rest)))) : Go p e below s Q C S (T.setTop (mkF m pc Ls (.int j :: .ref a :: rest))) := by
  obtain ⟨hd, rfl⟩ := hd
  subst hv
  obtain ⟨h1, cl, A, r1, r2⟩ := A
  obtain ⟨q1, q2⟩ := av_idx hj hi r1
  exact k.step fun t q => X.baloadBooleans hx (by rw [eT]; exact A.1) (State.isArrayOf_alike hZ.alike A.2.1) A.2.2 q1 (by rw [q2, r2 i hi]; rfl) (g := mkF m pc Ls (.int j :: .ref a :: rest)) rfl rfl hd t q
theorem w_bastore (X : Stand p l e R s m args below meth c T locs cells slots) (hx : p.tables.exec = Jvm.exec) (hZ : Z.Warmed39 s.vm) (eT : T.heap = h) {a : Addr} {n : Nat} {g : Nat → Int32} (A : AV Z h a .byte n (iF g)) {j : Int32} {x : Int32} {i : Nat} (hj : j.toInt = (i : Int)) (hi : i < n) (hd : Dc c.code pc .bastore 1 pc')
    (k : ∀ T' h', Stand p l e R s m args below meth c T' (locs ++ [⟨a, i⟩]) cells slots → T'.heap = h' → Wr h h' a i (.int (x.toInt8.toInt32)) → AV Z h' a .byte n (iF (upd g i (x.toInt8.toInt32))) → Go p e below s Q C S (T'.setTop (mkF m pc' Ls rest))) : Go p e below s Q C S (T.setTop (mkF m pc Ls (.int x :: .int j :: .ref a :: rest))) := by
  obtain ⟨hd, rfl⟩ := hd
  have A' := A
  obtain ⟨h1, cl, A, r1, r2⟩ := A
  obtain ⟨q1, q2⟩ := av_idx hj hi r1
  obtain ⟨T', h', X', e', W, st⟩ := stB X hx hZ eT A (j := j) q1 (g := mkF m pc Ls (.int x :: .int j :: .ref a :: rest)) rfl rfl hd
  rw [q2] at X' W
  exact (k T' h' X' e' W (put_iF g i _ ▸ A'.same hi W)).step st
theorem w_zastore (X : Stand p l e R s m args below meth c T locs cells slots) (hx : p.tables.exec = Jvm.exec) (hZ : Z.Warmed39 s.vm) (eT : T.heap = h) {a : Addr} {n : Nat} {g : Nat → Int32} (A : AV Z h a .boolean n (iF g)) {j : Int32} {x : Int32} {i : Nat} (hj : j.toInt = (i : Int)) (hi : i < n) (hd : Dc c.code pc .bastore 1 pc')
    (k : ∀ T' h', Stand p l e R s m args below meth c T' (locs ++ [⟨a, i⟩]) cells slots → T'.heap = h' → Wr h h' a i (.int (x &&& 1)) → AV Z h' a .boolean n (iF (upd g i (x &&& 1))) → Go p e below s Q C S (T'.setTop (mkF m pc' Ls rest))) : Go p e below s Q C S (T.setTop (mkF m pc Ls (.int x :: .int j :: .ref a :: rest))) := by
  obtain ⟨hd, rfl⟩ := hd
  have A' := A
  obtain ⟨h1, cl, A, r1, r2⟩ := A
  obtain ⟨q1, q2⟩ := av_idx hj hi r1
  obtain ⟨T', h', X', e', W, st⟩ := stZ X hx hZ eT A (j := j) q1 (g := mkF m pc Ls (.int x :: .int j :: .ref a :: rest)) rfl rfl hd
  rw [q2] at X' W
  exact (k T' h' X' e' W (put_iF g i _ ▸ A'.same hi W)).step st
theorem w_iastore (X : Stand p l e R s m args below meth c T locs cells slots) (hx : p.tables.exec = Jvm.exec) (hZ : Z.Warmed39 s.vm) (eT : T.heap = h) {a : Addr} {n : Nat} {g : Nat → Int32} (A : AV Z h a .int n (iF g)) {j : Int32} {x : Int32} {i : Nat} (hj : j.toInt = (i : Int)) (hi : i < n) (hd : Dc c.code pc .iastore 1 pc')
    (k : ∀ T' h', Stand p l e R s m args below meth c T' (locs ++ [⟨a, i⟩]) cells slots → T'.heap = h' → Wr h h' a i (.int (x)) → AV Z h' a .int n (iF (upd g i (x))) → Go p e below s Q C S (T'.setTop (mkF m pc' Ls rest))) : Go p e below s Q C S (T.setTop (mkF m pc Ls (.int x :: .int j :: .ref a :: rest))) := by
  obtain ⟨hd, rfl⟩ := hd
  have A' := A
  obtain ⟨h1, cl, A, r1, r2⟩ := A
  obtain ⟨q1, q2⟩ := av_idx hj hi r1
  obtain ⟨T', h', X', e', W, st⟩ := stI X hx hZ eT A (j := j) q1 (g := mkF m pc Ls (.int x :: .int j :: .ref a :: rest)) rfl rfl hd
  rw [q2] at X' W
  exact (k T' h' X' e' W (put_iF g i _ ▸ A'.same hi W)).step st
theorem w_lastore (X : Stand p l e R s m args below meth c T locs cells slots) (hx : p.tables.exec = Jvm.exec) (hZ : Z.Warmed39 s.vm) (eT : T.heap = h) {a : Addr} {n : Nat} {g : Nat → Int64} (A : AV Z h a .long n (lF g)) {j : Int32} {x : Int64} {i : Nat} (hj : j.toInt = (i : Int)) (hi : i < n) (hd : Dc c.code pc .lastore 1 pc')
    (k : ∀ T' h', Stand p l e R s m args below meth c T' (locs ++ [⟨a, i⟩]) cells slots → T'.heap = h' → Wr h h' a i (.long (x)) → AV Z h' a .long n (lF (upd g i (x))) → Go p e below s Q C S (T'.setTop (mkF m pc' Ls rest))) : Go p e below s Q C S (T.setTop (mkF m pc Ls (.long x :: .int j :: .ref a :: rest))) := by
  obtain ⟨hd, rfl⟩ := hd
  have A' := A
  obtain ⟨h1, cl, A, r1, r2⟩ := A
  obtain ⟨q1, q2⟩ := av_idx hj hi r1
  obtain ⟨T', h', X', e', W, st⟩ := stJ X hx hZ eT A (j := j) q1 (g := mkF m pc Ls (.long x :: .int j :: .ref a :: rest)) rfl rfl hd
  rw [q2] at X' W
  exact (k T' h' X' e' W (put_lF g i _ ▸ A'.same hi W)).step st
end Kit
section Num
/-! numbers: an int's or a long's unsigned worth -/
def u32 (x : Int32) : Nat := x.toBitVec.toNat
def u64 (x : Int64) : Nat := x.toBitVec.toNat
theorem u32_lt (x : Int32) : u32 x < 4294967296 := x.toBitVec.isLt
theorem u64_lt (x : Int64) : u64 x < 18446744073709551616 := x.toBitVec.isLt
theorem i_u32 (x : Int32) : x.toInt = if u32 x < 2147483648 then (u32 x : Int) else (u32 x : Int) - 4294967296 := by
  show x.toBitVec.toInt = _
  rw [BitVec.toInt_eq_toNat_cond]; unfold u32; split <;> split <;> omega
theorem i_u64 (x : Int64) : x.toInt = if u64 x < 9223372036854775808 then (u64 x : Int) else (u64 x : Int) - 18446744073709551616 := by
  show x.toBitVec.toInt = _
  rw [BitVec.toInt_eq_toNat_cond]; unfold u64; split <;> split <;> omega
theorem u32_i (x : Int32) : (u32 x : Int) = x.toInt % 4294967296 := by have := u32_lt x; rw [i_u32]; split <;> omega
theorem u64_i (x : Int64) : (u64 x : Int) = x.toInt % 18446744073709551616 := by have := u64_lt x; rw [i_u64]; split <;> omega
theorem u32_inj {x y : Int32} (q : u32 x = u32 y) : x = y := Int32.toBitVec_inj.mp (BitVec.eq_of_toNat_eq q)
theorem u64_inj {x y : Int64} (q : u64 x = u64 y) : x = y := Int64.toBitVec_inj.mp (BitVec.eq_of_toNat_eq q)
theorem i32_inj {x y : Int32} (q : x.toInt = y.toInt) : x = y := Int32.toInt_inj.mp q
theorem i64_inj {x y : Int64} (q : x.toInt = y.toInt) : x = y := Int64.toInt_inj.mp q
theorem i32_ne {x y : Int32} (q : x ≠ y) : x.toInt ≠ y.toInt := fun e => q (Int32.toInt_inj.mp e)
theorem i64_ne {x y : Int64} (q : x ≠ y) : x.toInt ≠ y.toInt := fun e => q (Int64.toInt_inj.mp e)
theorem i_rng32 (x : Int32) : -2147483648 ≤ x.toInt ∧ x.toInt ≤ 2147483647 := by have := u32_lt x; rw [i_u32]; split <;> omega
theorem i_rng64 (x : Int64) : -9223372036854775808 ≤ x.toInt ∧ x.toInt ≤ 9223372036854775807 := by have := u64_lt x; rw [i_u64]; split <;> omega
theorem u32_and (x m : Int32) {k : Nat} (hm : u32 m = 2 ^ k - 1) : u32 (x &&& m) = u32 x % 2 ^ k := by
  unfold u32 at *; rw [Int32.toBitVec_and, BitVec.toNat_and, hm, Nat.and_two_pow_sub_one_eq_mod]
theorem u64_and (x m : Int64) {k : Nat} (hm : u64 m = 2 ^ k - 1) : u64 (x &&& m) = u64 x % 2 ^ k := by
  unfold u64 at *; rw [Int64.toBitVec_and, BitVec.toNat_and, hm, Nat.and_two_pow_sub_one_eq_mod]
theorem and_or64 (x y z : Int64) : x &&& (y ||| z) = (x &&& y) ||| (x &&& z) := by
  apply Int64.toBitVec_inj.mp
  simp only [Int64.toBitVec_and, Int64.toBitVec_or]
  exact BitVec.and_or_distrib_left
theorem or_add {a b : Nat} (k : Nat) (ha : a % 2 ^ k = 0) (hb : b < 2 ^ k) : a ||| b = a + b := by
  obtain ⟨q, rfl⟩ := Nat.dvd_of_mod_eq_zero ha
  exact (Nat.two_pow_add_eq_or_of_lt hb q).symm
theorem u32_or {x y : Int32} (k : Nat) (ha : u32 x % 2 ^ k = 0) (hb : u32 y < 2 ^ k) : u32 (x ||| y) = u32 x + u32 y := by
  unfold u32 at *; rw [Int32.toBitVec_or, BitVec.toNat_or, or_add k ha hb]
theorem u64_or {x y : Int64} (k : Nat) (ha : u64 x % 2 ^ k = 0) (hb : u64 y < 2 ^ k) : u64 (x ||| y) = u64 x + u64 y := by
  unfold u64 at *; rw [Int64.toBitVec_or, BitVec.toNat_or, or_add k ha hb]
theorem u32_add (x y : Int32) : u32 (x + y) = (u32 x + u32 y) % 4294967296 := by unfold u32; rw [Int32.toBitVec_add, BitVec.toNat_add]
theorem u64_add (x y : Int64) : u64 (x + y) = (u64 x + u64 y) % 18446744073709551616 := by unfold u64; rw [Int64.toBitVec_add, BitVec.toNat_add]
theorem i_ofNat {k : Nat} (hk : k < 2147483648) : (Int32.ofNat k).toInt = (k : Int) := Int32.toInt_ofNat_of_lt (by omega)
theorem of_i {y : Int32} {k : Nat} (q : y.toInt = (k : Int)) : y = Int32.ofNat k := by
  have := i_rng32 y
  exact Int32.toInt_inj.mp (by rw [i_ofNat (by omega)]; exact q)
theorem sh64a : ∀ k : Fin 64, (((Int32.ofNat k.val &&& 0x3f).toInt64).toBitVec.smod 64).toNat = k.val := by decide +kernel
theorem sh64b : ∀ k : Fin 64, ((Int32.ofNat k.val &&& 0x3f).toInt64.toUInt64.toBitVec % 64).toNat = k.val := by decide +kernel
theorem sh32a : ∀ k : Fin 32, ((Int32.ofNat k.val &&& 31).toBitVec.smod 32).toNat = k.val := by decide +kernel
theorem sh32b : ∀ k : Fin 32, ((Int32.ofNat k.val &&& 31).toUInt32.toBitVec % 32).toNat = k.val := by decide +kernel
theorem u_lshl (x : Int64) {y : Int32} {k : Nat} (q : y.toInt = (k : Int)) (hk : k < 64) : u64 (LShl x y) = u64 x * 2 ^ k % 18446744073709551616 := by
  have e := sh64a ⟨k, hk⟩
  rw [of_i q]; unfold u64 LShl
  rw [Int64.toBitVec_shiftLeft, BitVec.shiftLeft_eq', e, BitVec.toNat_shiftLeft, Nat.shiftLeft_eq]
theorem i_lshr (x : Int64) {y : Int32} {k : Nat} (q : y.toInt = (k : Int)) (hk : k < 64) : (LShr x y).toInt = x.toInt / 2 ^ k := by
  have e := sh64a ⟨k, hk⟩
  rw [of_i q]; unfold LShr
  exact Jvm.Kit.i64_shr x _ e
theorem u_lushr (x : Int64) {y : Int32} {k : Nat} (q : y.toInt = (k : Int)) (hk : k < 64) : u64 (LUshr x y) = u64 x / 2 ^ k := by
  have e := sh64b ⟨k, hk⟩
  rw [of_i q]; unfold u64 LUshr
  show (x.toUInt64 >>> (Int32.ofNat k &&& 0x3f).toInt64.toUInt64).toBitVec.toNat = _
  rw [UInt64.toBitVec_shiftRight, BitVec.ushiftRight_eq', e, BitVec.toNat_ushiftRight, Nat.shiftRight_eq_div_pow]; rfl
theorem u_ishl (x : Int32) {y : Int32} {k : Nat} (q : y.toInt = (k : Int)) (hk : k < 32) : u32 (IShl x y) = u32 x * 2 ^ k % 4294967296 := by
  have e := sh32a ⟨k, hk⟩
  rw [of_i q]; unfold u32 IShl
  rw [Int32.toBitVec_shiftLeft, BitVec.shiftLeft_eq', e, BitVec.toNat_shiftLeft, Nat.shiftLeft_eq]
theorem i_ishr (x : Int32) {y : Int32} {k : Nat} (q : y.toInt = (k : Int)) (hk : k < 32) : (IShr x y).toInt = x.toInt / 2 ^ k := by
  have e := sh32a ⟨k, hk⟩
  rw [of_i q]; unfold IShr
  exact Jvm.Kit.i32_shr x _ e
theorem u_iushr (x : Int32) {y : Int32} {k : Nat} (q : y.toInt = (k : Int)) (hk : k < 32) : u32 (IUshr x y) = u32 x / 2 ^ k := by
  have e := sh32b ⟨k, hk⟩
  rw [of_i q]; unfold u32 IUshr
  show (x.toUInt32 >>> (Int32.ofNat k &&& 31).toUInt32).toBitVec.toNat = _
  rw [UInt32.toBitVec_shiftRight, BitVec.ushiftRight_eq', e, BitVec.toNat_ushiftRight, Nat.shiftRight_eq_div_pow]; rfl
theorem i_i2l (x : Int32) : x.toInt64.toInt = x.toInt := Int32.toInt_toInt64 x
theorem u_l2i (x : Int64) : u32 x.toInt32 = u64 x % 4294967296 := by
  have h1 := u32_i x.toInt32; have h2 := u64_i x
  have e : x.toInt.bmod (2 ^ 32) % 4294967296 = x.toInt % 4294967296 := Int.bmod_emod
  rw [Int64.toInt_toInt32, e] at h1
  omega
theorem i_i2b (x : Int32) : x.toInt8.toInt32.toInt = if x.toInt % 256 < 128 then x.toInt % 256 else x.toInt % 256 - 256 := by
  rw [Int8.toInt_toInt32, Int32.toInt_toInt8, Int.bmod_def]; split <;> split <;> omega
theorem u_i2b (x : Int32) : u32 x.toInt8.toInt32 % 256 = u32 x % 256 := by
  have h1 := u32_i x.toInt8.toInt32; have h2 := u32_i x; rw [i_i2b] at h1; split at h1 <;> omega
end Num
section Arr
variable {p : Program} {l : Launch} {e : Env} {R : Room} {s : State} {m : MethodId} {args : Array Value} {below : List Frame} {meth : Method} {c : Code} {T : State} {locs : List Loc} {cells slots : Nat} {Z : State} {a0 : Array Value} {h : Heap}
variable {Q : Option Value → Heap → List Loc → Prop} {C S : Nat} {pc pc' : Nat} {Ls Ls' : Array Slot} {rest : List Value}
/-! bytes: arrays copied and cloned; a private method -/
def lst (n : Nat) (g : Nat → Int32) : List Value := (List.range n).map fun i => .int (g i)
theorem lst_at {n : Nat} {g : Nat → Int32} {i : Nat} (hi : i < n) (d : Value) : (lst n g).getD i d = .int (g i) := by
  simp [lst, List.getD_eq_getElem?_getD, hi]
theorem clamp_n {n : Nat} (hn : n < 2147483648) : (Int32.ofNat n).toNatClampNeg = n := by
  simp only [Int32.toNatClampNeg, i_ofNat hn]; omega
theorem clamp_i {z : Int32} {n : Nat} (q : z.toInt = (n : Int)) : z.toNatClampNeg = n := by
  simp only [Int32.toNatClampNeg, q]; omega
theorem nneg {z : Int32} {n : Nat} (q : z.toInt = (n : Int)) : ¬ z < 0 := by
  have e0 : (0 : Int32).toInt = 0 := rfl
  rw [Int32.lt_iff_toInt_lt]; omega
theorem AV.toArv {a : Addr} {n : Nat} {g : Nat → Int32} (A : AV Z h a .byte n (iF g)) (hY : ∀ j, (g j).toInt8.toInt32 = g j) : ∃ k, Arv Z h a k .byte (Int32.ofNat n) (lst n g) (.int 0) := by
  obtain ⟨h1, cl, A, r1, r2⟩ := A
  refine ⟨cl.cls, cl, A, rfl, by rw [clamp_n (by omega)]; exact r1, nneg (i_ofNat (by omega)), fun i hi => ?_, fun i hi => ?_⟩
  · rw [r1] at hi; rw [r2 i hi, lst_at hi]; rfl
  · rw [r1] at hi; rw [lst_at hi, ← hY i]; exact fits_nar_byte _
theorem AV.ofArv {a : Addr} {n : Nat} {g : Nat → Int32} {k : ClassId} {z : Int32} {vs : List Value} {dv : Value} (A : Arv Z h a k .byte z vs dv) (hz : z.toInt = (n : Int)) (hg : ∀ i, i < n → vs.getD i dv = .int (g i)) : AV Z h a .byte n (iF g) := by
  obtain ⟨cl, A, -, r1, -, r2, -⟩ := A
  rw [clamp_i hz] at r1
  have := Int32.toInt_lt z
  exact ⟨by omega, cl, A, r1, fun i hi => by rw [r2 i (by omega), hg i hi]; rfl⟩
def cpy (ga gb : Nat → Int32) (sp dp n : Nat) : Nat → Int32 := fun j => if dp ≤ j ∧ j < dp + n then ga (sp + (j - dp)) else gb j
theorem w_acopy (X : Stand p l e R s m args below meth c T locs cells slots) (hx : p.tables.exec = Jvm.exec) (hZ : Z.Warmed39 s.vm) (eT : T.heap = h) {kk : Nat} (hml : c.maxLocals = kk) (hkk : Ls.size = kk) {own : String} (hown : s.vm.findClass own = some m.cls) {index : Nat}
    (w1 : (Jvm.Cond.methodLink own index Jvm.Stand.acN).before a0 Z = true) (w2 : (Jvm.Cond.native Jvm.Stand.acN).before a0 Z = true) (w3 : (Jvm.Cond.static Jvm.Stand.acN).before a0 Z = true) (w4 : (Jvm.Cond.initialized "java/lang/System").before a0 Z = true)
    {a b : Addr} {na nb : Nat} {ga gb : Nat → Int32} (A : AV Z h a .byte na (iF ga)) (B : AV Z h b .byte nb (iF gb)) (Ya : ∀ j, (ga j).toInt8.toInt32 = ga j) (Yb : ∀ j, (gb j).toInt8.toInt32 = gb j) {zs zd zn : Int32} {sp dp n : Nat} (hs : zs.toInt = (sp : Int)) (hd' : zd.toInt = (dp : Int)) (hn : zn.toInt = (n : Int)) (h4 : sp + n ≤ na) (h5 : dp + n ≤ nb) {n0 : Nat} (N : Fr n0 locs) (ge : n0 ≤ b)
    (hd : Dc c.code pc (.invokestatic index) 3 pc') (hf : 1 ≤ R.frames) {W : Nat} (hW : (rest.map fun v => v.category).sum = W) (hlo : W + (nativeFrameWords "java/lang/System" "arraycopy" 5 + 11) ≤ R.locals)
    (k : ∀ T' h' L, Stand p l e R s m args below meth c T' L cells slots → T'.heap = h' → Fr n0 L → Keep h h' [b] → AV Z h' b .byte nb (iF (cpy ga gb sp dp n)) → Go p e below s Q C S (T'.setTop (mkF m pc' Ls rest))) :
    Go p e below s Q C S (T.setTop (mkF m pc Ls (.int zn :: .int zd :: .ref b :: .int zs :: .ref a :: rest))) := by
  obtain ⟨hd, rfl⟩ := hd
  have na2 := A.1; have nb2 := B.1
  obtain ⟨ka, VA⟩ := A.toArv Ya
  obtain ⟨kb, VB⟩ := B.toArv Yb
  have ln : (lst nb gb).length = nb := by simp [lst]
  obtain ⟨T', h', L, X', e', N', K', V', st⟩ := cpA X hx hZ hown w1 w2 w3 w4 eT VA VB (us := (List.range zn.toNatClampNeg).map fun i => (lst na ga).getD (zs.toNatClampNeg + i) (.int 0)) (Or.inl ⟨rfl, rfl⟩) (nneg hs) (nneg hd') (nneg hn) (by rw [clamp_i hs, clamp_i hn, clamp_n (by omega)]; exact h4) (by rw [clamp_i hd', clamp_i hn, clamp_n (by omega)]; exact h5) rfl (by rw [clamp_i hd', clamp_i hn, ln]; exact h5) N ge (g := mkF m pc Ls (.int zn :: .int zd :: .ref b :: .int zs :: .ref a :: rest)) rfl (hkk.trans hml.symm) rfl hd hf (W := W) (by show 2 * 0 + _ ≤ _; omega) hlo
  refine (k T' h' L X' e' N' K' (AV.ofArv V' (i_ofNat (by omega)) fun i hi => ?_)).step st
  rw [clamp_i hd', clamp_i hn, clamp_i hs]
  have hlen1 : ((lst nb gb).take dp).length = dp := by rw [List.length_take, ln]; omega
  simp only [List.getD_eq_getElem?_getD]
  by_cases q1 : i < dp
  · rw [List.append_assoc, List.getElem?_append_left (by rw [hlen1]; exact q1), List.getElem?_take_of_lt q1, cpy, if_neg (by omega)]
    have := lst_at (g := gb) hi (.int 0); simpa [List.getD_eq_getElem?_getD] using this
  · by_cases q2 : i < dp + n
    · rw [List.append_assoc, List.getElem?_append_right (by rw [hlen1]; omega), hlen1, List.getElem?_append_left (by simp; omega), cpy, if_pos (by omega)]
      have q3 : i - dp < n := by omega
      have := lst_at (g := ga) (i := sp + (i - dp)) (n := na) (by omega) (.int 0)
      simp only [List.getD_eq_getElem?_getD] at this
      simp [q3, this]
    · rw [List.getElem?_append_right (by simp [hlen1]; omega), cpy, if_neg (by omega)]
      have e3 : ((lst nb gb).take dp ++ (List.range n).map fun i => (lst na ga)[sp + i]?.getD (.int 0)).length = dp + n := by simp [hlen1]
      rw [e3, List.getElem?_drop, show dp + n + (i - (dp + n)) = i by omega]
      have := lst_at (g := gb) hi (.int 0); simpa [List.getD_eq_getElem?_getD] using this
theorem w_newarrE (X : Stand p l e R s m args below meth c T locs cells slots) (hx : p.tables.exec = Jvm.exec) (hZ : Z.Warmed39 s.vm) (eT : T.heap = h) (w : (Jvm.Cond.arrayClass .byte).before a0 Z = true) (hd : Dc c.code pc (.newarray .byte) 2 pc') {z : Int32} {n cap : Nat} (hz : z.toInt = (n : Int)) (hcap : n ≤ cap) (hb : cap * 8 ≤ 536870912) (hcl : cells + 1 ≤ R.cells) (hsl : slots + cap ≤ R.slots)
    (k : ∀ T' h' b, b = h.size → Stand p l e R s m args below meth c T' locs (cells + 1) (slots + cap) → T'.heap = h' → Ext h h' → AV Z h' b .byte n (iF (fun _ => 0)) → Exa Z h' b "[B" → Go p e below s Q C S (T'.setTop (mkF m pc' Ls (.ref b :: rest)))) : Go p e below s Q C S (T.setTop (mkF m pc Ls (.int z :: rest))) := by
  obtain ⟨hd, rfl⟩ := hd
  have e0 : (0 : Int32).toInt = 0 := rfl
  have hn : ¬ z < 0 := nneg hz
  have en : z.toNatClampNeg = n := clamp_i hz
  have hlt := Int32.toInt_lt z
  obtain ⟨T', h', cA, X', e', E, A, EA, st⟩ := newPE X hx hZ (aty := .byte) w eT (g := mkF m pc Ls (.int z :: rest)) rfl hd rfl hn (cap := cap) (by omega) hb hcl hsl (ad := "[B") (by decide)
  refine (k T' h' _ rfl X' e' E ⟨by omega, _, A, by rw [sz_new]; exact en, fun i hi => ?_⟩ EA).step st
  simp [newA, en, hi, iF]; rfl
theorem w_clone (X : Stand p l e R s m args below meth c T locs cells slots) (hx : p.tables.exec = Jvm.exec) (hZ : Z.Warmed39 s.vm) (eT : T.heap = h) {kk : Nat} (hml : c.maxLocals = kk) (hkk : Ls.size = kk) {own : String} (hown : s.vm.findClass own = some m.cls) {index : Nat}
    (w1 : (Jvm.Cond.methodLink own index ⟨"[B", "clone", "()Ljava/lang/Object;"⟩).before a0 Z = true) (w2 : (Jvm.Cond.sameMethod "[B" "java/lang/Object" "clone" "()Ljava/lang/Object;").before a0 Z = true) (w3 : (Jvm.Cond.native ⟨"java/lang/Object", "clone", "()Ljava/lang/Object;"⟩).before a0 Z = true)
    (w4 : (Jvm.Cond.instanceMethod ⟨"java/lang/Object", "clone", "()Ljava/lang/Object;"⟩).before a0 Z = true) (w5 : (Jvm.Cond.selects "[B" ⟨"[B", "clone", "()Ljava/lang/Object;"⟩ ⟨"java/lang/Object", "clone", "()Ljava/lang/Object;"⟩).before a0 Z = true) (w6 : (Jvm.Cond.castable "[B" "java/lang/Cloneable").before a0 Z = true)
    {a : Addr} {n : Nat} {g : Nat → Int32} (A : AV Z h a .byte n (iF g)) (Y : ∀ j, (g j).toInt8.toInt32 = g j) (E : Exa Z h a "[B") (hd : Dc c.code pc (.invokevirtual index) 3 pc') (hf : 1 ≤ R.frames) {W cap : Nat} (hW : (rest.map fun v => v.category).sum = W) (hl : W + 14 ≤ R.locals) (hcap : n ≤ cap) (hcl : cells + 1 ≤ R.cells) (hsl : slots + cap ≤ R.slots)
    (k : ∀ T' h' b, b = h.size → Stand p l e R s m args below meth c T' locs (cells + 1) (slots + cap) → T'.heap = h' → Ext h h' → AV Z h' b .byte n (iF g) → Exa Z h' b "[B" → Go p e below s Q C S (T'.setTop (mkF m pc' Ls (.ref b :: rest)))) : Go p e below s Q C S (T.setTop (mkF m pc Ls (.ref a :: rest))) := by
  obtain ⟨hd, rfl⟩ := hd
  have n2 := A.1
  obtain ⟨ka, VA⟩ := A.toArv Y
  obtain ⟨T', h', X', e', EX, V', E', st⟩ := cloneH X hx hZ hown w1 w2 w3 w4 w5 w6 eT VA.arh E (g := mkF m pc Ls (.ref a :: rest)) rfl (hkk.trans hml.symm) rfl hd hf (W := W) (cap := cap) (by show 2 * 0 + _ ≤ _; omega) hl (by rw [clamp_n (by omega)]; exact hcap) hcl hsl
  exact (k T' h' _ rfl X' e' EX (AV.ofArv (show Arv Z h' h.size ka .byte (Int32.ofNat n) (lst n g) (.int 0) from V') (i_ofNat (by omega)) fun i hi => lst_at hi _) E').step st
theorem w_cast (X : Stand p l e R s m args below meth c T locs cells slots) (hx : p.tables.exec = Jvm.exec) (hZ : Z.Warmed39 s.vm) (eT : T.heap = h) {own K : String} (hown : s.vm.findClass own = some m.cls) {index : Nat} (w : (Jvm.Cond.classLink own index K).before a0 Z = true) {a : Addr} (E : Exa Z h a K) (hd : Dc c.code pc (.checkcast index) 3 pc')
    (k : ∀ T', Stand p l e R s m args below meth c T' locs cells slots → T'.heap = h → Go p e below s Q C S (T'.setTop (mkF m pc' Ls (.ref a :: rest)))) : Go p e below s Q C S (T.setTop (mkF m pc Ls (.ref a :: rest))) := by
  obtain ⟨hd, rfl⟩ := hd
  obtain ⟨T', X', e', st⟩ := castY X hx hZ hown w eT (Ins.self E) (g := mkF m pc Ls (.ref a :: rest)) rfl rfl hd
  exact (k T' X' e').step st
theorem own_sel {y : MethodName} {n : Nat} {args : Array Value} (hZ : Z.Warmed39 s.vm) (hins : (Jvm.Cond.instantiable y.cls n).before a0 Z = true) (hpriv : (Jvm.Cond.privateMethod y).before a0 Z = true) (hinst : (Jvm.Cond.instanceMethod y).before a0 Z = true) (hy : y.cls ≠ "java/lang/invoke/MethodHandle" ∧ y.cls ≠ "java/lang/invoke/VarHandle") : (Jvm.Cond.selects y.cls y y).before args s = true := by
  have h1 : (Jvm.Cond.instantiable y.cls n).before args s = true := mvT hZ hins
  obtain ⟨c, k, hc, hk, -, hniab, -, -⟩ := Cond.instantiable_spec h1
  exact selects_self_of_private hc hk (Bool.or_eq_false_iff.mp hniab).1 (Cond.privateMethod_at (mvP hZ hpriv (args := #[]))) (mvT hZ hinst) hy
theorem w_callP (X : Stand p l e R s m args below meth c T locs cells slots) (hx : p.tables.exec = Jvm.exec) (hZ : Z.Warmed39 s.vm) (eT : T.heap = h) {kk : Nat} (hml : c.maxLocals = kk) (hkk : Ls.size = kk) {own : String} (hown : s.vm.findClass own = some m.cls) {index : Nat} {y : MethodName} {bytes : ByteArray} {maxL : Nat} {ret : Option FieldType} {rm : Room} {as' : Array Value} {Qc : Option Value → Heap → List Loc → Prop} {nn : Nat}
    (w1 : (Jvm.Cond.methodLink own index y).before a0 Z = true) (w6 : (Jvm.Cond.instanceMethod y).before a0 Z = true) (w5 : (Jvm.Cond.instantiable y.cls nn).before a0 Z = true) (w7 : (Jvm.Cond.privateMethod y).before a0 Z = true) (w3 : (Jvm.Cond.initialized y.cls).before a0 Z = true) (w4 : (Jvm.Cond.code y bytes maxL ret).before a0 Z = true) (hy : y.cls ≠ "java/lang/invoke/MethodHandle" ∧ y.cls ≠ "java/lang/invoke/VarHandle")
    (hM : Ct l Z y bytes maxL ret rm as' h Qc) {b : Addr} (E : Exa Z h b y.cls) (hd : Dc c.code pc (.invokevirtual index) 3 pc') {ps : List FieldType} {r : Option FieldType} (hpd : parseMethodDescriptor y.desc = some ⟨ps, r⟩) {argsL st rest : List Value} (has : (.ref b :: argsL).toArray = as') (hst : st = argsL.reverse ++ .ref b :: rest) (hlen : argsL.length = ps.length) {W : Nat} (hW : (rest.map fun v => v.category).sum = W)
    (hf : rm.frames + 1 ≤ R.frames) (hl : W + (maxL + 11) + rm.locals ≤ R.locals) (hcl : cells + rm.cells ≤ R.cells) (hsl : slots + rm.slots ≤ R.slots)
    (k : ∀ (v : Option Value) (T' : State) (L : List Loc), Stand p l e R s m args below meth c T' (locs ++ L) (cells + rm.cells) (slots + rm.slots) → Qc v T'.heap L → Go p e below s Q C S (T'.setTop (mkF m pc' Ls (v.toList ++ rest)))) :
    Go p e below s Q C S (T.setTop (mkF m pc Ls st)) := by
  subst hst has hW
  obtain ⟨hd, rfl⟩ := hd
  obtain ⟨cq, q, q'⟩ := E.cell
  obtain ⟨v, _, ⟨T', L', k', n'⟩, -, X', ⟨Lc, hQ, e1, e2, e3⟩, st⟩ := X.privateBack hx (y := y) hown (mvT hZ w1) (mvT hZ w6) (own_sel hZ w5 w7 w6 hy) (Cond.privateMethod_at (mvP hZ w7 (args := #[]))) (mvT hZ w4) hy (backOf (W := (rest.map fun v => v.category).sum) hM hZ w4 w3 hf hl) (g := mkF m pc Ls (argsL.reverse ++ .ref b :: rest)) rfl (hkk.trans hml.symm) (Steps.refl _) (a := b) (by rw [eT]; exact q) q' (argsL := argsL) (rest := rest) (lenOf hpd hlen) rfl (by show 2 * 0 + _ ≤ _; omega) hd (fun _ _ => ⟨rfl, eT, hcl, hsl⟩)
  dsimp only [Pt.U, Pt.locs, Pt.cells, Pt.slots] at X' e1 e2 e3 st hQ
  subst e1 e2 e3
  exact (k v T' Lc X' hQ).step fun _ q => st.trans q
theorem w_acmpN (X : Stand p l e R s m args below meth c T locs cells slots) (hx : p.tables.exec = Jvm.exec) {o : Int} {a : Addr} {pcT pcF : Nat} (hd : Dj c.code pc (.if_acmp .ne o) o pcT pcF) (k : Go p e below s Q C S (T.setTop (mkF m pcF Ls rest))) : Go p e below s Q C S (T.setTop (mkF m pc Ls (.ref a :: .ref a :: rest))) :=
  w_acmp X hx hd rfl rfl (b := false) (by simp [acV]) k
theorem w_acmpE (X : Stand p l e R s m args below meth c T locs cells slots) (hx : p.tables.exec = Jvm.exec) {o : Int} {a : Addr} {pcT pcF : Nat} (hd : Dj c.code pc (.if_acmp .eq o) o pcT pcF) (k : Go p e below s Q C S (T.setTop (mkF m pcT Ls rest))) : Go p e below s Q C S (T.setTop (mkF m pc Ls (.ref a :: .ref a :: rest))) :=
  w_acmp X hx hd rfl rfl (b := true) (by simp [acV]) k
end Arr
theorem d0_0 : Dc code 0 (.iload_n 0) 1 1 := ⟨at_0, rfl⟩
theorem d0_1 : Dc code 1 (.bipush 127) 2 3 := ⟨at_1, rfl⟩
theorem d0_3 : Dc code 3 (.iand) 1 4 := ⟨at_3, rfl⟩
theorem d0_4 : Dc code 4 (.istore 4) 2 6 := ⟨at_4, rfl⟩
theorem d0_6 : Dc code 6 (.iconst 1) 1 7 := ⟨at_6, rfl⟩
theorem d0_7 : Dc code 7 (.iload_n 1) 1 8 := ⟨at_7, rfl⟩
theorem d0_8 : Dc code 8 (.bipush 7) 2 10 := ⟨at_8, rfl⟩
theorem d0_10 : Dc code 10 (.iand) 1 11 := ⟨at_10, rfl⟩
theorem d0_11 : Dc code 11 (.ishl) 1 12 := ⟨at_11, rfl⟩
theorem d0_12 : Dc code 12 (.istore 5) 2 14 := ⟨at_12, rfl⟩
theorem d0_14 : Dc code 14 (.iconst 2) 1 15 := ⟨at_14, rfl⟩
theorem d0_15 : Dc code 15 (.newarray .byte) 2 17 := ⟨at_15, rfl⟩
theorem d0_17 : Dc code 17 (.astore 6) 2 19 := ⟨at_17, rfl⟩
theorem d0_19 : Dc code 19 (.iconst 4) 1 20 := ⟨at_19, rfl⟩
theorem d0_20 : Dc code 20 (.newarray .byte) 2 22 := ⟨at_20, rfl⟩
theorem d0_22 : Dc code 22 (.astore 7) 2 24 := ⟨at_22, rfl⟩
theorem d0_24 : Dc code 24 (.bipush 8) 2 26 := ⟨at_24, rfl⟩
theorem d0_26 : Dc code 26 (.newarray .byte) 2 28 := ⟨at_26, rfl⟩
theorem d0_28 : Dc code 28 (.astore 8) 2 30 := ⟨at_28, rfl⟩
theorem d0_30 : Dc code 30 (.bipush 16) 2 32 := ⟨at_30, rfl⟩
theorem d0_32 : Dc code 32 (.newarray .byte) 2 34 := ⟨at_32, rfl⟩
theorem d0_34 : Dc code 34 (.astore 9) 2 36 := ⟨at_34, rfl⟩
theorem d0_36 : Dc code 36 (.bipush 32) 2 38 := ⟨at_36, rfl⟩
theorem d0_38 : Dc code 38 (.newarray .byte) 2 40 := ⟨at_38, rfl⟩
theorem d0_40 : Dc code 40 (.astore 10) 2 42 := ⟨at_40, rfl⟩
theorem d0_42 : Dc code 42 (.bipush 64) 2 44 := ⟨at_42, rfl⟩
theorem d0_44 : Dc code 44 (.newarray .byte) 2 46 := ⟨at_44, rfl⟩
theorem d0_46 : Dc code 46 (.astore 11) 2 48 := ⟨at_46, rfl⟩
theorem d0_48 : Dc code 48 (.new 7) 3 51 := ⟨at_48, rfl⟩
theorem d0_51 : Dc code 51 (.dup) 1 52 := ⟨at_51, rfl⟩
theorem d0_52 : Dc code 52 (.invokespecial 9) 3 55 := ⟨at_52, rfl⟩
theorem d0_55 : Dc code 55 (.astore 12) 2 57 := ⟨at_55, rfl⟩
theorem d0_57 : Dc code 57 (.iload 4) 2 59 := ⟨at_57, rfl⟩
theorem d0_59 : Dc code 59 (.iconst 2) 1 60 := ⟨at_59, rfl⟩
theorem d0_60 : Dc code 60 (.iand) 1 61 := ⟨at_60, rfl⟩
theorem d0_61 : Dj code 61 (.ifCond .eq 11) 11 72 64 := ⟨at_61, by decide, by decide, rfl⟩
theorem d0_64 : Dc code 64 (.aload 12) 2 66 := ⟨at_64, rfl⟩
theorem d0_66 : Dc code 66 (.aload 6) 2 68 := ⟨at_66, rfl⟩
theorem d0_68 : Dc code 68 (.invokevirtual 10) 3 71 := ⟨at_68, rfl⟩
theorem d0_71 : Dc code 71 (.pop) 1 72 := ⟨at_71, rfl⟩
theorem d0_72 : Dc code 72 (.iload 4) 2 74 := ⟨at_72, rfl⟩
theorem d0_74 : Dc code 74 (.iconst 4) 1 75 := ⟨at_74, rfl⟩
theorem d0_75 : Dc code 75 (.iand) 1 76 := ⟨at_75, rfl⟩
theorem d0_76 : Dj code 76 (.ifCond .eq 11) 11 87 79 := ⟨at_76, by decide, by decide, rfl⟩
theorem d0_79 : Dc code 79 (.aload 12) 2 81 := ⟨at_79, rfl⟩
theorem d0_81 : Dc code 81 (.aload 7) 2 83 := ⟨at_81, rfl⟩
theorem d0_83 : Dc code 83 (.invokevirtual 10) 3 86 := ⟨at_83, rfl⟩
theorem d0_86 : Dc code 86 (.pop) 1 87 := ⟨at_86, rfl⟩
theorem d0_87 : Dc code 87 (.iload 4) 2 89 := ⟨at_87, rfl⟩
theorem d0_89 : Dc code 89 (.bipush 8) 2 91 := ⟨at_89, rfl⟩
theorem d0_91 : Dc code 91 (.iand) 1 92 := ⟨at_91, rfl⟩
theorem d0_92 : Dj code 92 (.ifCond .eq 11) 11 103 95 := ⟨at_92, by decide, by decide, rfl⟩
theorem d0_95 : Dc code 95 (.aload 12) 2 97 := ⟨at_95, rfl⟩
theorem d0_97 : Dc code 97 (.aload 8) 2 99 := ⟨at_97, rfl⟩
theorem d0_99 : Dc code 99 (.invokevirtual 10) 3 102 := ⟨at_99, rfl⟩
theorem d0_102 : Dc code 102 (.pop) 1 103 := ⟨at_102, rfl⟩
theorem d0_103 : Dc code 103 (.iload 4) 2 105 := ⟨at_103, rfl⟩
theorem d0_105 : Dc code 105 (.bipush 16) 2 107 := ⟨at_105, rfl⟩
theorem d0_107 : Dc code 107 (.iand) 1 108 := ⟨at_107, rfl⟩
theorem d0_108 : Dj code 108 (.ifCond .eq 11) 11 119 111 := ⟨at_108, by decide, by decide, rfl⟩
theorem d0_111 : Dc code 111 (.aload 12) 2 113 := ⟨at_111, rfl⟩
theorem d0_113 : Dc code 113 (.aload 9) 2 115 := ⟨at_113, rfl⟩
theorem d0_115 : Dc code 115 (.invokevirtual 10) 3 118 := ⟨at_115, rfl⟩
theorem d0_118 : Dc code 118 (.pop) 1 119 := ⟨at_118, rfl⟩
theorem d0_119 : Dc code 119 (.iload 4) 2 121 := ⟨at_119, rfl⟩
theorem d0_121 : Dc code 121 (.bipush 32) 2 123 := ⟨at_121, rfl⟩
theorem d0_123 : Dc code 123 (.iand) 1 124 := ⟨at_123, rfl⟩
theorem d0_124 : Dj code 124 (.ifCond .eq 11) 11 135 127 := ⟨at_124, by decide, by decide, rfl⟩
theorem d0_127 : Dc code 127 (.aload 12) 2 129 := ⟨at_127, rfl⟩
theorem d0_129 : Dc code 129 (.aload 10) 2 131 := ⟨at_129, rfl⟩
theorem d0_131 : Dc code 131 (.invokevirtual 10) 3 134 := ⟨at_131, rfl⟩
theorem d0_134 : Dc code 134 (.pop) 1 135 := ⟨at_134, rfl⟩
theorem d0_135 : Dc code 135 (.iload 4) 2 137 := ⟨at_135, rfl⟩
theorem d0_137 : Dc code 137 (.bipush 64) 2 139 := ⟨at_137, rfl⟩
theorem d0_139 : Dc code 139 (.iand) 1 140 := ⟨at_139, rfl⟩
theorem d0_140 : Dj code 140 (.ifCond .eq 11) 11 151 143 := ⟨at_140, by decide, by decide, rfl⟩
theorem d0_143 : Dc code 143 (.aload 12) 2 145 := ⟨at_143, rfl⟩
theorem d0_145 : Dc code 145 (.aload 11) 2 147 := ⟨at_145, rfl⟩
theorem d0_147 : Dc code 147 (.invokevirtual 10) 3 150 := ⟨at_147, rfl⟩
theorem d0_150 : Dc code 150 (.pop) 1 151 := ⟨at_150, rfl⟩
theorem d0_151 : Dc code 151 (.iload 4) 2 153 := ⟨at_151, rfl⟩
theorem d0_153 : Dc code 153 (.iconst 1) 1 154 := ⟨at_153, rfl⟩
theorem d0_154 : Dc code 154 (.iand) 1 155 := ⟨at_154, rfl⟩
theorem d0_155 : Dj code 155 (.ifCond .eq 7) 7 162 158 := ⟨at_155, by decide, by decide, rfl⟩
theorem d0_158 : Dc code 158 (.iconst 1) 1 159 := ⟨at_158, rfl⟩
theorem d0_159 : Dj code 159 (.goto 4) 4 163 162 := ⟨at_159, by decide, by decide, rfl⟩
theorem d0_162 : Dc code 162 (.iconst 0) 1 163 := ⟨at_162, rfl⟩
theorem d0_163 : Dc code 163 (.istore 13) 2 165 := ⟨at_163, rfl⟩
theorem d0_165 : Dc code 165 (.iload 13) 2 167 := ⟨at_165, rfl⟩
theorem d0_167 : Dj code 167 (.ifCond .eq 10) 10 177 170 := ⟨at_167, by decide, by decide, rfl⟩
theorem d0_170 : Dc code 170 (.aload 12) 2 172 := ⟨at_170, rfl⟩
theorem d0_172 : Dc code 172 (.iload_n 2) 1 173 := ⟨at_172, rfl⟩
theorem d0_173 : Dc code 173 (.invokevirtual 14) 3 176 := ⟨at_173, rfl⟩
theorem d0_176 : Dc code 176 (.pop) 1 177 := ⟨at_176, rfl⟩
theorem d0_177 : Dc code 177 (.iload 4) 2 179 := ⟨at_177, rfl⟩
theorem d0_179 : Dc code 179 (.istore 14) 2 181 := ⟨at_179, rfl⟩
theorem d0_181 : Dc code 181 (.aload 12) 2 183 := ⟨at_181, rfl⟩
theorem d0_183 : Dc code 183 (.iload 5) 2 185 := ⟨at_183, rfl⟩
theorem d0_185 : Dc code 185 (.invokevirtual 18) 3 188 := ⟨at_185, rfl⟩
theorem d0_188 : Dc code 188 (.astore 15) 2 190 := ⟨at_188, rfl⟩
theorem d0_190 : Dc code 190 (.aload 12) 2 192 := ⟨at_190, rfl⟩
theorem d0_192 : Dc code 192 (.invokevirtual 21) 3 195 := ⟨at_192, rfl⟩
theorem d0_195 : Dc code 195 (.astore 16) 2 197 := ⟨at_195, rfl⟩
theorem d0_197 : Dc code 197 (.iload 14) 2 199 := ⟨at_197, rfl⟩
theorem d0_199 : Dc code 199 (.iload 5) 2 201 := ⟨at_199, rfl⟩
theorem d0_201 : Dc code 201 (.irem) 1 202 := ⟨at_201, rfl⟩
theorem d0_202 : Dc code 202 (.istore 17) 2 204 := ⟨at_202, rfl⟩
theorem d0_204 : Dc code 204 (.iload 17) 2 206 := ⟨at_204, rfl⟩
theorem d0_206 : Dj code 206 (.ifCond .ne 8) 8 214 209 := ⟨at_206, by decide, by decide, rfl⟩
theorem d0_209 : Dc code 209 (.iload 14) 2 211 := ⟨at_209, rfl⟩
theorem d0_211 : Dj code 211 (.goto 11) 11 222 214 := ⟨at_211, by decide, by decide, rfl⟩
theorem d0_214 : Dc code 214 (.iload 14) 2 216 := ⟨at_214, rfl⟩
theorem d0_216 : Dc code 216 (.iload 17) 2 218 := ⟨at_216, rfl⟩
theorem d0_218 : Dc code 218 (.isub) 1 219 := ⟨at_218, rfl⟩
theorem d0_219 : Dc code 219 (.iload 5) 2 221 := ⟨at_219, rfl⟩
theorem d0_221 : Dc code 221 (.iadd) 1 222 := ⟨at_221, rfl⟩
theorem d0_222 : Dc code 222 (.istore 18) 2 224 := ⟨at_222, rfl⟩
theorem d0_224 : Dc code 224 (.aload 15) 2 226 := ⟨at_224, rfl⟩
theorem d0_226 : Dc code 226 (.aload 12) 2 228 := ⟨at_226, rfl⟩
theorem d0_228 : Dj code 228 (.if_acmp .eq 5) 5 233 231 := ⟨at_228, by decide, by decide, rfl⟩
theorem d0_233 : Dc code 233 (.aload 16) 2 235 := ⟨at_233, rfl⟩
theorem d0_235 : Dc code 235 (.arraylength) 1 236 := ⟨at_235, rfl⟩
theorem d0_236 : Dc code 236 (.iload 18) 2 238 := ⟨at_236, rfl⟩
theorem d0_238 : Dj code 238 (.if_icmp .eq 5) 5 243 241 := ⟨at_238, by decide, by decide, rfl⟩
theorem d0_243 : Dc code 243 (.iload 13) 2 245 := ⟨at_243, rfl⟩
theorem d0_245 : Dj code 245 (.ifCond .eq 17) 17 262 248 := ⟨at_245, by decide, by decide, rfl⟩
theorem d0_248 : Dc code 248 (.aload 16) 2 250 := ⟨at_248, rfl⟩
theorem d0_250 : Dc code 250 (.iload 14) 2 252 := ⟨at_250, rfl⟩
theorem d0_252 : Dc code 252 (.iconst 1) 1 253 := ⟨at_252, rfl⟩
theorem d0_253 : Dc code 253 (.isub) 1 254 := ⟨at_253, rfl⟩
theorem d0_254 : Dc code 254 (.baload) 1 255 := ⟨at_254, rfl⟩
theorem d0_255 : Dc code 255 (.iload_n 2) 1 256 := ⟨at_255, rfl⟩
theorem d0_256 : Dc code 256 (.i2b) 1 257 := ⟨at_256, rfl⟩
theorem d0_257 : Dj code 257 (.if_icmp .eq 5) 5 262 260 := ⟨at_257, by decide, by decide, rfl⟩
theorem d0_262 : Dc code 262 (.iload 18) 2 264 := ⟨at_262, rfl⟩
theorem d0_264 : Dc code 264 (.iload 14) 2 266 := ⟨at_264, rfl⟩
theorem d0_266 : Dc code 266 (.isub) 1 267 := ⟨at_266, rfl⟩
theorem d0_267 : Dc code 267 (.istore 19) 2 269 := ⟨at_267, rfl⟩
theorem d0_269 : Dc code 269 (.iload 19) 2 271 := ⟨at_269, rfl⟩
theorem d0_271 : Dj code 271 (.ifCond .le 21) 21 292 274 := ⟨at_271, by decide, by decide, rfl⟩
theorem d0_274 : Dc code 274 (.aload 16) 2 276 := ⟨at_274, rfl⟩
theorem d0_276 : Dc code 276 (.iload 14) 2 278 := ⟨at_276, rfl⟩
theorem d0_278 : Dc code 278 (.iload_n 3) 1 279 := ⟨at_278, rfl⟩
theorem d0_279 : Dc code 279 (.ldc 25) 2 281 := ⟨at_279, rfl⟩
theorem d0_281 : Dc code 281 (.iand) 1 282 := ⟨at_281, rfl⟩
theorem d0_282 : Dc code 282 (.iload 19) 2 284 := ⟨at_282, rfl⟩
theorem d0_284 : Dc code 284 (.irem) 1 285 := ⟨at_284, rfl⟩
theorem d0_285 : Dc code 285 (.iadd) 1 286 := ⟨at_285, rfl⟩
theorem d0_286 : Dc code 286 (.baload) 1 287 := ⟨at_286, rfl⟩
theorem d0_287 : Dj code 287 (.ifCond .eq 5) 5 292 290 := ⟨at_287, by decide, by decide, rfl⟩
theorem d0_292 : Dc code 292 (.iconst 1) 1 293 := ⟨at_292, rfl⟩
theorem d0_293 : Dc code 293 (.ireturn) 1 294 := ⟨at_293, rfl⟩
theorem pn_0 : plainFor x = true := plainFor_of_name (by first | (simp [plainName, overriddenIn]; done) | decide +kernel)
theorem ef_0 (m : MethodId) (x0 : Int32) (x1 : Int32) (x2 : Int32) (x3 : Int32) : entryFrame m #[(.int x0), (.int x1), (.int x2), (.int x3)] maxLocals = mkF m 0 #[.val (.int x0), .val (.int x1), .val (.int x2), .val (.int x3), .unset, .unset, .unset, .unset, .unset, .unset, .unset, .unset, .unset, .unset, .unset, .unset, .unset, .unset, .unset, .unset] [] := by first | (simp [entryFrame, mkF, argsToLocals, Value.category, maxLocals]; done) | rfl
theorem d1_0 : Dc prog_57_method_1_code 0 (.aload_n 0) 1 1 := ⟨by decide +kernel, rfl⟩
theorem d1_1 : Dc prog_57_method_1_code 1 (.invokespecial 1) 3 4 := ⟨by decide +kernel, rfl⟩
theorem d1_4 : Dc prog_57_method_1_code 4 (.aload_n 0) 1 5 := ⟨by decide +kernel, rfl⟩
theorem d1_5 : Dc prog_57_method_1_code 5 (.bipush 64) 2 7 := ⟨by decide +kernel, rfl⟩
theorem d1_7 : Dc prog_57_method_1_code 7 (.newarray .byte) 2 9 := ⟨by decide +kernel, rfl⟩
theorem d1_9 : Dc prog_57_method_1_code 9 (.putfield 9) 3 12 := ⟨by decide +kernel, rfl⟩
theorem d1_12 : Dc prog_57_method_1_code 12 (.return_) 1 13 := ⟨by decide +kernel, rfl⟩
theorem pn_1 : plainFor (⟨"com/example/queue_directory/queuedirectory/rpc/NdrWriter", "<init>", "()V"⟩ : MethodName) = true := plainFor_of_name (by first | (simp [plainName, overriddenIn]; done) | decide +kernel)
theorem ef_1 (m : MethodId) (x0 : Addr) : entryFrame m #[(.ref x0)] 1 = mkF m 0 #[.val (.ref x0)] [] := by first | (simp [entryFrame, mkF, argsToLocals, Value.category]; done) | rfl
theorem d3_0 : Dc prog_57_method_7_code 0 (.aload_n 0) 1 1 := ⟨by decide +kernel, rfl⟩
theorem d3_1 : Dc prog_57_method_7_code 1 (.getfield 19) 3 4 := ⟨by decide +kernel, rfl⟩
theorem d3_4 : Dc prog_57_method_7_code 4 (.ineg) 1 5 := ⟨by decide +kernel, rfl⟩
theorem d3_5 : Dc prog_57_method_7_code 5 (.iload_n 1) 1 6 := ⟨by decide +kernel, rfl⟩
theorem d3_6 : Dc prog_57_method_7_code 6 (.iconst 1) 1 7 := ⟨by decide +kernel, rfl⟩
theorem d3_7 : Dc prog_57_method_7_code 7 (.isub) 1 8 := ⟨by decide +kernel, rfl⟩
theorem d3_8 : Dc prog_57_method_7_code 8 (.iand) 1 9 := ⟨by decide +kernel, rfl⟩
theorem d3_9 : Dc prog_57_method_7_code 9 (.istore_n 2) 1 10 := ⟨by decide +kernel, rfl⟩
theorem d3_10 : Dc prog_57_method_7_code 10 (.aload_n 0) 1 11 := ⟨by decide +kernel, rfl⟩
theorem d3_11 : Dc prog_57_method_7_code 11 (.iload_n 2) 1 12 := ⟨by decide +kernel, rfl⟩
theorem d3_12 : Dc prog_57_method_7_code 12 (.invokevirtual 15) 3 15 := ⟨by decide +kernel, rfl⟩
theorem d3_15 : Dc prog_57_method_7_code 15 (.aload_n 0) 1 16 := ⟨by decide +kernel, rfl⟩
theorem d3_16 : Dc prog_57_method_7_code 16 (.dup) 1 17 := ⟨by decide +kernel, rfl⟩
theorem d3_17 : Dc prog_57_method_7_code 17 (.getfield 19) 3 20 := ⟨by decide +kernel, rfl⟩
theorem d3_20 : Dc prog_57_method_7_code 20 (.iload_n 2) 1 21 := ⟨by decide +kernel, rfl⟩
theorem d3_21 : Dc prog_57_method_7_code 21 (.iadd) 1 22 := ⟨by decide +kernel, rfl⟩
theorem d3_22 : Dc prog_57_method_7_code 22 (.putfield 19) 3 25 := ⟨by decide +kernel, rfl⟩
theorem d3_25 : Dc prog_57_method_7_code 25 (.aload_n 0) 1 26 := ⟨by decide +kernel, rfl⟩
theorem d3_26 : Dc prog_57_method_7_code 26 (.areturn) 1 27 := ⟨by decide +kernel, rfl⟩
theorem pn_3 : plainFor (⟨"com/example/queue_directory/queuedirectory/rpc/NdrWriter", "align", "(I)Lcom/example/queue_directory/queuedirectory/rpc/NdrWriter;"⟩ : MethodName) = true := plainFor_of_name (by first | (simp [plainName, overriddenIn]; done) | decide +kernel)
theorem ef_3 (m : MethodId) (x0 : Addr) (x1 : Int32) : entryFrame m #[(.ref x0), (.int x1)] 3 = mkF m 0 #[.val (.ref x0), .val (.int x1), .unset] [] := by first | (simp [entryFrame, mkF, argsToLocals, Value.category]; done) | rfl
theorem d4_0 : Dc prog_57_method_10_code 0 (.aload_n 0) 1 1 := ⟨by decide +kernel, rfl⟩
theorem d4_1 : Dc prog_57_method_10_code 1 (.getfield 9) 3 4 := ⟨by decide +kernel, rfl⟩
theorem d4_4 : Dc prog_57_method_10_code 4 (.arraylength) 1 5 := ⟨by decide +kernel, rfl⟩
theorem d4_5 : Dc prog_57_method_10_code 5 (.aload_n 0) 1 6 := ⟨by decide +kernel, rfl⟩
theorem d4_6 : Dc prog_57_method_10_code 6 (.getfield 19) 3 9 := ⟨by decide +kernel, rfl⟩
theorem d4_9 : Dc prog_57_method_10_code 9 (.isub) 1 10 := ⟨by decide +kernel, rfl⟩
theorem d4_10 : Dc prog_57_method_10_code 10 (.iload_n 1) 1 11 := ⟨by decide +kernel, rfl⟩
theorem d4_11 : Dj prog_57_method_10_code 11 (.if_icmp .ge 30) 30 41 14 := ⟨by decide +kernel, by decide, by decide, rfl⟩
theorem d4_14 : Dc prog_57_method_10_code 14 (.aload_n 0) 1 15 := ⟨by decide +kernel, rfl⟩
theorem d4_15 : Dc prog_57_method_10_code 15 (.aload_n 0) 1 16 := ⟨by decide +kernel, rfl⟩
theorem d4_16 : Dc prog_57_method_10_code 16 (.getfield 9) 3 19 := ⟨by decide +kernel, rfl⟩
theorem d4_19 : Dc prog_57_method_10_code 19 (.aload_n 0) 1 20 := ⟨by decide +kernel, rfl⟩
theorem d4_20 : Dc prog_57_method_10_code 20 (.getfield 9) 3 23 := ⟨by decide +kernel, rfl⟩
theorem d4_23 : Dc prog_57_method_10_code 23 (.arraylength) 1 24 := ⟨by decide +kernel, rfl⟩
theorem d4_24 : Dc prog_57_method_10_code 24 (.iconst 2) 1 25 := ⟨by decide +kernel, rfl⟩
theorem d4_25 : Dc prog_57_method_10_code 25 (.imul) 1 26 := ⟨by decide +kernel, rfl⟩
theorem d4_26 : Dc prog_57_method_10_code 26 (.aload_n 0) 1 27 := ⟨by decide +kernel, rfl⟩
theorem d4_27 : Dc prog_57_method_10_code 27 (.getfield 19) 3 30 := ⟨by decide +kernel, rfl⟩
theorem d4_30 : Dc prog_57_method_10_code 30 (.iload_n 1) 1 31 := ⟨by decide +kernel, rfl⟩
theorem d4_31 : Dc prog_57_method_10_code 31 (.iadd) 1 32 := ⟨by decide +kernel, rfl⟩
theorem d4_32 : Dc prog_57_method_10_code 32 (.invokestatic 61) 3 35 := ⟨by decide +kernel, rfl⟩
theorem d4_35 : Dc prog_57_method_10_code 35 (.invokestatic 55) 3 38 := ⟨by decide +kernel, rfl⟩
theorem d4_38 : Dc prog_57_method_10_code 38 (.putfield 9) 3 41 := ⟨by decide +kernel, rfl⟩
theorem d4_41 : Dc prog_57_method_10_code 41 (.return_) 1 42 := ⟨by decide +kernel, rfl⟩
theorem pn_4 : plainFor (⟨"com/example/queue_directory/queuedirectory/rpc/NdrWriter", "room", "(I)V"⟩ : MethodName) = true := plainFor_of_name (by first | (simp [plainName, overriddenIn]; done) | decide +kernel)
theorem ef_4 (m : MethodId) (x0 : Addr) (x1 : Int32) : entryFrame m #[(.ref x0), (.int x1)] 2 = mkF m 0 #[.val (.ref x0), .val (.int x1)] [] := by first | (simp [entryFrame, mkF, argsToLocals, Value.category]; done) | rfl
theorem d5_0 : Dc prog_57_method_9_code 0 (.aload_n 0) 1 1 := ⟨by decide +kernel, rfl⟩
theorem d5_1 : Dc prog_57_method_9_code 1 (.getfield 9) 3 4 := ⟨by decide +kernel, rfl⟩
theorem d5_4 : Dc prog_57_method_9_code 4 (.aload_n 0) 1 5 := ⟨by decide +kernel, rfl⟩
theorem d5_5 : Dc prog_57_method_9_code 5 (.getfield 19) 3 8 := ⟨by decide +kernel, rfl⟩
theorem d5_8 : Dc prog_57_method_9_code 8 (.invokestatic 55) 3 11 := ⟨by decide +kernel, rfl⟩
theorem d5_11 : Dc prog_57_method_9_code 11 (.areturn) 1 12 := ⟨by decide +kernel, rfl⟩
theorem pn_5 : plainFor (⟨"com/example/queue_directory/queuedirectory/rpc/NdrWriter", "toByteArray", "()[B"⟩ : MethodName) = true := plainFor_of_name (by first | (simp [plainName, overriddenIn]; done) | decide +kernel)
theorem ef_5 (m : MethodId) (x0 : Addr) : entryFrame m #[(.ref x0)] 1 = mkF m 0 #[.val (.ref x0)] [] := by first | (simp [entryFrame, mkF, argsToLocals, Value.category]; done) | rfl
theorem d6_0 : Dc jdk_65_method_121_code 0 (.iload_n 1) 1 1 := ⟨by decide +kernel, rfl⟩
theorem d6_1 : Dc jdk_65_method_121_code 1 (.aload_n 0) 1 2 := ⟨by decide +kernel, rfl⟩
theorem d6_2 : Dc jdk_65_method_121_code 2 (.arraylength) 1 3 := ⟨by decide +kernel, rfl⟩
theorem d6_3 : Dj jdk_65_method_121_code 3 (.if_icmp .ne 11) 11 14 6 := ⟨by decide +kernel, by decide, by decide, rfl⟩
theorem d6_6 : Dc jdk_65_method_121_code 6 (.aload_n 0) 1 7 := ⟨by decide +kernel, rfl⟩
theorem d6_7 : Dc jdk_65_method_121_code 7 (.invokevirtual 310) 3 10 := ⟨by decide +kernel, rfl⟩
theorem d6_10 : Dc jdk_65_method_121_code 10 (.checkcast 311) 3 13 := ⟨by decide +kernel, rfl⟩
theorem d6_13 : Dc jdk_65_method_121_code 13 (.areturn) 1 14 := ⟨by decide +kernel, rfl⟩
theorem d6_14 : Dc jdk_65_method_121_code 14 (.iload_n 1) 1 15 := ⟨by decide +kernel, rfl⟩
theorem d6_15 : Dc jdk_65_method_121_code 15 (.newarray .byte) 2 17 := ⟨by decide +kernel, rfl⟩
theorem d6_17 : Dc jdk_65_method_121_code 17 (.astore_n 2) 1 18 := ⟨by decide +kernel, rfl⟩
theorem d6_18 : Dc jdk_65_method_121_code 18 (.aload_n 0) 1 19 := ⟨by decide +kernel, rfl⟩
theorem d6_19 : Dc jdk_65_method_121_code 19 (.iconst 0) 1 20 := ⟨by decide +kernel, rfl⟩
theorem d6_20 : Dc jdk_65_method_121_code 20 (.aload_n 2) 1 21 := ⟨by decide +kernel, rfl⟩
theorem d6_21 : Dc jdk_65_method_121_code 21 (.iconst 0) 1 22 := ⟨by decide +kernel, rfl⟩
theorem d6_22 : Dc jdk_65_method_121_code 22 (.aload_n 0) 1 23 := ⟨by decide +kernel, rfl⟩
theorem d6_23 : Dc jdk_65_method_121_code 23 (.arraylength) 1 24 := ⟨by decide +kernel, rfl⟩
theorem d6_24 : Dc jdk_65_method_121_code 24 (.iload_n 1) 1 25 := ⟨by decide +kernel, rfl⟩
theorem d6_25 : Dc jdk_65_method_121_code 25 (.invokestatic 304) 3 28 := ⟨by decide +kernel, rfl⟩
theorem d6_28 : Dc jdk_65_method_121_code 28 (.invokestatic 150) 3 31 := ⟨by decide +kernel, rfl⟩
theorem d6_31 : Dc jdk_65_method_121_code 31 (.aload_n 2) 1 32 := ⟨by decide +kernel, rfl⟩
theorem d6_32 : Dc jdk_65_method_121_code 32 (.areturn) 1 33 := ⟨by decide +kernel, rfl⟩
theorem pn_6 : plainFor (⟨"java/util/Arrays", "copyOf", "([BI)[B"⟩ : MethodName) = true := plainFor_of_name (by first | (simp [plainName, overriddenIn]; done) | decide +kernel)
theorem ef_6 (m : MethodId) (x0 : Addr) (x1 : Int32) : entryFrame m #[(.ref x0), (.int x1)] 3 = mkF m 0 #[.val (.ref x0), .val (.int x1), .unset] [] := by first | (simp [entryFrame, mkF, argsToLocals, Value.category]; done) | rfl
theorem d7_0 : Dc jdk_29_method_69_code 0 (.iload_n 0) 1 1 := ⟨by decide +kernel, rfl⟩
theorem d7_1 : Dc jdk_29_method_69_code 1 (.iload_n 1) 1 2 := ⟨by decide +kernel, rfl⟩
theorem d7_2 : Dj jdk_29_method_69_code 2 (.if_icmp .gt 7) 7 9 5 := ⟨by decide +kernel, by decide, by decide, rfl⟩
theorem d7_5 : Dc jdk_29_method_69_code 5 (.iload_n 0) 1 6 := ⟨by decide +kernel, rfl⟩
theorem d7_6 : Dj jdk_29_method_69_code 6 (.goto 4) 4 10 9 := ⟨by decide +kernel, by decide, by decide, rfl⟩
theorem d7_9 : Dc jdk_29_method_69_code 9 (.iload_n 1) 1 10 := ⟨by decide +kernel, rfl⟩
theorem d7_10 : Dc jdk_29_method_69_code 10 (.ireturn) 1 11 := ⟨by decide +kernel, rfl⟩
theorem pn_7 : plainFor (⟨"java/lang/Math", "min", "(II)I"⟩ : MethodName) = true := Jvm.Free.JP.mathPlain rfl (by decide +kernel)
theorem ef_7 (m : MethodId) (x0 : Int32) (x1 : Int32) : entryFrame m #[(.int x0), (.int x1)] 2 = mkF m 0 #[.val (.int x0), .val (.int x1)] [] := by first | (simp [entryFrame, mkF, argsToLocals, Value.category]; done) | rfl
theorem d8_0 : Dc prog_57_method_6_code 0 (.aload_n 0) 1 1 := ⟨by decide +kernel, rfl⟩
theorem d8_1 : Dc prog_57_method_6_code 1 (.aload_n 1) 1 2 := ⟨by decide +kernel, rfl⟩
theorem d8_2 : Dc prog_57_method_6_code 2 (.arraylength) 1 3 := ⟨by decide +kernel, rfl⟩
theorem d8_3 : Dc prog_57_method_6_code 3 (.invokevirtual 15) 3 6 := ⟨by decide +kernel, rfl⟩
theorem d8_6 : Dc prog_57_method_6_code 6 (.aload_n 1) 1 7 := ⟨by decide +kernel, rfl⟩
theorem d8_7 : Dc prog_57_method_6_code 7 (.iconst 0) 1 8 := ⟨by decide +kernel, rfl⟩
theorem d8_8 : Dc prog_57_method_6_code 8 (.aload_n 0) 1 9 := ⟨by decide +kernel, rfl⟩
theorem d8_9 : Dc prog_57_method_6_code 9 (.getfield 9) 3 12 := ⟨by decide +kernel, rfl⟩
theorem d8_12 : Dc prog_57_method_6_code 12 (.aload_n 0) 1 13 := ⟨by decide +kernel, rfl⟩
theorem d8_13 : Dc prog_57_method_6_code 13 (.getfield 19) 3 16 := ⟨by decide +kernel, rfl⟩
theorem d8_16 : Dc prog_57_method_6_code 16 (.aload_n 1) 1 17 := ⟨by decide +kernel, rfl⟩
theorem d8_17 : Dc prog_57_method_6_code 17 (.arraylength) 1 18 := ⟨by decide +kernel, rfl⟩
theorem d8_18 : Dc prog_57_method_6_code 18 (.invokestatic 49) 3 21 := ⟨by decide +kernel, rfl⟩
theorem d8_21 : Dc prog_57_method_6_code 21 (.aload_n 0) 1 22 := ⟨by decide +kernel, rfl⟩
theorem d8_22 : Dc prog_57_method_6_code 22 (.dup) 1 23 := ⟨by decide +kernel, rfl⟩
theorem d8_23 : Dc prog_57_method_6_code 23 (.getfield 19) 3 26 := ⟨by decide +kernel, rfl⟩
theorem d8_26 : Dc prog_57_method_6_code 26 (.aload_n 1) 1 27 := ⟨by decide +kernel, rfl⟩
theorem d8_27 : Dc prog_57_method_6_code 27 (.arraylength) 1 28 := ⟨by decide +kernel, rfl⟩
theorem d8_28 : Dc prog_57_method_6_code 28 (.iadd) 1 29 := ⟨by decide +kernel, rfl⟩
theorem d8_29 : Dc prog_57_method_6_code 29 (.putfield 19) 3 32 := ⟨by decide +kernel, rfl⟩
theorem d8_32 : Dc prog_57_method_6_code 32 (.aload_n 0) 1 33 := ⟨by decide +kernel, rfl⟩
theorem d8_33 : Dc prog_57_method_6_code 33 (.areturn) 1 34 := ⟨by decide +kernel, rfl⟩
theorem pn_8 : plainFor (⟨"com/example/queue_directory/queuedirectory/rpc/NdrWriter", "bytes", "([B)Lcom/example/queue_directory/queuedirectory/rpc/NdrWriter;"⟩ : MethodName) = true := plainFor_of_name (by first | (simp [plainName, overriddenIn]; done) | decide +kernel)
theorem ef_8 (m : MethodId) (x0 : Addr) (x1 : Addr) : entryFrame m #[(.ref x0), (.ref x1)] 2 = mkF m 0 #[.val (.ref x0), .val (.ref x1)] [] := by first | (simp [entryFrame, mkF, argsToLocals, Value.category]; done) | rfl
theorem d9_0 : Dc jdk_29_method_65_code 0 (.iload_n 0) 1 1 := ⟨by decide +kernel, rfl⟩
theorem d9_1 : Dc jdk_29_method_65_code 1 (.iload_n 1) 1 2 := ⟨by decide +kernel, rfl⟩
theorem d9_2 : Dj jdk_29_method_65_code 2 (.if_icmp .lt 7) 7 9 5 := ⟨by decide +kernel, by decide, by decide, rfl⟩
theorem d9_5 : Dc jdk_29_method_65_code 5 (.iload_n 0) 1 6 := ⟨by decide +kernel, rfl⟩
theorem d9_6 : Dj jdk_29_method_65_code 6 (.goto 4) 4 10 9 := ⟨by decide +kernel, by decide, by decide, rfl⟩
theorem d9_9 : Dc jdk_29_method_65_code 9 (.iload_n 1) 1 10 := ⟨by decide +kernel, rfl⟩
theorem d9_10 : Dc jdk_29_method_65_code 10 (.ireturn) 1 11 := ⟨by decide +kernel, rfl⟩
theorem pn_9 : plainFor (⟨"java/lang/Math", "max", "(II)I"⟩ : MethodName) = true := Jvm.Free.JP.mathPlain rfl (by decide +kernel)
theorem ef_9 (m : MethodId) (x0 : Int32) (x1 : Int32) : entryFrame m #[(.int x0), (.int x1)] 2 = mkF m 0 #[.val (.int x0), .val (.int x1)] [] := by first | (simp [entryFrame, mkF, argsToLocals, Value.category]; done) | rfl
theorem d10_0 : Dc prog_57_method_2_code 0 (.aload_n 0) 1 1 := ⟨by decide +kernel, rfl⟩
theorem d10_1 : Dc prog_57_method_2_code 1 (.iconst 1) 1 2 := ⟨by decide +kernel, rfl⟩
theorem d10_2 : Dc prog_57_method_2_code 2 (.invokevirtual 15) 3 5 := ⟨by decide +kernel, rfl⟩
theorem d10_5 : Dc prog_57_method_2_code 5 (.aload_n 0) 1 6 := ⟨by decide +kernel, rfl⟩
theorem d10_6 : Dc prog_57_method_2_code 6 (.getfield 9) 3 9 := ⟨by decide +kernel, rfl⟩
theorem d10_9 : Dc prog_57_method_2_code 9 (.aload_n 0) 1 10 := ⟨by decide +kernel, rfl⟩
theorem d10_10 : Dc prog_57_method_2_code 10 (.dup) 1 11 := ⟨by decide +kernel, rfl⟩
theorem d10_11 : Dc prog_57_method_2_code 11 (.getfield 19) 3 14 := ⟨by decide +kernel, rfl⟩
theorem d10_14 : Dc prog_57_method_2_code 14 (.dup_x1) 1 15 := ⟨by decide +kernel, rfl⟩
theorem d10_15 : Dc prog_57_method_2_code 15 (.iconst 1) 1 16 := ⟨by decide +kernel, rfl⟩
theorem d10_16 : Dc prog_57_method_2_code 16 (.iadd) 1 17 := ⟨by decide +kernel, rfl⟩
theorem d10_17 : Dc prog_57_method_2_code 17 (.putfield 19) 3 20 := ⟨by decide +kernel, rfl⟩
theorem d10_20 : Dc prog_57_method_2_code 20 (.iload_n 1) 1 21 := ⟨by decide +kernel, rfl⟩
theorem d10_21 : Dc prog_57_method_2_code 21 (.i2b) 1 22 := ⟨by decide +kernel, rfl⟩
theorem d10_22 : Dc prog_57_method_2_code 22 (.bastore) 1 23 := ⟨by decide +kernel, rfl⟩
theorem d10_23 : Dc prog_57_method_2_code 23 (.aload_n 0) 1 24 := ⟨by decide +kernel, rfl⟩
theorem d10_24 : Dc prog_57_method_2_code 24 (.areturn) 1 25 := ⟨by decide +kernel, rfl⟩
theorem pn_10 : plainFor (⟨"com/example/queue_directory/queuedirectory/rpc/NdrWriter", "u8", "(I)Lcom/example/queue_directory/queuedirectory/rpc/NdrWriter;"⟩ : MethodName) = true := plainFor_of_name (by first | (simp [plainName, overriddenIn]; done) | decide +kernel)
theorem ef_10 (m : MethodId) (x0 : Addr) (x1 : Int32) : entryFrame m #[(.ref x0), (.int x1)] 2 = mkF m 0 #[.val (.ref x0), .val (.int x1)] [] := by first | (simp [entryFrame, mkF, argsToLocals, Value.category]; done) | rfl
theorem pd_0 : parseMethodDescriptor "(II)I" = some ⟨[.int, .int], some .int⟩ := by decide +kernel
theorem pd_1 : parseMethodDescriptor "([BI)[B" = some ⟨[(.array .byte), .int], some (.array .byte)⟩ := by decide +kernel
theorem pd_2 : parseMethodDescriptor "(I)V" = some ⟨[.int], none⟩ := by decide +kernel
theorem pd_3 : parseMethodDescriptor "()V" = some ⟨[], none⟩ := by decide +kernel
theorem pd_4 : parseMethodDescriptor "(I)Lcom/example/queue_directory/queuedirectory/rpc/NdrWriter;" = some ⟨[.int], some (.object "com/example/queue_directory/queuedirectory/rpc/NdrWriter")⟩ := by decide +kernel
theorem pd_5 : parseMethodDescriptor "()[B" = some ⟨[], some (.array .byte)⟩ := by decide +kernel
theorem pd_6 : parseMethodDescriptor "([B)Lcom/example/queue_directory/queuedirectory/rpc/NdrWriter;" = some ⟨[(.array .byte)], some (.object "com/example/queue_directory/queuedirectory/rpc/NdrWriter")⟩ := by decide +kernel

theorem i2b_i2b (x : Int32) : x.toInt8.toInt32.toInt8.toInt32 = x.toInt8.toInt32 := i32_inj (by
  have h1 := i_i2b x.toInt8.toInt32; have h2 := i_i2b x
  rw [h1]; split at h2 <;> split <;> omega)
def minI (x y : Int32) : Int32 := if y.toInt < x.toInt then y else x
def maxI (x y : Int32) : Int32 := if x.toInt < y.toInt then y else x
theorem min_i (x y : Int32) : (minI x y).toInt = min x.toInt y.toInt := by unfold minI; split <;> omega
theorem max_i (x y : Int32) : (maxI x y).toInt = max x.toInt y.toInt := by unfold maxI; split <;> omega
def Byt (g : Nat → Int32) : Prop := ∀ j, (g j).toInt8.toInt32 = g j
def Zro (n : Nat) (g : Nat → Int32) : Prop := ∀ j, n ≤ j → g j = 0
theorem byt0 : Byt (fun _ => (0 : Int32)) := fun _ => rfl
theorem zro0 (n : Nat) : Zro n (fun _ => (0 : Int32)) := fun _ _ => rfl
theorem byt_upd {g : Nat → Int32} (h : Byt g) (i : Nat) (v : Int32) : Byt (upd g i v.toInt8.toInt32) := fun j => by
  by_cases q : j = i
  · subst q; rw [upd_at]; exact i2b_i2b v
  · rw [upd_ne _ _ q]; exact h j
theorem zro_upd {g : Nat → Int32} {n : Nat} (h : Zro n g) (v : Int32) : Zro (n + 1) (upd g n v) := fun j hj => by rw [upd_ne _ _ (by omega)]; exact h j (by omega)
theorem zro_mono {g : Nat → Int32} {n n' : Nat} (h : Zro n g) (q : n ≤ n') : Zro n' g := fun j hj => h j (by omega)
theorem byt_cpy {a b : Nat → Int32} (ha : Byt a) (hb : Byt b) (s d n : Nat) : Byt (cpy a b s d n) := fun j => by
  unfold cpy; split
  · exact ha _
  · exact hb _
theorem zro_cpy {a b : Nat → Int32} {d : Nat} (hb : Zro d b) (s n : Nat) : Zro (d + n) (cpy a b s d n) := fun j hj => by
  unfold cpy; rw [if_neg (by omega)]; exact hb j (by omega)
/-- an array's first n places, 0 behind -/
def ext0 (g : Nat → Int32) (n : Nat) : Nat → Int32 := fun j => if j < n then g j else 0
theorem byt_ext {g : Nat → Int32} (h : Byt g) (n : Nat) : Byt (ext0 g n) := fun j => by
  unfold ext0; split
  · exact h j
  · rfl
def capf (cap len cnt : Nat) : Nat := if len + cnt ≤ cap then cap else max (2 * cap) (len + cnt)
theorem capf_f {cap len cnt : Nat} (h : len + cnt ≤ cap) : capf cap len cnt = cap := if_pos h
theorem capf_g {cap len cnt : Nat} (h : ¬ len + cnt ≤ cap) : capf cap len cnt = max (2 * cap) (len + cnt) := if_neg h
theorem ne_keep {o ar ar' n : Nat} (h : o ≠ ar) (lt : o < n) (q : ar' = ar ∨ n ≤ ar') : o ≠ ar' := by
  rcases q with rfl | q
  · exact h
  · omega
theorem in_ws {x0 ar ar' n : Nat} (q : ar' = ar ∨ n ≤ ar') : ar' ∈ [x0, ar] ∨ n ≤ ar' := q.imp (fun e => by rw [e]; exact List.mem_cons_of_mem _ (List.mem_singleton.mpr rfl)) id

set_option maxRecDepth 65536 in
set_option maxHeartbeats 40000000 in
theorem ct7 (l : Launch) (Z : State) (a0 : Array Value) (hw : ∀ d ∈ tables_1, d.before a0 Z = true) (x0 : Int32) (x1 : Int32) (h0 : Heap)  :
    Ct l Z (⟨"java/lang/Math", "min", "(II)I"⟩ : MethodName) jdk_29_method_69_code 2 (some .int) ({ frames := 0, cells := 0, slots := 0, locals := 0 } : Room) #[(.int x0), (.int x1)] h0 (fun v h' L => v = some (.int (minI x0 x1)) ∧ h' = h0 ∧ L = []) := by
  refine Ct.body pn_7 ?_
  intro p e s m below meth c T X hx hby hml hown hnm hret hlk hZ eT
  rw [ef_7]

  refine w_iloadN X hx (dq hby d7_0) rfl ?_
  refine w_iloadN X hx (dq hby d7_1) rfl ?_
  refine w_icmp_gt X hx (dj hby d7_2) (fun hc2 => ?_) (fun hc2 => ?_)
  · refine w_iloadN X hx (dq hby d7_9) rfl ?_
    refine w_retI X hx hret hlk (dq hby d7_10) (by decide) (by decide) ?_
    exact ⟨by unfold minI; split <;> first | rfl | omega, eT, rfl⟩
  · refine w_iloadN X hx (dq hby d7_5) rfl ?_
    refine w_goto X hx (dj hby d7_6) ?_
    refine w_retI X hx hret hlk (dq hby d7_10) (by decide) (by decide) ?_
    exact ⟨by unfold minI; split <;> first | rfl | omega, eT, rfl⟩
set_option maxRecDepth 65536 in
set_option maxHeartbeats 40000000 in
theorem ct9 (l : Launch) (Z : State) (a0 : Array Value) (hw : ∀ d ∈ tables_1, d.before a0 Z = true) (x0 : Int32) (x1 : Int32) (h0 : Heap)  :
    Ct l Z (⟨"java/lang/Math", "max", "(II)I"⟩ : MethodName) jdk_29_method_65_code 2 (some .int) ({ frames := 0, cells := 0, slots := 0, locals := 0 } : Room) #[(.int x0), (.int x1)] h0 (fun v h' L => v = some (.int (maxI x0 x1)) ∧ h' = h0 ∧ L = []) := by
  refine Ct.body pn_9 ?_
  intro p e s m below meth c T X hx hby hml hown hnm hret hlk hZ eT
  rw [ef_9]

  refine w_iloadN X hx (dq hby d9_0) rfl ?_
  refine w_iloadN X hx (dq hby d9_1) rfl ?_
  refine w_icmp_lt X hx (dj hby d9_2) (fun hc2 => ?_) (fun hc2 => ?_)
  · refine w_iloadN X hx (dq hby d9_9) rfl ?_
    refine w_retI X hx hret hlk (dq hby d9_10) (by decide) (by decide) ?_
    exact ⟨by unfold maxI; split <;> first | rfl | omega, eT, rfl⟩
  · refine w_iloadN X hx (dq hby d9_5) rfl ?_
    refine w_goto X hx (dj hby d9_6) ?_
    refine w_retI X hx hret hlk (dq hby d9_10) (by decide) (by decide) ?_
    exact ⟨by unfold maxI; split <;> first | rfl | omega, eT, rfl⟩

theorem own_cp {g : Nat → Int32} {n mm j : Nat} (hj : j < mm) : cpy g (fun _ => (0 : Int32)) 0 0 (min n mm) j = ext0 g n j := by
  unfold cpy ext0
  by_cases q : j < n
  · rw [if_pos (by omega), if_pos q]; congr 1; omega
  · rw [if_neg (by omega), if_neg q]

set_option maxRecDepth 65536 in
set_option maxHeartbeats 40000000 in
theorem ct6 (l : Launch) (Z : State) (a0 : Array Value) (hw : ∀ d ∈ tables_1, d.before a0 Z = true) (x0 : Addr) (x1 : Int32) (n0 n mm : Nat) (g : Nat → Int32) (h0 : Heap) (Z0 : n0 ≤ h0.size) (A_x0 : AV Z h0 x0 .byte n (iF g)) (E_x0 : Exa Z h0 x0 "[B") (hY : Byt g) (hm : x1.toInt = (mm : Int)) (hsl : mm ≤ 128) :
    Ct l Z (⟨"java/util/Arrays", "copyOf", "([BI)[B"⟩ : MethodName) jdk_65_method_121_code 3 (some (.array .byte)) ({ frames := 1, cells := 1, slots := 128, locals := 40 } : Room) #[(.ref x0), (.int x1)] h0 (fun v h' L => ∃ b : Addr, v = some (.ref b) ∧ Fr n0 L ∧ Keep h0 h' [] ∧ h0.size ≤ b ∧ AV Z h' b .byte mm (iF (ext0 g n)) ∧ Exa Z h' b "[B") := by
  refine Ct.body pn_6 ?_
  intro p e s m below meth c T X hx hby hml hown hnm hret hlk hZ eT
  rw [ef_6]
  have N := Fr.nil n0
  have K := Keep.refl h0 []
  have hn2 := A_x0.1
  have hmin : (minI (Int32.ofNat n) x1).toInt = ((min n mm : Nat) : Int) := by rw [min_i, i_ofNat (by omega), hm]; omega
  refine w_iloadN X hx (dq hby d6_0) rfl ?_
  refine w_aloadN X hx (dq hby d6_1) rfl rfl ?_
  refine w_arrlen X hx hZ eT A_x0 (z := (Int32.ofNat n)) (i_ofNat (by omega)) (dq hby d6_2) ?_
  refine w_icmp_ne X hx (dj hby d6_3) (fun hc3 => ?_) (fun hc3 => ?_)
  · refine w_iloadN X hx (dq hby d6_14) rfl ?_
    refine w_newarrE X hx hZ eT (hw _ (List.mem_of_getElem? (i := 0) rfl)) (dq hby d6_15) (n := mm) (cap := 128) (hm) (hsl) (by decide) (by decide) (by decide) fun T h1 b15 hb_b15 X eT EX A_b15 E_b15 => ?_
    have ne_x0_b15 : x0 ≠ b15 := by rw [hb_b15]; exact Nat.ne_of_lt E_x0.lt
    have g_b15 : n0 ≤ b15 := by omega
    have ge_b15 : h0.size ≤ b15 := by have := K.1; omega
    replace E_x0 := Exa.ext EX E_x0
    replace A_x0 := AV.ext A_x0 EX
    replace Z0 := Nat.le_trans Z0 EX.1
    replace K := K.ext EX
    replace A_b15 : AV Z h1 b15 .byte mm (iF (fun _ => (0 : Int32))) := A_b15
    refine w_astoreN X hx (dq hby d6_17) rfl (Ls' := #[.val (.ref x0), .val (.int x1), .val (.ref b15)]) rfl ?_
    refine w_aloadN X hx (dq hby d6_18) rfl rfl ?_
    refine w_iconst X hx (dq hby d6_19) (z := 0) rfl ?_
    refine w_aloadN X hx (dq hby d6_20) rfl rfl ?_
    refine w_iconst X hx (dq hby d6_21) (z := 0) rfl ?_
    refine w_aloadN X hx (dq hby d6_22) rfl rfl ?_
    refine w_arrlen X hx hZ eT A_x0 (z := (Int32.ofNat n)) (i_ofNat (by omega)) (dq hby d6_23) ?_
    refine w_iloadN X hx (dq hby d6_24) rfl ?_
    refine w_callSP X hx hZ eT hml (by rfl) hown (hw _ (List.mem_of_getElem? (i := 32) rfl)) (hw _ (List.mem_of_getElem? (i := 33) rfl)) (hw _ (List.mem_of_getElem? (i := 34) rfl)) (hw _ (List.mem_of_getElem? (i := 35) rfl)) (by decide) (ct7 l Z a0 hw (Int32.ofNat n) x1 h1) (dq hby d6_25) pd_0 (argsL := [(.int (Int32.ofNat n)), (.int x1)]) (rest := [(.int (0 : Int32)), (.ref b15), (.int (0 : Int32)), (.ref x0)]) rfl rfl rfl (W := 4) rfl (by decide) (by decide) (by decide) (by decide) fun T X eT => ?_
    refine w_acopy X hx hZ eT hml (by rfl) hown (hw _ (List.mem_of_getElem? (i := 36) rfl)) (hw _ (List.mem_of_getElem? (i := 39) rfl)) (hw _ (List.mem_of_getElem? (i := 37) rfl)) (hw _ (List.mem_of_getElem? (i := 38) rfl)) A_x0 A_b15 hY byt0 (sp := 0) (dp := 0) (n := (min n mm)) rfl rfl hmin (by omega) (by omega) N g_b15 (dq hby d6_28) (by decide) (W := 0) rfl (by decide) fun T h2 locs X eT N K' A_b15' => ?_
    replace E_x0 := Exa.keep E_x0 K'
    replace A_x0 := AV.keep A_x0 K' (ninS ne_x0_b15 nin0)
    replace Z0 := Nat.le_trans Z0 K'.1
    replace K := K.trans K' (allS (Or.inr ge_b15) all0)
    replace A_b15 := A_b15'
    replace E_b15 := Exa.keep E_b15 K'
    refine w_aloadN X hx (dq hby d6_31) rfl rfl ?_
    refine w_retA X hx hret rfl rfl hlk (dq hby d6_32) (by decide) (by decide) ?_
    rw [eT]
    exact ⟨_, rfl, N, K, ge_b15, A_b15.congr fun j hj => congrArg Value.int (own_cp hj), E_b15⟩
  · refine w_aloadN X hx (dq hby d6_6) rfl rfl ?_
    refine w_clone X hx hZ eT hml (by rfl) hown (hw _ (List.mem_of_getElem? (i := 55) rfl)) (hw _ (List.mem_of_getElem? (i := 56) rfl)) (hw _ (List.mem_of_getElem? (i := 60) rfl)) (hw _ (List.mem_of_getElem? (i := 58) rfl)) (hw _ (List.mem_of_getElem? (i := 59) rfl)) (hw _ (List.mem_of_getElem? (i := 61) rfl)) A_x0 hY E_x0 (dq hby d6_7) (by decide) (W := 0) (cap := 128) rfl (by decide) (by have := congrArg Int32.toInt hc3; rw [i_ofNat (by omega)] at this; omega) (by decide) (by decide) fun T h3 b7 hb_b7 X eT EX A_b7 E_b7 => ?_
    have ne_x0_b7 : x0 ≠ b7 := by rw [hb_b7]; exact Nat.ne_of_lt E_x0.lt
    have g_b7 : n0 ≤ b7 := by omega
    have ge_b7 : h0.size ≤ b7 := by have := K.1; omega
    replace E_x0 := Exa.ext EX E_x0
    replace A_x0 := AV.ext A_x0 EX
    replace Z0 := Nat.le_trans Z0 EX.1
    replace K := K.ext EX
    refine w_cast X hx hZ eT hown (hw _ (List.mem_of_getElem? (i := 62) rfl)) E_b7 (dq hby d6_10) fun T X eT => ?_
    refine w_retA X hx hret rfl rfl hlk (dq hby d6_13) (by decide) (by decide) ?_
    have emn : mm = n := by have := congrArg Int32.toInt hc3; rw [i_ofNat (by omega)] at this; omega
    rw [eT]
    subst emn
    exact ⟨_, rfl, N, K, ge_b7, A_b7.congr fun j hj => congrArg Value.int (by rw [ext0, if_pos hj]), E_b7⟩
set_option maxRecDepth 65536 in
set_option maxHeartbeats 40000000 in
theorem ct1 (l : Launch) (Z : State) (a0 : Array Value) (hw : ∀ d ∈ tables_1, d.before a0 Z = true) (x0 : Addr) (n0 : Nat) (h0 : Heap) (Z0 : n0 ≤ h0.size) (g_x0 : n0 ≤ x0) (E_x0 : Exa Z h0 x0 "com/example/queue_directory/queuedirectory/rpc/NdrWriter") (F_bytes_x0 : Fld Z h0 x0 "com/example/queue_directory/queuedirectory/rpc/NdrWriter" "bytes" "[B" .null) (F_length_x0 : Fld Z h0 x0 "com/example/queue_directory/queuedirectory/rpc/NdrWriter" "length" "I" (.int 0)) :
    Ct l Z (⟨"com/example/queue_directory/queuedirectory/rpc/NdrWriter", "<init>", "()V"⟩ : MethodName) prog_57_method_1_code 1 none ({ frames := 1, cells := 1, slots := 64, locals := 14 } : Room) #[(.ref x0)] h0 (fun v h' L => v = none ∧ Fr n0 L ∧ Keep h0 h' [x0] ∧ Exa Z h' x0 "com/example/queue_directory/queuedirectory/rpc/NdrWriter" ∧ ∃ ar : Addr, n0 ≤ ar ∧ h0.size ≤ ar ∧ x0 ≠ ar ∧ Fld Z h' x0 "com/example/queue_directory/queuedirectory/rpc/NdrWriter" "bytes" "[B" (.ref ar) ∧ Fld Z h' x0 "com/example/queue_directory/queuedirectory/rpc/NdrWriter" "length" "I" (.int 0) ∧ AV Z h' ar .byte 64 (iF (fun _ => 0)) ∧ Exa Z h' ar "[B") := by
  refine Ct.body pn_1 ?_
  intro p e s m below meth c T X hx hby hml hown hnm hret hlk hZ eT
  rw [ef_1]
  have N := Fr.nil n0
  have K := Keep.refl h0 [x0]
  refine w_aloadN X hx (dq hby d1_0) rfl rfl ?_
  refine w_objinit X hx hZ eT hml (by rfl) hown (hw _ (List.mem_of_getElem? (i := 7) rfl)) (hw _ (List.mem_of_getElem? (i := 8) rfl)) (hw _ (List.mem_of_getElem? (i := 9) rfl)) (dq hby d1_1) (by decide) (W := 0) rfl (by decide) fun T X eT => ?_
  refine w_aloadN X hx (dq hby d1_4) rfl rfl ?_
  refine w_bipush X hx (dq hby d1_5) (z := 64) rfl ?_
  refine w_newarrE X hx hZ eT (hw _ (List.mem_of_getElem? (i := 0) rfl)) (dq hby d1_7) (n := 64) (cap := 64) (rfl) ((by decide)) (by decide) (by decide) (by decide) fun T h1 b7 hb_b7 X eT EX A_b7 E_b7 => ?_
  have ne_x0_b7 : x0 ≠ b7 := by rw [hb_b7]; exact Nat.ne_of_lt (Fld.lt F_bytes_x0)
  have g_b7 : n0 ≤ b7 := by omega
  have ge_b7 : h0.size ≤ b7 := by have := K.1; omega
  replace F_bytes_x0 := Fld.ext EX F_bytes_x0
  replace F_length_x0 := Fld.ext EX F_length_x0
  replace E_x0 := Exa.ext EX E_x0
  replace Z0 := Nat.le_trans Z0 EX.1
  replace K := K.ext EX
  replace A_b7 : AV Z h1 b7 .byte 64 (iF (fun _ => (0 : Int32))) := A_b7
  refine w_putf X hx hZ eT hown (hw _ (List.mem_of_getElem? (i := 10) rfl)) F_bytes_x0 E_x0 (Or.inl (hw _ (List.mem_of_getElem? (i := 11) rfl))) (hw _ (List.mem_of_getElem? (i := 2) rfl)) (ty := (.array .byte)) (by decide) rfl rfl (dq hby d1_9) fun T h2 X eT W => ?_
  replace F_length_x0 := Fld.other W F_length_x0 (Or.inr (slot_ne (Or.inl (hw _ (List.mem_of_getElem? (i := 18) rfl))) (Or.inl (hw _ (List.mem_of_getElem? (i := 11) rfl))) (by decide) (t := .int) (t' := (.array .byte)) (by decide) (by decide)))
  replace E_x0 := Exa.wr W E_x0
  replace E_b7 := Exa.wr W E_b7
  replace A_b7 := AV.other A_b7 W (Ne.symm ne_x0_b7)
  replace Z0 := Nat.le_trans Z0 (Nat.le_of_eq W.size.symm)
  replace K := K.wr W (Or.inl (List.mem_singleton.mpr rfl))
  replace N := Fr.snoc X N g_x0
  replace F_bytes_x0 := Fld.same W F_bytes_x0
  refine w_ret X hx hret hlk (dq hby d1_12) (by decide) (by decide) ?_
  rw [eT]
  exact ⟨rfl, N, K, E_x0, b7, g_b7, ge_b7, ne_x0_b7, F_bytes_x0, F_length_x0, A_b7, E_b7⟩
theorem own_ext {g : Nat → Int32} {len cap : Nat} (hz : Zro len g) (h : len ≤ cap) (j : Nat) : ext0 g cap j = g j := by
  unfold ext0; split
  · rfl
  · exact (hz j (by omega)).symm
set_option maxRecDepth 65536 in
set_option maxHeartbeats 40000000 in
theorem roomN (l : Launch) (Z : State) (a0 : Array Value) (hw : ∀ d ∈ tables_1, d.before a0 Z = true) (x0 : Addr) (x1 : Int32) (n0 : Nat) (ar : Addr) (lv : Int32) (cap len : Nat) (g : Nat → Int32) (cnt : Nat) (h0 : Heap) (Z0 : n0 ≤ h0.size) (g_x0 : n0 ≤ x0) (g_ar : n0 ≤ ar) (ne_x0_ar : x0 ≠ ar) (E_x0 : Exa Z h0 x0 "com/example/queue_directory/queuedirectory/rpc/NdrWriter") (F_bytes_x0 : Fld Z h0 x0 "com/example/queue_directory/queuedirectory/rpc/NdrWriter" "bytes" "[B" (.ref ar)) (F_length_x0 : Fld Z h0 x0 "com/example/queue_directory/queuedirectory/rpc/NdrWriter" "length" "I" (.int lv)) (A_ar : AV Z h0 ar .byte cap (iF g)) (E_ar : Exa Z h0 ar "[B") (hlv : lv.toInt = (len : Int)) (hlc : len ≤ cap) (hcap : 1 ≤ cap ∧ cap ≤ 1024) (hY : Byt g) (hz : Zro len g) (hc : x1.toInt = (cnt : Int)) (hc2 : cnt ≤ 1024) (hfit : len + cnt ≤ cap) :
    Ct l Z (⟨"com/example/queue_directory/queuedirectory/rpc/NdrWriter", "room", "(I)V"⟩ : MethodName) prog_57_method_10_code 2 none ({ frames := 0, cells := 0, slots := 0, locals := 0 } : Room) #[(.ref x0), (.int x1)] h0 (fun v h' L => v = none ∧ Fr n0 L ∧ Keep h0 h' [x0, ar] ∧ Exa Z h' x0 "com/example/queue_directory/queuedirectory/rpc/NdrWriter" ∧ ∃ (ar' : Addr) (cap' : Nat) (lv' : Int32), n0 ≤ ar' ∧ x0 ≠ ar' ∧ (ar' = ar ∨ h0.size ≤ ar') ∧ lv'.toInt = ((len : Nat) : Int) ∧ Fld Z h' x0 "com/example/queue_directory/queuedirectory/rpc/NdrWriter" "bytes" "[B" (.ref ar') ∧ Fld Z h' x0 "com/example/queue_directory/queuedirectory/rpc/NdrWriter" "length" "I" (.int lv') ∧ AV Z h' ar' .byte cap' (iF g) ∧ Exa Z h' ar' "[B" ∧ cap' = capf cap len cnt) := by
  refine Ct.body pn_4 ?_
  intro p e s m below meth c T X hx hby hml hown hnm hret hlk hZ eT
  rw [ef_4]
  have N := Fr.nil n0
  have K := Keep.refl h0 [x0, ar]
  have l2 : (2 : Int32).toInt = 2 := rfl
  have s1 : (Int32.ofNat cap - lv).toInt = (cap : Int) - len := by rw [Jvm.Kit.i32_sub] <;> rw [i_ofNat (by omega)] <;> omega
  have s2 : (Int32.ofNat cap * 2).toInt = 2 * (cap : Int) := by rw [Jvm.Kit.i32_mul] <;> rw [i_ofNat (by omega), l2] <;> omega
  have s3 : (lv + x1).toInt = (len : Int) + cnt := by rw [Jvm.Kit.i32_add] <;> omega
  refine w_aloadN X hx (dq hby d4_0) rfl rfl ?_
  refine w_getf X hx hZ eT hown (hw _ (List.mem_of_getElem? (i := 10) rfl)) F_bytes_x0 (dq hby d4_1) fun T X eT => ?_
  refine w_arrlen X hx hZ eT A_ar (z := (Int32.ofNat cap)) (i_ofNat (by omega)) (dq hby d4_4) ?_
  refine w_aloadN X hx (dq hby d4_5) rfl rfl ?_
  refine w_getf X hx hZ eT hown (hw _ (List.mem_of_getElem? (i := 17) rfl)) F_length_x0 (dq hby d4_6) fun T X eT => ?_
  refine w_isub X hx (dq hby d4_9) ?_
  refine w_iloadN X hx (dq hby d4_10) rfl ?_
  refine w_icmp_ge X hx (dj hby d4_11) (fun hc11 => ?_) (fun hc11 => (?_ : False).elim)
  rotate_left
  · omega
  refine w_ret X hx hret hlk (dq hby d4_41) (by decide) (by decide) ?_
  rw [eT]
  exact ⟨rfl, N, K, E_x0, ar, cap, lv, g_ar, ne_x0_ar, Or.inl rfl, hlv, F_bytes_x0, F_length_x0, A_ar, E_ar, (capf_f (by omega)).symm⟩
set_option maxRecDepth 65536 in
set_option maxHeartbeats 40000000 in
theorem roomG (l : Launch) (Z : State) (a0 : Array Value) (hw : ∀ d ∈ tables_1, d.before a0 Z = true) (x0 : Addr) (x1 : Int32) (n0 : Nat) (ar : Addr) (lv : Int32) (cap len : Nat) (g : Nat → Int32) (cnt : Nat) (h0 : Heap) (Z0 : n0 ≤ h0.size) (g_x0 : n0 ≤ x0) (g_ar : n0 ≤ ar) (ne_x0_ar : x0 ≠ ar) (E_x0 : Exa Z h0 x0 "com/example/queue_directory/queuedirectory/rpc/NdrWriter") (F_bytes_x0 : Fld Z h0 x0 "com/example/queue_directory/queuedirectory/rpc/NdrWriter" "bytes" "[B" (.ref ar)) (F_length_x0 : Fld Z h0 x0 "com/example/queue_directory/queuedirectory/rpc/NdrWriter" "length" "I" (.int lv)) (A_ar : AV Z h0 ar .byte cap (iF g)) (E_ar : Exa Z h0 ar "[B") (hlv : lv.toInt = (len : Int)) (hlc : len ≤ cap) (hcap : 1 ≤ cap ∧ cap ≤ 1024) (hY : Byt g) (hz : Zro len g) (hc : x1.toInt = (cnt : Int)) (hc2 : cnt ≤ 1024) (hfit : len + cnt ≤ cap ∨ max (2 * cap) (len + cnt) ≤ 128) :
    Ct l Z (⟨"com/example/queue_directory/queuedirectory/rpc/NdrWriter", "room", "(I)V"⟩ : MethodName) prog_57_method_10_code 2 none ({ frames := 2, cells := 1, slots := 128, locals := 62 } : Room) #[(.ref x0), (.int x1)] h0 (fun v h' L => v = none ∧ Fr n0 L ∧ Keep h0 h' [x0, ar] ∧ Exa Z h' x0 "com/example/queue_directory/queuedirectory/rpc/NdrWriter" ∧ ∃ (ar' : Addr) (cap' : Nat) (lv' : Int32), n0 ≤ ar' ∧ x0 ≠ ar' ∧ (ar' = ar ∨ h0.size ≤ ar') ∧ lv'.toInt = ((len : Nat) : Int) ∧ Fld Z h' x0 "com/example/queue_directory/queuedirectory/rpc/NdrWriter" "bytes" "[B" (.ref ar') ∧ Fld Z h' x0 "com/example/queue_directory/queuedirectory/rpc/NdrWriter" "length" "I" (.int lv') ∧ AV Z h' ar' .byte cap' (iF g) ∧ Exa Z h' ar' "[B" ∧ cap' = capf cap len cnt) := by
  refine Ct.body pn_4 ?_
  intro p e s m below meth c T X hx hby hml hown hnm hret hlk hZ eT
  rw [ef_4]
  have N := Fr.nil n0
  have K := Keep.refl h0 [x0, ar]
  have l2 : (2 : Int32).toInt = 2 := rfl
  have s1 : (Int32.ofNat cap - lv).toInt = (cap : Int) - len := by rw [Jvm.Kit.i32_sub] <;> rw [i_ofNat (by omega)] <;> omega
  have s2 : (Int32.ofNat cap * 2).toInt = 2 * (cap : Int) := by rw [Jvm.Kit.i32_mul] <;> rw [i_ofNat (by omega), l2] <;> omega
  have s3 : (lv + x1).toInt = (len : Int) + cnt := by rw [Jvm.Kit.i32_add] <;> omega
  refine w_aloadN X hx (dq hby d4_0) rfl rfl ?_
  refine w_getf X hx hZ eT hown (hw _ (List.mem_of_getElem? (i := 10) rfl)) F_bytes_x0 (dq hby d4_1) fun T X eT => ?_
  refine w_arrlen X hx hZ eT A_ar (z := (Int32.ofNat cap)) (i_ofNat (by omega)) (dq hby d4_4) ?_
  refine w_aloadN X hx (dq hby d4_5) rfl rfl ?_
  refine w_getf X hx hZ eT hown (hw _ (List.mem_of_getElem? (i := 17) rfl)) F_length_x0 (dq hby d4_6) fun T X eT => ?_
  refine w_isub X hx (dq hby d4_9) ?_
  refine w_iloadN X hx (dq hby d4_10) rfl ?_
  refine w_icmp_ge X hx (dj hby d4_11) (fun hc11 => ?_) (fun hc11 => ?_)
  · refine w_ret X hx hret hlk (dq hby d4_41) (by decide) (by decide) ?_
    rw [eT]
    exact ⟨rfl, N, K, E_x0, ar, cap, lv, g_ar, ne_x0_ar, Or.inl rfl, hlv, F_bytes_x0, F_length_x0, A_ar, E_ar, (capf_f (by omega)).symm⟩
  · refine w_aloadN X hx (dq hby d4_14) rfl rfl ?_
    refine w_aloadN X hx (dq hby d4_15) rfl rfl ?_
    refine w_getf X hx hZ eT hown (hw _ (List.mem_of_getElem? (i := 10) rfl)) F_bytes_x0 (dq hby d4_16) fun T X eT => ?_
    refine w_aloadN X hx (dq hby d4_19) rfl rfl ?_
    refine w_getf X hx hZ eT hown (hw _ (List.mem_of_getElem? (i := 10) rfl)) F_bytes_x0 (dq hby d4_20) fun T X eT => ?_
    refine w_arrlen X hx hZ eT A_ar (z := (Int32.ofNat cap)) (i_ofNat (by omega)) (dq hby d4_23) ?_
    refine w_iconst X hx (dq hby d4_24) (z := 2) rfl ?_
    refine w_imul X hx (dq hby d4_25) ?_
    refine w_aloadN X hx (dq hby d4_26) rfl rfl ?_
    refine w_getf X hx hZ eT hown (hw _ (List.mem_of_getElem? (i := 17) rfl)) F_length_x0 (dq hby d4_27) fun T X eT => ?_
    refine w_iloadN X hx (dq hby d4_30) rfl ?_
    refine w_iadd X hx (dq hby d4_31) ?_
    refine w_callSP X hx hZ eT hml (by rfl) hown (hw _ (List.mem_of_getElem? (i := 47) rfl)) (hw _ (List.mem_of_getElem? (i := 48) rfl)) (hw _ (List.mem_of_getElem? (i := 34) rfl)) (hw _ (List.mem_of_getElem? (i := 49) rfl)) (by decide) (ct9 l Z a0 hw ((Int32.ofNat cap) * (2 : Int32)) (lv + x1) h0) (dq hby d4_32) pd_0 (argsL := [(.int ((Int32.ofNat cap) * (2 : Int32))), (.int (lv + x1))]) (rest := [(.ref ar), (.ref x0)]) rfl rfl rfl (W := 2) rfl (by decide) (by decide) (by decide) (by decide) fun T X eT => ?_
    refine w_callS X hx hZ eT hml (by rfl) hown (hw _ (List.mem_of_getElem? (i := 28) rfl)) (hw _ (List.mem_of_getElem? (i := 29) rfl)) (hw _ (List.mem_of_getElem? (i := 30) rfl)) (hw _ (List.mem_of_getElem? (i := 31) rfl)) (by decide) (ct6 l Z a0 hw ar (maxI ((Int32.ofNat cap) * (2 : Int32)) (lv + x1)) n0 cap (max (2 * cap) (len + cnt)) g h0 Z0 A_ar E_ar hY (by rw [max_i, s2, s3]; omega) (by omega) ) (dq hby d4_35) pd_1 (argsL := [(.ref ar), (.int (maxI ((Int32.ofNat cap) * (2 : Int32)) (lv + x1)))]) (rest := [(.ref x0)]) rfl rfl rfl (W := 1) rfl (by decide) (by decide) (by decide) (by decide) fun v T L X hQ => ?_
    have lt_x0 := E_x0.lt
    have lt_ar := A_ar.lt
    generalize eT : T.heap = h1 at hQ
    obtain ⟨bc, rfl, N', K', ge_bc', A_bc, E_bc⟩ := hQ
    have g_bc : n0 ≤ bc := Nat.le_trans Z0 ge_bc'
    have ge_bc : h0.size ≤ bc := Nat.le_trans K.1 ge_bc'
    have ne_x0_bc : x0 ≠ bc := Nat.ne_of_lt (Nat.lt_of_lt_of_le lt_x0 ge_bc')
    have ne_ar_bc : ar ≠ bc := Nat.ne_of_lt (Nat.lt_of_lt_of_le lt_ar ge_bc')
    replace F_bytes_x0 := Fld.keep F_bytes_x0 K' nin0
    replace F_length_x0 := Fld.keep F_length_x0 K' nin0
    replace E_x0 := Exa.keep E_x0 K'
    replace E_ar := Exa.keep E_ar K'
    replace A_ar := AV.keep A_ar K' nin0
    replace Z0 := Nat.le_trans Z0 K'.1
    replace K := K.trans K' all0
    replace N := Fr.app N N'
    refine w_putf X hx hZ eT hown (hw _ (List.mem_of_getElem? (i := 10) rfl)) F_bytes_x0 E_x0 (Or.inl (hw _ (List.mem_of_getElem? (i := 11) rfl))) (hw _ (List.mem_of_getElem? (i := 2) rfl)) (ty := (.array .byte)) (by decide) rfl rfl (dq hby d4_38) fun T h2 X eT W => ?_
    replace F_length_x0 := Fld.other W F_length_x0 (Or.inr (slot_ne (Or.inl (hw _ (List.mem_of_getElem? (i := 18) rfl))) (Or.inl (hw _ (List.mem_of_getElem? (i := 11) rfl))) (by decide) (t := .int) (t' := (.array .byte)) (by decide) (by decide)))
    replace E_x0 := Exa.wr W E_x0
    replace E_ar := Exa.wr W E_ar
    replace E_bc := Exa.wr W E_bc
    replace A_ar := AV.other A_ar W (Ne.symm ne_x0_ar)
    replace A_bc := AV.other A_bc W (Ne.symm ne_x0_bc)
    replace Z0 := Nat.le_trans Z0 (Nat.le_of_eq W.size.symm)
    replace K := K.wr W (Or.inl (List.mem_cons_self ..))
    replace N := Fr.snoc X N g_x0
    replace F_bytes_x0 := Fld.same W F_bytes_x0
    refine w_ret X hx hret hlk (dq hby d4_41) (by decide) (by decide) ?_
    rw [eT]
    exact ⟨rfl, N, K, E_x0, bc, _, lv, g_bc, ne_x0_bc, Or.inr ge_bc, hlv, F_bytes_x0, F_length_x0, A_bc.congr fun j hj => congrArg Value.int (own_ext hz hlc j), E_bc, (capf_g (by omega)).symm⟩
set_option maxRecDepth 65536 in
set_option maxHeartbeats 40000000 in
theorem ct5 (l : Launch) (Z : State) (a0 : Array Value) (hw : ∀ d ∈ tables_1, d.before a0 Z = true) (x0 : Addr) (n0 : Nat) (ar : Addr) (lv : Int32) (cap len : Nat) (g : Nat → Int32) (h0 : Heap) (Z0 : n0 ≤ h0.size) (g_x0 : n0 ≤ x0) (g_ar : n0 ≤ ar) (ne_x0_ar : x0 ≠ ar) (E_x0 : Exa Z h0 x0 "com/example/queue_directory/queuedirectory/rpc/NdrWriter") (F_bytes_x0 : Fld Z h0 x0 "com/example/queue_directory/queuedirectory/rpc/NdrWriter" "bytes" "[B" (.ref ar)) (F_length_x0 : Fld Z h0 x0 "com/example/queue_directory/queuedirectory/rpc/NdrWriter" "length" "I" (.int lv)) (A_ar : AV Z h0 ar .byte cap (iF g)) (E_ar : Exa Z h0 ar "[B") (hlv : lv.toInt = (len : Int)) (hlc : len ≤ cap) (hcap : 1 ≤ cap ∧ cap ≤ 1024) (hY : Byt g) (hz : Zro len g) (hsl : len ≤ 128) :
    Ct l Z (⟨"com/example/queue_directory/queuedirectory/rpc/NdrWriter", "toByteArray", "()[B"⟩ : MethodName) prog_57_method_9_code 1 (some (.array .byte)) ({ frames := 2, cells := 1, slots := 128, locals := 62 } : Room) #[(.ref x0)] h0 (fun v h' L => ∃ b : Addr, v = some (.ref b) ∧ Fr n0 L ∧ Keep h0 h' [] ∧ h0.size ≤ b ∧ AV Z h' b .byte len (iF g)) := by
  refine Ct.body pn_5 ?_
  intro p e s m below meth c T X hx hby hml hown hnm hret hlk hZ eT
  rw [ef_5]
  have N := Fr.nil n0
  have K := Keep.refl h0 []
  refine w_aloadN X hx (dq hby d5_0) rfl rfl ?_
  refine w_getf X hx hZ eT hown (hw _ (List.mem_of_getElem? (i := 10) rfl)) F_bytes_x0 (dq hby d5_1) fun T X eT => ?_
  refine w_aloadN X hx (dq hby d5_4) rfl rfl ?_
  refine w_getf X hx hZ eT hown (hw _ (List.mem_of_getElem? (i := 17) rfl)) F_length_x0 (dq hby d5_5) fun T X eT => ?_
  refine w_callS X hx hZ eT hml (by rfl) hown (hw _ (List.mem_of_getElem? (i := 28) rfl)) (hw _ (List.mem_of_getElem? (i := 29) rfl)) (hw _ (List.mem_of_getElem? (i := 30) rfl)) (hw _ (List.mem_of_getElem? (i := 31) rfl)) (by decide) (ct6 l Z a0 hw ar lv n0 cap len g h0 Z0 A_ar E_ar hY hlv hsl ) (dq hby d5_8) pd_1 (argsL := [(.ref ar), (.int lv)]) (rest := []) rfl rfl rfl (W := 0) rfl (by decide) (by decide) (by decide) (by decide) fun v T L X hQ => ?_
  have lt_x0 := E_x0.lt
  have lt_ar := A_ar.lt
  generalize eT : T.heap = h1 at hQ
  obtain ⟨bc, rfl, N', K', ge_bc', A_bc, E_bc⟩ := hQ
  have g_bc : n0 ≤ bc := Nat.le_trans Z0 ge_bc'
  have ge_bc : h0.size ≤ bc := Nat.le_trans K.1 ge_bc'
  have ne_x0_bc : x0 ≠ bc := Nat.ne_of_lt (Nat.lt_of_lt_of_le lt_x0 ge_bc')
  have ne_ar_bc : ar ≠ bc := Nat.ne_of_lt (Nat.lt_of_lt_of_le lt_ar ge_bc')
  replace F_bytes_x0 := Fld.keep F_bytes_x0 K' nin0
  replace F_length_x0 := Fld.keep F_length_x0 K' nin0
  replace E_x0 := Exa.keep E_x0 K'
  replace E_ar := Exa.keep E_ar K'
  replace A_ar := AV.keep A_ar K' nin0
  replace Z0 := Nat.le_trans Z0 K'.1
  replace K := K.trans K' all0
  replace N := Fr.app N N'
  refine w_retA X hx hret rfl rfl hlk (dq hby d5_11) (by decide) (by decide) ?_
  rw [eT]
  exact ⟨bc, rfl, N, K, ge_bc, A_bc.congr fun j hj => congrArg Value.int (own_ext hz hlc j)⟩
set_option maxRecDepth 65536 in
set_option maxHeartbeats 40000000 in
theorem u8G (l : Launch) (Z : State) (a0 : Array Value) (hw : ∀ d ∈ tables_1, d.before a0 Z = true) (x0 : Addr) (x1 : Int32) (n0 : Nat) (ar : Addr) (lv : Int32) (cap len : Nat) (g : Nat → Int32) (h0 : Heap) (Z0 : n0 ≤ h0.size) (g_x0 : n0 ≤ x0) (g_ar : n0 ≤ ar) (ne_x0_ar : x0 ≠ ar) (E_x0 : Exa Z h0 x0 "com/example/queue_directory/queuedirectory/rpc/NdrWriter") (F_bytes_x0 : Fld Z h0 x0 "com/example/queue_directory/queuedirectory/rpc/NdrWriter" "bytes" "[B" (.ref ar)) (F_length_x0 : Fld Z h0 x0 "com/example/queue_directory/queuedirectory/rpc/NdrWriter" "length" "I" (.int lv)) (A_ar : AV Z h0 ar .byte cap (iF g)) (E_ar : Exa Z h0 ar "[B") (hlv : lv.toInt = (len : Int)) (hlc : len ≤ cap) (hcap : 1 ≤ cap ∧ cap ≤ 1024) (hY : Byt g) (hz : Zro len g) (hfit : len + 1 ≤ cap ∨ max (2 * cap) (len + 1) ≤ 128) :
    Ct l Z (⟨"com/example/queue_directory/queuedirectory/rpc/NdrWriter", "u8", "(I)Lcom/example/queue_directory/queuedirectory/rpc/NdrWriter;"⟩ : MethodName) prog_57_method_2_code 2 (some (.object "com/example/queue_directory/queuedirectory/rpc/NdrWriter")) ({ frames := 3, cells := 1, slots := 128, locals := 76 } : Room) #[(.ref x0), (.int x1)] h0 (fun v h' L => v = some (.ref x0) ∧ Fr n0 L ∧ Keep h0 h' [x0, ar] ∧ Exa Z h' x0 "com/example/queue_directory/queuedirectory/rpc/NdrWriter" ∧ ∃ (ar' : Addr) (cap' : Nat) (lv' : Int32), n0 ≤ ar' ∧ x0 ≠ ar' ∧ (ar' = ar ∨ h0.size ≤ ar') ∧ lv'.toInt = (((len + 1) : Nat) : Int) ∧ Fld Z h' x0 "com/example/queue_directory/queuedirectory/rpc/NdrWriter" "bytes" "[B" (.ref ar') ∧ Fld Z h' x0 "com/example/queue_directory/queuedirectory/rpc/NdrWriter" "length" "I" (.int lv') ∧ AV Z h' ar' .byte cap' (iF (upd g len x1.toInt8.toInt32)) ∧ Exa Z h' ar' "[B" ∧ cap' = capf cap len 1) := by
  refine Ct.body pn_10 ?_
  intro p e s m below meth c T X hx hby hml hown hnm hret hlk hZ eT
  rw [ef_10]
  have N := Fr.nil n0
  have K := Keep.refl h0 [x0, ar]
  refine w_aloadN X hx (dq hby d10_0) rfl rfl ?_
  refine w_iconst X hx (dq hby d10_1) (z := 1) rfl ?_
  refine w_callP X hx hZ eT hml (by rfl) hown (hw _ (List.mem_of_getElem? (i := 19) rfl)) (hw _ (List.mem_of_getElem? (i := 20) rfl)) (hw _ (List.mem_of_getElem? (i := 2) rfl)) (hw _ (List.mem_of_getElem? (i := 21) rfl)) (hw _ (List.mem_of_getElem? (i := 3) rfl)) (hw _ (List.mem_of_getElem? (i := 22) rfl)) (by decide) (roomG l Z a0 hw x0 (1 : Int32) n0 ar lv cap len g 1 h0 Z0 g_x0 g_ar ne_x0_ar E_x0 F_bytes_x0 F_length_x0 A_ar E_ar hlv (by omega) (by omega) hY hz rfl (by omega) (by omega)) E_x0 (dq hby d10_2) pd_2 (argsL := [(.int (1 : Int32))]) (rest := []) rfl rfl rfl (W := 0) rfl (by decide) (by decide) (by decide) (by decide) fun v T L X hQ => ?_
  generalize eT : T.heap = h1 at hQ
  obtain ⟨rfl, N', K', E_x0, arR, capR, lvR, g_arR, ne_x0_arR, qqR, hlvR, F_bytes_x0, F_length_x0, A_arR, E_arR, hcapR⟩ := hQ
  replace Z0 := Nat.le_trans Z0 K'.1
  replace K := K.trans K' (allS (Or.inl (List.mem_cons_self ..)) (allS (Or.inl (List.mem_cons_of_mem _ (List.mem_singleton.mpr rfl))) all0))
  replace N := Fr.app N N'
  have cge : len + 1 ≤ capR := by rw [hcapR]; unfold capf; split <;> omega
  refine w_aloadN X hx (dq hby d10_5) rfl rfl ?_
  refine w_getf X hx hZ eT hown (hw _ (List.mem_of_getElem? (i := 10) rfl)) F_bytes_x0 (dq hby d10_6) fun T X eT => ?_
  refine w_aloadN X hx (dq hby d10_9) rfl rfl ?_
  refine w_dup X hx (dq hby d10_10) rfl ?_
  refine w_getf X hx hZ eT hown (hw _ (List.mem_of_getElem? (i := 17) rfl)) F_length_x0 (dq hby d10_11) fun T X eT => ?_
  refine w_dupx1 X hx (dq hby d10_14) rfl rfl ?_
  refine w_iconst X hx (dq hby d10_15) (z := 1) rfl ?_
  refine w_iadd X hx (dq hby d10_16) ?_
  obtain ⟨f10_17, hf10_17⟩ : ∃ z : Int32, z = (lvR + (1 : Int32)) := ⟨_, rfl⟩
  rw [← hf10_17]
  refine w_putf X hx hZ eT hown (hw _ (List.mem_of_getElem? (i := 17) rfl)) F_length_x0 E_x0 (Or.inl (hw _ (List.mem_of_getElem? (i := 18) rfl))) (hw _ (List.mem_of_getElem? (i := 2) rfl)) (ty := .int) (by decide) rfl rfl (dq hby d10_17) fun T h2 X eT W => ?_
  replace F_bytes_x0 := Fld.other W F_bytes_x0 (Or.inr (slot_ne (Or.inl (hw _ (List.mem_of_getElem? (i := 11) rfl))) (Or.inl (hw _ (List.mem_of_getElem? (i := 18) rfl))) (by decide) (t := (.array .byte)) (t' := .int) (by decide) (by decide)))
  replace E_x0 := Exa.wr W E_x0
  replace E_arR := Exa.wr W E_arR
  replace A_arR := AV.other A_arR W (Ne.symm ne_x0_arR)
  replace Z0 := Nat.le_trans Z0 (Nat.le_of_eq W.size.symm)
  replace K := K.wr W (Or.inl (List.mem_cons_self ..))
  replace N := Fr.snoc X N g_x0
  replace F_length_x0 := Fld.same W F_length_x0
  refine w_iloadN X hx (dq hby d10_20) rfl ?_
  refine w_i2b X hx (dq hby d10_21) ?_
  refine w_bastore X hx hZ eT A_arR (i := len) (hlvR) (by omega) (dq hby d10_22) fun T h3 X eT W A' => ?_
  replace F_bytes_x0 := Fld.other W F_bytes_x0 (Or.inl ne_x0_arR)
  replace F_length_x0 := Fld.other W F_length_x0 (Or.inl ne_x0_arR)
  replace E_x0 := Exa.wr W E_x0
  replace E_arR := Exa.wr W E_arR
  replace Z0 := Nat.le_trans Z0 (Nat.le_of_eq W.size.symm)
  replace K := K.wr W (in_ws qqR)
  replace N := Fr.snoc X N g_arR
  replace A_arR := A'
  refine w_aloadN X hx (dq hby d10_23) rfl rfl ?_
  refine w_retA X hx hret rfl rfl hlk (dq hby d10_24) (by decide) (by decide) ?_
  have q1 : f10_17.toInt = ((len + 1 : Nat) : Int) := by rw [hf10_17, Jvm.Kit.i32_add] <;> (have : (1 : Int32).toInt = 1 := rfl) <;> omega
  rw [i2b_i2b] at A_arR
  rw [eT]
  exact ⟨rfl, N, K, E_x0, arR, capR, f10_17, g_arR, ne_x0_arR, qqR, q1, F_bytes_x0, F_length_x0, A_arR, E_arR, hcapR⟩
set_option maxRecDepth 65536 in
set_option maxHeartbeats 40000000 in
theorem bytesN (l : Launch) (Z : State) (a0 : Array Value) (hw : ∀ d ∈ tables_1, d.before a0 Z = true) (x0 x1 : Addr) (n0 : Nat) (ar : Addr) (lv : Int32) (cap len : Nat) (g : Nat → Int32) (mm : Nat) (pa : Nat → Int32) (h0 : Heap) (Z0 : n0 ≤ h0.size) (g_x0 : n0 ≤ x0) (g_ar : n0 ≤ ar) (ne_x0_ar : x0 ≠ ar) (E_x0 : Exa Z h0 x0 "com/example/queue_directory/queuedirectory/rpc/NdrWriter") (F_bytes_x0 : Fld Z h0 x0 "com/example/queue_directory/queuedirectory/rpc/NdrWriter" "bytes" "[B" (.ref ar)) (F_length_x0 : Fld Z h0 x0 "com/example/queue_directory/queuedirectory/rpc/NdrWriter" "length" "I" (.int lv)) (A_ar : AV Z h0 ar .byte cap (iF g)) (E_ar : Exa Z h0 ar "[B") (hlv : lv.toInt = (len : Int)) (hlc : len ≤ cap) (hcap : 1 ≤ cap ∧ cap ≤ 1024) (hY : Byt g) (hz : Zro len g) (ne_x0_x1 : x0 ≠ x1) (ne_ar_x1 : ar ≠ x1) (A_x1 : AV Z h0 x1 .byte mm (iF pa)) (hYp : Byt pa) (hmm : mm ≤ 1024) (hfit : len + mm ≤ cap) :
    Ct l Z (⟨"com/example/queue_directory/queuedirectory/rpc/NdrWriter", "bytes", "([B)Lcom/example/queue_directory/queuedirectory/rpc/NdrWriter;"⟩ : MethodName) prog_57_method_6_code 2 (some (.object "com/example/queue_directory/queuedirectory/rpc/NdrWriter")) ({ frames := 3, cells := 0, slots := 0, locals := 76 } : Room) #[(.ref x0), (.ref x1)] h0 (fun v h' L => v = some (.ref x0) ∧ Fr n0 L ∧ Keep h0 h' [x0, ar] ∧ Exa Z h' x0 "com/example/queue_directory/queuedirectory/rpc/NdrWriter" ∧ ∃ (ar' : Addr) (cap' : Nat) (lv' : Int32), n0 ≤ ar' ∧ x0 ≠ ar' ∧ (ar' = ar ∨ h0.size ≤ ar') ∧ lv'.toInt = (((len + mm) : Nat) : Int) ∧ Fld Z h' x0 "com/example/queue_directory/queuedirectory/rpc/NdrWriter" "bytes" "[B" (.ref ar') ∧ Fld Z h' x0 "com/example/queue_directory/queuedirectory/rpc/NdrWriter" "length" "I" (.int lv') ∧ AV Z h' ar' .byte cap' (iF (cpy pa g 0 len mm)) ∧ Exa Z h' ar' "[B" ∧ cap' = capf cap len mm) := by
  refine Ct.body pn_8 ?_
  intro p e s m below meth c T X hx hby hml hown hnm hret hlk hZ eT
  rw [ef_8]
  have N := Fr.nil n0
  have K := Keep.refl h0 [x0, ar]
  refine w_aloadN X hx (dq hby d8_0) rfl rfl ?_
  refine w_aloadN X hx (dq hby d8_1) rfl rfl ?_
  refine w_arrlen X hx hZ eT A_x1 (z := (Int32.ofNat mm)) (i_ofNat (by omega)) (dq hby d8_2) ?_
  refine w_callP X hx hZ eT hml (by rfl) hown (hw _ (List.mem_of_getElem? (i := 19) rfl)) (hw _ (List.mem_of_getElem? (i := 20) rfl)) (hw _ (List.mem_of_getElem? (i := 2) rfl)) (hw _ (List.mem_of_getElem? (i := 21) rfl)) (hw _ (List.mem_of_getElem? (i := 3) rfl)) (hw _ (List.mem_of_getElem? (i := 22) rfl)) (by decide) (roomN l Z a0 hw x0 (Int32.ofNat mm) n0 ar lv cap len g mm h0 Z0 g_x0 g_ar ne_x0_ar E_x0 F_bytes_x0 F_length_x0 A_ar E_ar hlv (by omega) (by omega) hY hz (i_ofNat (by omega)) (by omega) (by omega)) E_x0 (dq hby d8_3) pd_2 (argsL := [(.int (Int32.ofNat mm))]) (rest := []) rfl rfl rfl (W := 0) rfl (by decide) (by decide) (by decide) (by decide) fun v T L X hQ => ?_
  have lt_x1 := A_x1.lt
  generalize eT : T.heap = h1 at hQ
  obtain ⟨rfl, N', K', E_x0, arR, capR, lvR, g_arR, ne_x0_arR, qqR, hlvR, F_bytes_x0, F_length_x0, A_arR, E_arR, hcapR⟩ := hQ
  have ne_x1_arR : x1 ≠ arR := ne_keep (Ne.symm ne_ar_x1) lt_x1 qqR
  replace A_x1 := AV.keep A_x1 K' (ninS (Ne.symm ne_x0_x1) (ninS (Ne.symm ne_ar_x1) nin0))
  replace Z0 := Nat.le_trans Z0 K'.1
  replace K := K.trans K' (allS (Or.inl (List.mem_cons_self ..)) (allS (Or.inl (List.mem_cons_of_mem _ (List.mem_singleton.mpr rfl))) all0))
  replace N := Fr.app N N'
  have cge : len + mm ≤ capR := by rw [hcapR]; unfold capf; split <;> omega
  refine w_aloadN X hx (dq hby d8_6) rfl rfl ?_
  refine w_iconst X hx (dq hby d8_7) (z := 0) rfl ?_
  refine w_aloadN X hx (dq hby d8_8) rfl rfl ?_
  refine w_getf X hx hZ eT hown (hw _ (List.mem_of_getElem? (i := 10) rfl)) F_bytes_x0 (dq hby d8_9) fun T X eT => ?_
  refine w_aloadN X hx (dq hby d8_12) rfl rfl ?_
  refine w_getf X hx hZ eT hown (hw _ (List.mem_of_getElem? (i := 17) rfl)) F_length_x0 (dq hby d8_13) fun T X eT => ?_
  refine w_aloadN X hx (dq hby d8_16) rfl rfl ?_
  refine w_arrlen X hx hZ eT A_x1 (z := (Int32.ofNat mm)) (i_ofNat (by omega)) (dq hby d8_17) ?_
  refine w_acopy X hx hZ eT hml (by rfl) hown (hw _ (List.mem_of_getElem? (i := 45) rfl)) (hw _ (List.mem_of_getElem? (i := 39) rfl)) (hw _ (List.mem_of_getElem? (i := 37) rfl)) (hw _ (List.mem_of_getElem? (i := 38) rfl)) A_x1 A_arR hYp hY (sp := 0) (dp := len) (n := mm) rfl hlvR (i_ofNat (by omega)) (by omega) cge N g_arR (dq hby d8_18) (by decide) (W := 0) rfl (by decide) fun T h2 locs X eT N K' A_arR' => ?_
  replace F_bytes_x0 := Fld.keep F_bytes_x0 K' (ninS ne_x0_arR nin0)
  replace F_length_x0 := Fld.keep F_length_x0 K' (ninS ne_x0_arR nin0)
  replace E_x0 := Exa.keep E_x0 K'
  replace A_x1 := AV.keep A_x1 K' (ninS ne_x1_arR nin0)
  replace Z0 := Nat.le_trans Z0 K'.1
  replace K := K.trans K' (allS (in_ws qqR) all0)
  replace A_arR := A_arR'
  replace E_arR := Exa.keep E_arR K'
  refine w_aloadN X hx (dq hby d8_21) rfl rfl ?_
  refine w_dup X hx (dq hby d8_22) rfl ?_
  refine w_getf X hx hZ eT hown (hw _ (List.mem_of_getElem? (i := 17) rfl)) F_length_x0 (dq hby d8_23) fun T X eT => ?_
  refine w_aloadN X hx (dq hby d8_26) rfl rfl ?_
  refine w_arrlen X hx hZ eT A_x1 (z := (Int32.ofNat mm)) (i_ofNat (by omega)) (dq hby d8_27) ?_
  refine w_iadd X hx (dq hby d8_28) ?_
  obtain ⟨f8_29, hf8_29⟩ : ∃ z : Int32, z = (lvR + (Int32.ofNat mm)) := ⟨_, rfl⟩
  rw [← hf8_29]
  refine w_putf X hx hZ eT hown (hw _ (List.mem_of_getElem? (i := 17) rfl)) F_length_x0 E_x0 (Or.inl (hw _ (List.mem_of_getElem? (i := 18) rfl))) (hw _ (List.mem_of_getElem? (i := 2) rfl)) (ty := .int) (by decide) rfl rfl (dq hby d8_29) fun T h3 X eT W => ?_
  replace F_bytes_x0 := Fld.other W F_bytes_x0 (Or.inr (slot_ne (Or.inl (hw _ (List.mem_of_getElem? (i := 11) rfl))) (Or.inl (hw _ (List.mem_of_getElem? (i := 18) rfl))) (by decide) (t := (.array .byte)) (t' := .int) (by decide) (by decide)))
  replace E_x0 := Exa.wr W E_x0
  replace E_arR := Exa.wr W E_arR
  replace A_x1 := AV.other A_x1 W (Ne.symm ne_x0_x1)
  replace A_arR := AV.other A_arR W (Ne.symm ne_x0_arR)
  replace Z0 := Nat.le_trans Z0 (Nat.le_of_eq W.size.symm)
  replace K := K.wr W (Or.inl (List.mem_cons_self ..))
  replace N := Fr.snoc X N g_x0
  replace F_length_x0 := Fld.same W F_length_x0
  refine w_aloadN X hx (dq hby d8_32) rfl rfl ?_
  refine w_retA X hx hret rfl rfl hlk (dq hby d8_33) (by decide) (by decide) ?_
  have q1 : f8_29.toInt = ((len + mm : Nat) : Int) := by rw [hf8_29, Jvm.Kit.i32_add] <;> rw [i_ofNat (by omega)] <;> omega
  rw [eT]
  exact ⟨rfl, N, K, E_x0, arR, capR, f8_29, g_arR, ne_x0_arR, qqR, q1, F_bytes_x0, F_length_x0, A_arR, E_arR, hcapR⟩
set_option maxRecDepth 65536 in
set_option maxHeartbeats 40000000 in
theorem bytesG (l : Launch) (Z : State) (a0 : Array Value) (hw : ∀ d ∈ tables_1, d.before a0 Z = true) (x0 x1 : Addr) (n0 : Nat) (ar : Addr) (lv : Int32) (cap len : Nat) (g : Nat → Int32) (mm : Nat) (pa : Nat → Int32) (h0 : Heap) (Z0 : n0 ≤ h0.size) (g_x0 : n0 ≤ x0) (g_ar : n0 ≤ ar) (ne_x0_ar : x0 ≠ ar) (E_x0 : Exa Z h0 x0 "com/example/queue_directory/queuedirectory/rpc/NdrWriter") (F_bytes_x0 : Fld Z h0 x0 "com/example/queue_directory/queuedirectory/rpc/NdrWriter" "bytes" "[B" (.ref ar)) (F_length_x0 : Fld Z h0 x0 "com/example/queue_directory/queuedirectory/rpc/NdrWriter" "length" "I" (.int lv)) (A_ar : AV Z h0 ar .byte cap (iF g)) (E_ar : Exa Z h0 ar "[B") (hlv : lv.toInt = (len : Int)) (hlc : len ≤ cap) (hcap : 1 ≤ cap ∧ cap ≤ 1024) (hY : Byt g) (hz : Zro len g) (ne_x0_x1 : x0 ≠ x1) (ne_ar_x1 : ar ≠ x1) (A_x1 : AV Z h0 x1 .byte mm (iF pa)) (hYp : Byt pa) (hmm : mm ≤ 1024) (hfit : len + mm ≤ cap ∨ max (2 * cap) (len + mm) ≤ 128) :
    Ct l Z (⟨"com/example/queue_directory/queuedirectory/rpc/NdrWriter", "bytes", "([B)Lcom/example/queue_directory/queuedirectory/rpc/NdrWriter;"⟩ : MethodName) prog_57_method_6_code 2 (some (.object "com/example/queue_directory/queuedirectory/rpc/NdrWriter")) ({ frames := 3, cells := 1, slots := 128, locals := 76 } : Room) #[(.ref x0), (.ref x1)] h0 (fun v h' L => v = some (.ref x0) ∧ Fr n0 L ∧ Keep h0 h' [x0, ar] ∧ Exa Z h' x0 "com/example/queue_directory/queuedirectory/rpc/NdrWriter" ∧ ∃ (ar' : Addr) (cap' : Nat) (lv' : Int32), n0 ≤ ar' ∧ x0 ≠ ar' ∧ (ar' = ar ∨ h0.size ≤ ar') ∧ lv'.toInt = (((len + mm) : Nat) : Int) ∧ Fld Z h' x0 "com/example/queue_directory/queuedirectory/rpc/NdrWriter" "bytes" "[B" (.ref ar') ∧ Fld Z h' x0 "com/example/queue_directory/queuedirectory/rpc/NdrWriter" "length" "I" (.int lv') ∧ AV Z h' ar' .byte cap' (iF (cpy pa g 0 len mm)) ∧ Exa Z h' ar' "[B" ∧ cap' = capf cap len mm) := by
  refine Ct.body pn_8 ?_
  intro p e s m below meth c T X hx hby hml hown hnm hret hlk hZ eT
  rw [ef_8]
  have N := Fr.nil n0
  have K := Keep.refl h0 [x0, ar]
  refine w_aloadN X hx (dq hby d8_0) rfl rfl ?_
  refine w_aloadN X hx (dq hby d8_1) rfl rfl ?_
  refine w_arrlen X hx hZ eT A_x1 (z := (Int32.ofNat mm)) (i_ofNat (by omega)) (dq hby d8_2) ?_
  refine w_callP X hx hZ eT hml (by rfl) hown (hw _ (List.mem_of_getElem? (i := 19) rfl)) (hw _ (List.mem_of_getElem? (i := 20) rfl)) (hw _ (List.mem_of_getElem? (i := 2) rfl)) (hw _ (List.mem_of_getElem? (i := 21) rfl)) (hw _ (List.mem_of_getElem? (i := 3) rfl)) (hw _ (List.mem_of_getElem? (i := 22) rfl)) (by decide) (roomG l Z a0 hw x0 (Int32.ofNat mm) n0 ar lv cap len g mm h0 Z0 g_x0 g_ar ne_x0_ar E_x0 F_bytes_x0 F_length_x0 A_ar E_ar hlv (by omega) (by omega) hY hz (i_ofNat (by omega)) (by omega) (by omega)) E_x0 (dq hby d8_3) pd_2 (argsL := [(.int (Int32.ofNat mm))]) (rest := []) rfl rfl rfl (W := 0) rfl (by decide) (by decide) (by decide) (by decide) fun v T L X hQ => ?_
  have lt_x1 := A_x1.lt
  generalize eT : T.heap = h1 at hQ
  obtain ⟨rfl, N', K', E_x0, arR, capR, lvR, g_arR, ne_x0_arR, qqR, hlvR, F_bytes_x0, F_length_x0, A_arR, E_arR, hcapR⟩ := hQ
  have ne_x1_arR : x1 ≠ arR := ne_keep (Ne.symm ne_ar_x1) lt_x1 qqR
  replace A_x1 := AV.keep A_x1 K' (ninS (Ne.symm ne_x0_x1) (ninS (Ne.symm ne_ar_x1) nin0))
  replace Z0 := Nat.le_trans Z0 K'.1
  replace K := K.trans K' (allS (Or.inl (List.mem_cons_self ..)) (allS (Or.inl (List.mem_cons_of_mem _ (List.mem_singleton.mpr rfl))) all0))
  replace N := Fr.app N N'
  have cge : len + mm ≤ capR := by rw [hcapR]; unfold capf; split <;> omega
  refine w_aloadN X hx (dq hby d8_6) rfl rfl ?_
  refine w_iconst X hx (dq hby d8_7) (z := 0) rfl ?_
  refine w_aloadN X hx (dq hby d8_8) rfl rfl ?_
  refine w_getf X hx hZ eT hown (hw _ (List.mem_of_getElem? (i := 10) rfl)) F_bytes_x0 (dq hby d8_9) fun T X eT => ?_
  refine w_aloadN X hx (dq hby d8_12) rfl rfl ?_
  refine w_getf X hx hZ eT hown (hw _ (List.mem_of_getElem? (i := 17) rfl)) F_length_x0 (dq hby d8_13) fun T X eT => ?_
  refine w_aloadN X hx (dq hby d8_16) rfl rfl ?_
  refine w_arrlen X hx hZ eT A_x1 (z := (Int32.ofNat mm)) (i_ofNat (by omega)) (dq hby d8_17) ?_
  refine w_acopy X hx hZ eT hml (by rfl) hown (hw _ (List.mem_of_getElem? (i := 45) rfl)) (hw _ (List.mem_of_getElem? (i := 39) rfl)) (hw _ (List.mem_of_getElem? (i := 37) rfl)) (hw _ (List.mem_of_getElem? (i := 38) rfl)) A_x1 A_arR hYp hY (sp := 0) (dp := len) (n := mm) rfl hlvR (i_ofNat (by omega)) (by omega) cge N g_arR (dq hby d8_18) (by decide) (W := 0) rfl (by decide) fun T h2 locs X eT N K' A_arR' => ?_
  replace F_bytes_x0 := Fld.keep F_bytes_x0 K' (ninS ne_x0_arR nin0)
  replace F_length_x0 := Fld.keep F_length_x0 K' (ninS ne_x0_arR nin0)
  replace E_x0 := Exa.keep E_x0 K'
  replace A_x1 := AV.keep A_x1 K' (ninS ne_x1_arR nin0)
  replace Z0 := Nat.le_trans Z0 K'.1
  replace K := K.trans K' (allS (in_ws qqR) all0)
  replace A_arR := A_arR'
  replace E_arR := Exa.keep E_arR K'
  refine w_aloadN X hx (dq hby d8_21) rfl rfl ?_
  refine w_dup X hx (dq hby d8_22) rfl ?_
  refine w_getf X hx hZ eT hown (hw _ (List.mem_of_getElem? (i := 17) rfl)) F_length_x0 (dq hby d8_23) fun T X eT => ?_
  refine w_aloadN X hx (dq hby d8_26) rfl rfl ?_
  refine w_arrlen X hx hZ eT A_x1 (z := (Int32.ofNat mm)) (i_ofNat (by omega)) (dq hby d8_27) ?_
  refine w_iadd X hx (dq hby d8_28) ?_
  obtain ⟨f8_29, hf8_29⟩ : ∃ z : Int32, z = (lvR + (Int32.ofNat mm)) := ⟨_, rfl⟩
  rw [← hf8_29]
  refine w_putf X hx hZ eT hown (hw _ (List.mem_of_getElem? (i := 17) rfl)) F_length_x0 E_x0 (Or.inl (hw _ (List.mem_of_getElem? (i := 18) rfl))) (hw _ (List.mem_of_getElem? (i := 2) rfl)) (ty := .int) (by decide) rfl rfl (dq hby d8_29) fun T h3 X eT W => ?_
  replace F_bytes_x0 := Fld.other W F_bytes_x0 (Or.inr (slot_ne (Or.inl (hw _ (List.mem_of_getElem? (i := 11) rfl))) (Or.inl (hw _ (List.mem_of_getElem? (i := 18) rfl))) (by decide) (t := (.array .byte)) (t' := .int) (by decide) (by decide)))
  replace E_x0 := Exa.wr W E_x0
  replace E_arR := Exa.wr W E_arR
  replace A_x1 := AV.other A_x1 W (Ne.symm ne_x0_x1)
  replace A_arR := AV.other A_arR W (Ne.symm ne_x0_arR)
  replace Z0 := Nat.le_trans Z0 (Nat.le_of_eq W.size.symm)
  replace K := K.wr W (Or.inl (List.mem_cons_self ..))
  replace N := Fr.snoc X N g_x0
  replace F_length_x0 := Fld.same W F_length_x0
  refine w_aloadN X hx (dq hby d8_32) rfl rfl ?_
  refine w_retA X hx hret rfl rfl hlk (dq hby d8_33) (by decide) (by decide) ?_
  have q1 : f8_29.toInt = ((len + mm : Nat) : Int) := by rw [hf8_29, Jvm.Kit.i32_add] <;> rw [i_ofNat (by omega)] <;> omega
  rw [eT]
  exact ⟨rfl, N, K, E_x0, arR, capR, f8_29, g_arR, ne_x0_arR, qqR, q1, F_bytes_x0, F_length_x0, A_arR, E_arR, hcapR⟩
set_option maxRecDepth 65536 in
set_option maxHeartbeats 40000000 in
theorem alignG (l : Launch) (Z : State) (a0 : Array Value) (hw : ∀ d ∈ tables_1, d.before a0 Z = true) (x0 : Addr) (x1 : Int32) (n0 : Nat) (ar : Addr) (lv : Int32) (cap len : Nat) (g : Nat → Int32) (kz pad : Nat) (h0 : Heap) (Z0 : n0 ≤ h0.size) (g_x0 : n0 ≤ x0) (g_ar : n0 ≤ ar) (ne_x0_ar : x0 ≠ ar) (E_x0 : Exa Z h0 x0 "com/example/queue_directory/queuedirectory/rpc/NdrWriter") (F_bytes_x0 : Fld Z h0 x0 "com/example/queue_directory/queuedirectory/rpc/NdrWriter" "bytes" "[B" (.ref ar)) (F_length_x0 : Fld Z h0 x0 "com/example/queue_directory/queuedirectory/rpc/NdrWriter" "length" "I" (.int lv)) (A_ar : AV Z h0 ar .byte cap (iF g)) (E_ar : Exa Z h0 ar "[B") (hlv : lv.toInt = (len : Int)) (hlc : len ≤ cap) (hcap : 1 ≤ cap ∧ cap ≤ 1024) (hY : Byt g) (hz : Zro len g) (hkz : kz < 32) (hm : (x1 - 1).toBitVec.toNat = 2 ^ kz - 1) (hpad : (pad : Int) = (-(len : Int)) % 2 ^ kz) (hp2 : pad ≤ 1024) (hfit : len + pad ≤ cap ∨ max (2 * cap) (len + pad) ≤ 128) :
    Ct l Z (⟨"com/example/queue_directory/queuedirectory/rpc/NdrWriter", "align", "(I)Lcom/example/queue_directory/queuedirectory/rpc/NdrWriter;"⟩ : MethodName) prog_57_method_7_code 3 (some (.object "com/example/queue_directory/queuedirectory/rpc/NdrWriter")) ({ frames := 3, cells := 1, slots := 128, locals := 76 } : Room) #[(.ref x0), (.int x1)] h0 (fun v h' L => v = some (.ref x0) ∧ Fr n0 L ∧ Keep h0 h' [x0, ar] ∧ Exa Z h' x0 "com/example/queue_directory/queuedirectory/rpc/NdrWriter" ∧ ∃ (ar' : Addr) (cap' : Nat) (lv' : Int32), n0 ≤ ar' ∧ x0 ≠ ar' ∧ (ar' = ar ∨ h0.size ≤ ar') ∧ lv'.toInt = (((len + pad) : Nat) : Int) ∧ Fld Z h' x0 "com/example/queue_directory/queuedirectory/rpc/NdrWriter" "bytes" "[B" (.ref ar') ∧ Fld Z h' x0 "com/example/queue_directory/queuedirectory/rpc/NdrWriter" "length" "I" (.int lv') ∧ AV Z h' ar' .byte cap' (iF g) ∧ Exa Z h' ar' "[B" ∧ cap' = capf cap len pad) := by
  refine Ct.body pn_3 ?_
  intro p e s m below meth c T X hx hby hml hown hnm hret hlk hZ eT
  rw [ef_3]
  have N := Fr.nil n0
  have K := Keep.refl h0 [x0, ar]
  refine w_aloadN X hx (dq hby d3_0) rfl rfl ?_
  refine w_getf X hx hZ eT hown (hw _ (List.mem_of_getElem? (i := 17) rfl)) F_length_x0 (dq hby d3_1) fun T X eT => ?_
  refine w_ineg X hx (dq hby d3_4) ?_
  refine w_iloadN X hx (dq hby d3_5) rfl ?_
  refine w_iconst X hx (dq hby d3_6) (z := 1) rfl ?_
  refine w_isub X hx (dq hby d3_7) ?_
  refine w_iand X hx (dq hby d3_8) ?_
  obtain ⟨v2_9, hv2_9⟩ : ∃ z : Int32, z = ((-lv) &&& (x1 - (1 : Int32))) := ⟨_, rfl⟩
  refine w_istoreN X hx (dq hby d3_9) (z := v2_9) hv2_9 (Ls' := #[.val (.ref x0), .val (.int x1), .val (.int v2_9)]) rfl ?_
  have r2 : v2_9.toInt = (pad : Int) := by rw [hv2_9, Jvm.Kit.i32_mask _ _ hkz hm, Jvm.Kit.i32_neg (by omega), hlv, hpad]
  refine w_aloadN X hx (dq hby d3_10) rfl rfl ?_
  refine w_iloadN X hx (dq hby d3_11) rfl ?_
  refine w_callP X hx hZ eT hml (by rfl) hown (hw _ (List.mem_of_getElem? (i := 19) rfl)) (hw _ (List.mem_of_getElem? (i := 20) rfl)) (hw _ (List.mem_of_getElem? (i := 2) rfl)) (hw _ (List.mem_of_getElem? (i := 21) rfl)) (hw _ (List.mem_of_getElem? (i := 3) rfl)) (hw _ (List.mem_of_getElem? (i := 22) rfl)) (by decide) (roomG l Z a0 hw x0 v2_9 n0 ar lv cap len g pad h0 Z0 g_x0 g_ar ne_x0_ar E_x0 F_bytes_x0 F_length_x0 A_ar E_ar hlv (by omega) (by omega) hY hz r2 (by omega) (by omega)) E_x0 (dq hby d3_12) pd_2 (argsL := [(.int v2_9)]) (rest := []) rfl rfl rfl (W := 0) rfl (by decide) (by decide) (by decide) (by decide) fun v T L X hQ => ?_
  generalize eT : T.heap = h1 at hQ
  obtain ⟨rfl, N', K', E_x0, arR, capR, lvR, g_arR, ne_x0_arR, qqR, hlvR, F_bytes_x0, F_length_x0, A_arR, E_arR, hcapR⟩ := hQ
  replace Z0 := Nat.le_trans Z0 K'.1
  replace K := K.trans K' (allS (Or.inl (List.mem_cons_self ..)) (allS (Or.inl (List.mem_cons_of_mem _ (List.mem_singleton.mpr rfl))) all0))
  replace N := Fr.app N N'
  refine w_aloadN X hx (dq hby d3_15) rfl rfl ?_
  refine w_dup X hx (dq hby d3_16) rfl ?_
  refine w_getf X hx hZ eT hown (hw _ (List.mem_of_getElem? (i := 17) rfl)) F_length_x0 (dq hby d3_17) fun T X eT => ?_
  refine w_iloadN X hx (dq hby d3_20) rfl ?_
  refine w_iadd X hx (dq hby d3_21) ?_
  obtain ⟨f3_22, hf3_22⟩ : ∃ z : Int32, z = (lvR + v2_9) := ⟨_, rfl⟩
  rw [← hf3_22]
  refine w_putf X hx hZ eT hown (hw _ (List.mem_of_getElem? (i := 17) rfl)) F_length_x0 E_x0 (Or.inl (hw _ (List.mem_of_getElem? (i := 18) rfl))) (hw _ (List.mem_of_getElem? (i := 2) rfl)) (ty := .int) (by decide) rfl rfl (dq hby d3_22) fun T h2 X eT W => ?_
  replace F_bytes_x0 := Fld.other W F_bytes_x0 (Or.inr (slot_ne (Or.inl (hw _ (List.mem_of_getElem? (i := 11) rfl))) (Or.inl (hw _ (List.mem_of_getElem? (i := 18) rfl))) (by decide) (t := (.array .byte)) (t' := .int) (by decide) (by decide)))
  replace E_x0 := Exa.wr W E_x0
  replace E_arR := Exa.wr W E_arR
  replace A_arR := AV.other A_arR W (Ne.symm ne_x0_arR)
  replace Z0 := Nat.le_trans Z0 (Nat.le_of_eq W.size.symm)
  replace K := K.wr W (Or.inl (List.mem_cons_self ..))
  replace N := Fr.snoc X N g_x0
  replace F_length_x0 := Fld.same W F_length_x0
  refine w_aloadN X hx (dq hby d3_25) rfl rfl ?_
  refine w_retA X hx hret rfl rfl hlk (dq hby d3_26) (by decide) (by decide) ?_
  have q1 : f3_22.toInt = ((len + pad : Nat) : Int) := by rw [hf3_22, Jvm.Kit.i32_add] <;> omega
  rw [eT]
  exact ⟨rfl, N, K, E_x0, arR, capR, f3_22, g_arR, ne_x0_arR, qqR, q1, F_bytes_x0, F_length_x0, A_arR, E_arR, hcapR⟩

theorem own_and (n k : Nat) : n &&& 2 ^ k = n / 2 ^ k % 2 * 2 ^ k := by
  apply Nat.eq_of_testBit_eq; intro j
  rw [Nat.testBit_and, Nat.testBit_two_pow, Nat.mul_comm, Nat.testBit_two_pow_mul]
  by_cases h : k = j
  · subst h
    simp [Nat.testBit_eq_decide_div_mod_eq]
  · have e : decide (k = j) = false := by simp [h]
    rw [e, Bool.and_false]
    by_cases q : j ≥ k
    · have q2 : (n / 2 ^ k % 2).testBit (j - k) = false := by
        apply Nat.testBit_lt_two_pow
        refine Nat.lt_of_lt_of_le (Nat.mod_lt _ (by decide)) ?_
        exact Nat.pow_le_pow_right (n := 2) (i := 1) (by decide) (by omega)
      rw [q2, Bool.and_false]
    · simp [q]
theorem own_bit (x m : Int32) (k : Nat) (hm : u32 m = 2 ^ k) : (x &&& m = 0 → u32 x / 2 ^ k % 2 = 0) ∧ (x &&& m ≠ 0 → u32 x / 2 ^ k % 2 = 1) := by
  have e : u32 (x &&& m) = (u32 x / 2 ^ k % 2) * 2 ^ k := by
    unfold u32 at *
    rw [Int32.toBitVec_and, BitVec.toNat_and, hm, own_and]
  have p := Nat.two_pow_pos k
  rcases Nat.mod_two_eq_zero_or_one (u32 x / 2 ^ k) with h | h
  · refine ⟨fun _ => h, fun q => absurd (u32_inj (y := 0) ?_) q⟩
    rw [e, h, show u32 (0 : Int32) = 0 by decide]; omega
  · refine ⟨fun q => ?_, fun _ => h⟩
    rw [q, h, show u32 (0 : Int32) = 0 by decide] at e; omega
theorem own_size (i : Int32) : ∃ e : Nat, e < 8 ∧ (IShl 1 (i &&& 7)).toInt = ((2 ^ e : Nat) : Int) ∧ (IShl 1 (i &&& 7) - 1).toBitVec.toNat = 2 ^ e - 1 := by
  have m : (i &&& 7).toInt = i.toInt % 2 ^ 3 := Jvm.Kit.i32_mask i 7 (by decide) (by decide)
  have q : (i &&& 7).toInt = 0 ∨ (i &&& 7).toInt = 1 ∨ (i &&& 7).toInt = 2 ∨ (i &&& 7).toInt = 3 ∨ (i &&& 7).toInt = 4 ∨ (i &&& 7).toInt = 5 ∨ (i &&& 7).toInt = 6 ∨ (i &&& 7).toInt = 7 := by omega
  generalize i &&& 7 = y at *
  rcases q with h | h | h | h | h | h | h | h
  · have e : y = 0 := i32_inj h
    subst e; exact ⟨0, by decide, by decide, by decide⟩
  · have e : y = 1 := i32_inj h
    subst e; exact ⟨1, by decide, by decide, by decide⟩
  · have e : y = 2 := i32_inj h
    subst e; exact ⟨2, by decide, by decide, by decide⟩
  · have e : y = 3 := i32_inj h
    subst e; exact ⟨3, by decide, by decide, by decide⟩
  · have e : y = 4 := i32_inj h
    subst e; exact ⟨4, by decide, by decide, by decide⟩
  · have e : y = 5 := i32_inj h
    subst e; exact ⟨5, by decide, by decide, by decide⟩
  · have e : y = 6 := i32_inj h
    subst e; exact ⟨6, by decide, by decide, by decide⟩
  · have e : y = 7 := i32_inj h
    subst e; exact ⟨7, by decide, by decide, by decide⟩

theorem own_pad {B e pad : Nat} (he : e < 8) (hB : B ≤ 127) (hp : (pad : Int) = (-(B : Int)) % 2 ^ e) : pad < 2 ^ e ∧ B + pad ≤ 128 ∧ (B % 2 ^ e = 0 → pad = 0) ∧ (B % 2 ^ e ≠ 0 → B + pad = B - B % 2 ^ e + 2 ^ e) ∧ 2 ^ e ≤ 128 ∧ 1 ≤ 2 ^ e ∧ B % 2 ^ e < 2 ^ e ∧ B % 2 ^ e ≤ B := by
  rcases (show e = 0 ∨ e = 1 ∨ e = 2 ∨ e = 3 ∨ e = 4 ∨ e = 5 ∨ e = 6 ∨ e = 7 by omega) with rfl | rfl | rfl | rfl | rfl | rfl | rfl | rfl <;> omega
theorem cpy0 (s d n j : Nat) : cpy (fun _ => (0 : Int32)) (fun _ => (0 : Int32)) s d n j = 0 := by unfold cpy; split <;> rfl


theorem own_a1 {B : Nat} (h : B / 2 ^ 1 % 2 = 0) : (B % 4 - B % 2) = (B % 2 - B % 2) := by omega
theorem own_b1 {B : Nat} (h : B / 2 ^ 1 % 2 = 1) : (B % 4 - B % 2) = (B % 2 - B % 2) + 2 := by omega
theorem own_c1 (B : Nat) : (B % 2 - B % 2) ≤ 0 := by omega
theorem own_e1 (B : Nat) : (B % 2 - B % 2) + 2 ≤ 64 := by omega
theorem own_a2 {B : Nat} (h : B / 2 ^ 2 % 2 = 0) : (B % 8 - B % 2) = (B % 4 - B % 2) := by omega
theorem own_b2 {B : Nat} (h : B / 2 ^ 2 % 2 = 1) : (B % 8 - B % 2) = (B % 4 - B % 2) + 4 := by omega
theorem own_c2 (B : Nat) : (B % 4 - B % 2) ≤ 2 := by omega
theorem own_e2 (B : Nat) : (B % 4 - B % 2) + 4 ≤ 64 := by omega
theorem own_a3 {B : Nat} (h : B / 2 ^ 3 % 2 = 0) : (B % 16 - B % 2) = (B % 8 - B % 2) := by omega
theorem own_b3 {B : Nat} (h : B / 2 ^ 3 % 2 = 1) : (B % 16 - B % 2) = (B % 8 - B % 2) + 8 := by omega
theorem own_c3 (B : Nat) : (B % 8 - B % 2) ≤ 6 := by omega
theorem own_e3 (B : Nat) : (B % 8 - B % 2) + 8 ≤ 64 := by omega
theorem own_a4 {B : Nat} (h : B / 2 ^ 4 % 2 = 0) : (B % 32 - B % 2) = (B % 16 - B % 2) := by omega
theorem own_b4 {B : Nat} (h : B / 2 ^ 4 % 2 = 1) : (B % 32 - B % 2) = (B % 16 - B % 2) + 16 := by omega
theorem own_c4 (B : Nat) : (B % 16 - B % 2) ≤ 14 := by omega
theorem own_e4 (B : Nat) : (B % 16 - B % 2) + 16 ≤ 64 := by omega
theorem own_a5 {B : Nat} (h : B / 2 ^ 5 % 2 = 0) : (B % 64 - B % 2) = (B % 32 - B % 2) := by omega
theorem own_b5 {B : Nat} (h : B / 2 ^ 5 % 2 = 1) : (B % 64 - B % 2) = (B % 32 - B % 2) + 32 := by omega
theorem own_c5 (B : Nat) : (B % 32 - B % 2) ≤ 30 := by omega
theorem own_e5 (B : Nat) : (B % 32 - B % 2) + 32 ≤ 64 := by omega
theorem own_a6 {B : Nat} (h : B / 2 ^ 6 % 2 = 0) : (B % 128 - B % 2) = (B % 64 - B % 2) := by omega
theorem own_b6 {B : Nat} (h : B / 2 ^ 6 % 2 = 1) : (B % 128 - B % 2) = (B % 64 - B % 2) + 64 := by omega
theorem own_c6 (B : Nat) : (B % 64 - B % 2) ≤ 62 := by omega
theorem own_f (B : Nat) : (B % 64 - B % 2) + 64 ≤ 64 ∨ max (2 * 64) ((B % 64 - B % 2) + 64) ≤ 128 := by omega
theorem own_h {B cp : Nat} (h : cp = capf 64 (B % 64 - B % 2) 64) : cp = 64 ∧ (B % 64 - B % 2) + 64 ≤ 64 ∨ cp = 128 := by rw [h]; unfold capf; split <;> omega
theorem own_j1 {B L cp : Nat} (h : cp = 64 ∧ L ≤ 64 ∨ cp = 128) (hL : L ≤ B) (hB : B ≤ 127) : L ≤ cp ∧ (cp = 64 ∨ cp = 128) := by omega
theorem own_j2 {L cp : Nat} (h : L ≤ cp ∧ (cp = 64 ∨ cp = 128)) : 1 ≤ cp ∧ cp ≤ 1024 := by omega
theorem own_j3 {B L cp : Nat} (h : L ≤ cp ∧ (cp = 64 ∨ cp = 128)) (hL : L + 1 = B) (hB : B ≤ 127) : L + 1 ≤ cp ∨ max (2 * cp) (L + 1) ≤ 128 := by omega
theorem own_l6 (B : Nat) (hB : B ≤ 127) : (B % 128 - B % 2) ≤ B := by omega
theorem own_u {B L cp cu : Nat} (h : L ≤ cp ∧ (cp = 64 ∨ cp = 128)) (hL : L + 1 = B) (hB : B ≤ 127) (q : cu = capf cp L 1) : B ≤ cu ∧ (cu = 64 ∨ cu = 128) := by rw [q]; unfold capf; split <;> omega
theorem own_al {B pad cp : Nat} (h : B ≤ cp ∧ (cp = 64 ∨ cp = 128)) (p : B + pad ≤ 128) : B + pad ≤ cp ∨ max (2 * cp) (B + pad) ≤ 128 := by omega
theorem own_ac {B pad cp ca : Nat} (h : B ≤ cp ∧ (cp = 64 ∨ cp = 128)) (p : B + pad ≤ 128) (q : ca = capf cp B pad) : B + pad ≤ ca ∧ (ca = 64 ∨ ca = 128) := by rw [q]; unfold capf; split <;> omega
theorem own_i1 {B : Nat} (hB : B ≤ 127) (h : B / 2 ^ 0 % 2 = 1) : (B % 128 - B % 2) + 1 = B := by omega
theorem own_i0 {B : Nat} (hB : B ≤ 127) (h : B / 2 ^ 0 % 2 = 0) : (B % 128 - B % 2) = B := by omega
theorem own_z (B : Nat) : (0 : Int32).toInt = ((B % 2 - B % 2 : Nat) : Int) := by rw [Nat.sub_self]; rfl
theorem own_more {p : Program} {l : Launch} {e : Env} {R : Room} {s : State} {m : MethodId} {args : Array Value} {below : List Frame} {meth : Method} {c : Code} {T : State} {locs : List Loc} {cells slots cells' slots' : Nat} (X : Stand p l e R s m args below meth c T locs cells slots) (h1 : cells ≤ cells') (h2 : slots ≤ slots') : Stand p l e R s m args below meth c T locs cells' slots' := { X with same := X.same.mono h1 h2 }

def Q0 (n0 : Nat) (v : Option Value) (h : Heap) (L : List Loc) : Prop := v = some (.int (1 : Int32)) ∧ Fr n0 L
set_option maxRecDepth 65536 in
set_option maxHeartbeats 40000000 in
theorem rm0 (l : Launch) (Z : State) (a0 : Array Value) (hw : ∀ d ∈ tables_1, d.before a0 Z = true) (ws : List Jvm.Cond) (i0 : Int32) (i1 : Int32) (i2 : Int32) (i3 : Int32) (h0 : Heap) (n0 : Nat) (Z0 : n0 ≤ h0.size) :
    MetFree l x (head1 (Jvm.Cond.code x code maxLocals ret :: ws) room_1) (fun a U => a = #[(.int i0), (.int i1), (.int i2), (.int i3)] ∧ Z.Warmed39 U.vm ∧ U.heap = h0) (fun _ _ _ _ _ => True) (fun _ U o U' => ∃ v L, o = .returned v ∧ Q0 n0 v U'.heap L ∧ FrameEnd U o U' L 32 960) := by
  refine w_body pn_0 ?_
  intro p e s m below meth c T X hx hby hml hown hnm hret hlk hZ eT
  rw [ef_0]
  have N := Fr.nil n0
  refine w_iloadN X hx (dq hby d0_0) rfl ?_
  refine w_bipush X hx (dq hby d0_1) (z := 127) rfl ?_
  refine w_iand X hx (dq hby d0_3) ?_
  obtain ⟨v4_4, hv4_4⟩ : ∃ z : Int32, z = (i0 &&& (127 : Int32)) := ⟨_, rfl⟩
  refine w_istore X hx (dq hby d0_4) (z := v4_4) hv4_4 (Ls' := #[.val (.int i0), .val (.int i1), .val (.int i2), .val (.int i3), .val (.int v4_4), .unset, .unset, .unset, .unset, .unset, .unset, .unset, .unset, .unset, .unset, .unset, .unset, .unset, .unset, .unset]) rfl ?_
  have m7 : v4_4.toInt = i0.toInt % 2 ^ 7 := by rw [hv4_4]; exact Jvm.Kit.i32_mask i0 127 (by decide) (by decide)
  obtain ⟨B, hB0⟩ : ∃ n : Nat, n = v4_4.toInt.toNat := ⟨_, rfl⟩
  have hB : v4_4.toInt = (B : Int) := by omega
  have hB7 : B ≤ 127 := by omega
  have hBu : u32 v4_4 = B := by have := u32_i v4_4; omega
  obtain ⟨e_, he8, hsz, hmk⟩ := own_size i1
  refine w_iconst X hx (dq hby d0_6) (z := 1) rfl ?_
  refine w_iloadN X hx (dq hby d0_7) rfl ?_
  refine w_bipush X hx (dq hby d0_8) (z := 7) rfl ?_
  refine w_iand X hx (dq hby d0_10) ?_
  refine w_ishl X hx (dq hby d0_11) ?_
  obtain ⟨v5_12, hv5_12⟩ : ∃ z : Int32, z = (IShl (1 : Int32) (i1 &&& (7 : Int32))) := ⟨_, rfl⟩
  refine w_istore X hx (dq hby d0_12) (z := v5_12) hv5_12 (Ls' := #[.val (.int i0), .val (.int i1), .val (.int i2), .val (.int i3), .val (.int v4_4), .val (.int v5_12), .unset, .unset, .unset, .unset, .unset, .unset, .unset, .unset, .unset, .unset, .unset, .unset, .unset, .unset]) rfl ?_
  refine w_iconst X hx (dq hby d0_14) (z := 2) rfl ?_
  refine w_newarr X hx hZ eT (aty := .byte) (hw _ (List.mem_of_getElem? (i := 0) rfl)) (dq hby d0_15) (n := 2) (cap := 2) (rfl) ((by decide)) (by decide) (by decide) (by decide) fun T h1 b15 hb_b15 X eT EX A_b15 => ?_
  have g_b15 : n0 ≤ b15 := by omega
  replace Z0 := Nat.le_trans Z0 EX.1
  replace A_b15 : AV Z h1 b15 .byte 2 (iF (fun _ => (0 : Int32))) := A_b15
  refine w_astore X hx (dq hby d0_17) rfl (Ls' := #[.val (.int i0), .val (.int i1), .val (.int i2), .val (.int i3), .val (.int v4_4), .val (.int v5_12), .val (.ref b15), .unset, .unset, .unset, .unset, .unset, .unset, .unset, .unset, .unset, .unset, .unset, .unset, .unset]) rfl ?_
  refine w_iconst X hx (dq hby d0_19) (z := 4) rfl ?_
  refine w_newarr X hx hZ eT (aty := .byte) (hw _ (List.mem_of_getElem? (i := 0) rfl)) (dq hby d0_20) (n := 4) (cap := 4) (rfl) ((by decide)) (by decide) (by decide) (by decide) fun T h2 b20 hb_b20 X eT EX A_b20 => ?_
  have ne_b15_b20 : b15 ≠ b20 := by rw [hb_b20]; exact Nat.ne_of_lt A_b15.lt
  have g_b20 : n0 ≤ b20 := by omega
  replace A_b15 := AV.ext A_b15 EX
  replace Z0 := Nat.le_trans Z0 EX.1
  replace A_b20 : AV Z h2 b20 .byte 4 (iF (fun _ => (0 : Int32))) := A_b20
  refine w_astore X hx (dq hby d0_22) rfl (Ls' := #[.val (.int i0), .val (.int i1), .val (.int i2), .val (.int i3), .val (.int v4_4), .val (.int v5_12), .val (.ref b15), .val (.ref b20), .unset, .unset, .unset, .unset, .unset, .unset, .unset, .unset, .unset, .unset, .unset, .unset]) rfl ?_
  refine w_bipush X hx (dq hby d0_24) (z := 8) rfl ?_
  refine w_newarr X hx hZ eT (aty := .byte) (hw _ (List.mem_of_getElem? (i := 0) rfl)) (dq hby d0_26) (n := 8) (cap := 8) (rfl) ((by decide)) (by decide) (by decide) (by decide) fun T h3 b26 hb_b26 X eT EX A_b26 => ?_
  have ne_b15_b26 : b15 ≠ b26 := by rw [hb_b26]; exact Nat.ne_of_lt A_b15.lt
  have ne_b20_b26 : b20 ≠ b26 := by rw [hb_b26]; exact Nat.ne_of_lt A_b20.lt
  have g_b26 : n0 ≤ b26 := by omega
  replace A_b15 := AV.ext A_b15 EX
  replace A_b20 := AV.ext A_b20 EX
  replace Z0 := Nat.le_trans Z0 EX.1
  replace A_b26 : AV Z h3 b26 .byte 8 (iF (fun _ => (0 : Int32))) := A_b26
  refine w_astore X hx (dq hby d0_28) rfl (Ls' := #[.val (.int i0), .val (.int i1), .val (.int i2), .val (.int i3), .val (.int v4_4), .val (.int v5_12), .val (.ref b15), .val (.ref b20), .val (.ref b26), .unset, .unset, .unset, .unset, .unset, .unset, .unset, .unset, .unset, .unset, .unset]) rfl ?_
  refine w_bipush X hx (dq hby d0_30) (z := 16) rfl ?_
  refine w_newarr X hx hZ eT (aty := .byte) (hw _ (List.mem_of_getElem? (i := 0) rfl)) (dq hby d0_32) (n := 16) (cap := 16) (rfl) ((by decide)) (by decide) (by decide) (by decide) fun T h4 b32 hb_b32 X eT EX A_b32 => ?_
  have ne_b15_b32 : b15 ≠ b32 := by rw [hb_b32]; exact Nat.ne_of_lt A_b15.lt
  have ne_b20_b32 : b20 ≠ b32 := by rw [hb_b32]; exact Nat.ne_of_lt A_b20.lt
  have ne_b26_b32 : b26 ≠ b32 := by rw [hb_b32]; exact Nat.ne_of_lt A_b26.lt
  have g_b32 : n0 ≤ b32 := by omega
  replace A_b15 := AV.ext A_b15 EX
  replace A_b20 := AV.ext A_b20 EX
  replace A_b26 := AV.ext A_b26 EX
  replace Z0 := Nat.le_trans Z0 EX.1
  replace A_b32 : AV Z h4 b32 .byte 16 (iF (fun _ => (0 : Int32))) := A_b32
  refine w_astore X hx (dq hby d0_34) rfl (Ls' := #[.val (.int i0), .val (.int i1), .val (.int i2), .val (.int i3), .val (.int v4_4), .val (.int v5_12), .val (.ref b15), .val (.ref b20), .val (.ref b26), .val (.ref b32), .unset, .unset, .unset, .unset, .unset, .unset, .unset, .unset, .unset, .unset]) rfl ?_
  refine w_bipush X hx (dq hby d0_36) (z := 32) rfl ?_
  refine w_newarr X hx hZ eT (aty := .byte) (hw _ (List.mem_of_getElem? (i := 0) rfl)) (dq hby d0_38) (n := 32) (cap := 32) (rfl) ((by decide)) (by decide) (by decide) (by decide) fun T h5 b38 hb_b38 X eT EX A_b38 => ?_
  have ne_b15_b38 : b15 ≠ b38 := by rw [hb_b38]; exact Nat.ne_of_lt A_b15.lt
  have ne_b20_b38 : b20 ≠ b38 := by rw [hb_b38]; exact Nat.ne_of_lt A_b20.lt
  have ne_b26_b38 : b26 ≠ b38 := by rw [hb_b38]; exact Nat.ne_of_lt A_b26.lt
  have ne_b32_b38 : b32 ≠ b38 := by rw [hb_b38]; exact Nat.ne_of_lt A_b32.lt
  have g_b38 : n0 ≤ b38 := by omega
  replace A_b15 := AV.ext A_b15 EX
  replace A_b20 := AV.ext A_b20 EX
  replace A_b26 := AV.ext A_b26 EX
  replace A_b32 := AV.ext A_b32 EX
  replace Z0 := Nat.le_trans Z0 EX.1
  replace A_b38 : AV Z h5 b38 .byte 32 (iF (fun _ => (0 : Int32))) := A_b38
  refine w_astore X hx (dq hby d0_40) rfl (Ls' := #[.val (.int i0), .val (.int i1), .val (.int i2), .val (.int i3), .val (.int v4_4), .val (.int v5_12), .val (.ref b15), .val (.ref b20), .val (.ref b26), .val (.ref b32), .val (.ref b38), .unset, .unset, .unset, .unset, .unset, .unset, .unset, .unset, .unset]) rfl ?_
  refine w_bipush X hx (dq hby d0_42) (z := 64) rfl ?_
  refine w_newarr X hx hZ eT (aty := .byte) (hw _ (List.mem_of_getElem? (i := 0) rfl)) (dq hby d0_44) (n := 64) (cap := 64) (rfl) ((by decide)) (by decide) (by decide) (by decide) fun T h6 b44 hb_b44 X eT EX A_b44 => ?_
  have ne_b15_b44 : b15 ≠ b44 := by rw [hb_b44]; exact Nat.ne_of_lt A_b15.lt
  have ne_b20_b44 : b20 ≠ b44 := by rw [hb_b44]; exact Nat.ne_of_lt A_b20.lt
  have ne_b26_b44 : b26 ≠ b44 := by rw [hb_b44]; exact Nat.ne_of_lt A_b26.lt
  have ne_b32_b44 : b32 ≠ b44 := by rw [hb_b44]; exact Nat.ne_of_lt A_b32.lt
  have ne_b38_b44 : b38 ≠ b44 := by rw [hb_b44]; exact Nat.ne_of_lt A_b38.lt
  have g_b44 : n0 ≤ b44 := by omega
  replace A_b15 := AV.ext A_b15 EX
  replace A_b20 := AV.ext A_b20 EX
  replace A_b26 := AV.ext A_b26 EX
  replace A_b32 := AV.ext A_b32 EX
  replace A_b38 := AV.ext A_b38 EX
  replace Z0 := Nat.le_trans Z0 EX.1
  replace A_b44 : AV Z h6 b44 .byte 64 (iF (fun _ => (0 : Int32))) := A_b44
  refine w_astore X hx (dq hby d0_46) rfl (Ls' := #[.val (.int i0), .val (.int i1), .val (.int i2), .val (.int i3), .val (.int v4_4), .val (.int v5_12), .val (.ref b15), .val (.ref b20), .val (.ref b26), .val (.ref b32), .val (.ref b38), .val (.ref b44), .unset, .unset, .unset, .unset, .unset, .unset, .unset, .unset]) rfl ?_
  refine w_new X hx hZ eT hown (hw _ (List.mem_of_getElem? (i := 1) rfl)) (hw _ (List.mem_of_getElem? (i := 2) rfl)) (hw _ (List.mem_of_getElem? (i := 3) rfl)) (dq hby d0_48) (by decide) (by decide) fun T h7 b48 hb_b48 X eT EX E_b48 D_b48 => ?_
  have ne_b15_b48 : b15 ≠ b48 := by rw [hb_b48]; exact Nat.ne_of_lt A_b15.lt
  have ne_b20_b48 : b20 ≠ b48 := by rw [hb_b48]; exact Nat.ne_of_lt A_b20.lt
  have ne_b26_b48 : b26 ≠ b48 := by rw [hb_b48]; exact Nat.ne_of_lt A_b26.lt
  have ne_b32_b48 : b32 ≠ b48 := by rw [hb_b48]; exact Nat.ne_of_lt A_b32.lt
  have ne_b38_b48 : b38 ≠ b48 := by rw [hb_b48]; exact Nat.ne_of_lt A_b38.lt
  have ne_b44_b48 : b44 ≠ b48 := by rw [hb_b48]; exact Nat.ne_of_lt A_b44.lt
  have g_b48 : n0 ≤ b48 := by omega
  replace A_b15 := AV.ext A_b15 EX
  replace A_b20 := AV.ext A_b20 EX
  replace A_b26 := AV.ext A_b26 EX
  replace A_b32 := AV.ext A_b32 EX
  replace A_b38 := AV.ext A_b38 EX
  replace A_b44 := AV.ext A_b44 EX
  replace Z0 := Nat.le_trans Z0 EX.1
  have F_bytes_b48 : Fld Z h7 b48 "com/example/queue_directory/queuedirectory/rpc/NdrWriter" "bytes" "[B" .null := D_b48 (Or.inl (hw _ (List.mem_of_getElem? (i := 11) rfl))) (ty := (.array .byte)) (by decide)
  have F_length_b48 : Fld Z h7 b48 "com/example/queue_directory/queuedirectory/rpc/NdrWriter" "length" "I" (.int (0 : Int32)) := D_b48 (Or.inl (hw _ (List.mem_of_getElem? (i := 18) rfl))) (ty := .int) (by decide)
  refine w_dup X hx (dq hby d0_51) rfl ?_
  refine w_callI X hx hZ eT hml (by rfl) hown rfl (hw _ (List.mem_of_getElem? (i := 4) rfl)) (hw _ (List.mem_of_getElem? (i := 5) rfl)) (hw _ (List.mem_of_getElem? (i := 3) rfl)) (hw _ (List.mem_of_getElem? (i := 6) rfl)) (by decide) (ct1 l Z a0 hw b48 n0 h7 Z0 g_b48 E_b48 F_bytes_b48 F_length_b48) (b := b48) (dq hby d0_52) pd_3 (argsL := []) (rest := [(.ref b48)]) rfl rfl rfl (W := 1) rfl (by decide) (by decide) (by decide) (by decide) fun v T L X hQ => ?_
  have lt_b15 := A_b15.lt
  have lt_b44 := A_b44.lt
  have lt_b32 := A_b32.lt
  have lt_b26 := A_b26.lt
  have lt_b20 := A_b20.lt
  have lt_b38 := A_b38.lt
  generalize eT : T.heap = h8 at hQ
  obtain ⟨rfl, N', K', E_b48, ar0, g_ar0, ge_ar0', ne_b48_ar0, F_bytes_b48, F_length_b48, A_ar0, E_ar0⟩ := hQ
  have ne_b15_ar0 : b15 ≠ ar0 := Nat.ne_of_lt (Nat.lt_of_lt_of_le lt_b15 ge_ar0')
  have ne_b44_ar0 : b44 ≠ ar0 := Nat.ne_of_lt (Nat.lt_of_lt_of_le lt_b44 ge_ar0')
  have ne_b32_ar0 : b32 ≠ ar0 := Nat.ne_of_lt (Nat.lt_of_lt_of_le lt_b32 ge_ar0')
  have ne_b26_ar0 : b26 ≠ ar0 := Nat.ne_of_lt (Nat.lt_of_lt_of_le lt_b26 ge_ar0')
  have ne_b20_ar0 : b20 ≠ ar0 := Nat.ne_of_lt (Nat.lt_of_lt_of_le lt_b20 ge_ar0')
  have ne_b38_ar0 : b38 ≠ ar0 := Nat.ne_of_lt (Nat.lt_of_lt_of_le lt_b38 ge_ar0')
  replace A_b15 := AV.keep A_b15 K' (ninS ne_b15_b48 nin0)
  replace A_b20 := AV.keep A_b20 K' (ninS ne_b20_b48 nin0)
  replace A_b26 := AV.keep A_b26 K' (ninS ne_b26_b48 nin0)
  replace A_b32 := AV.keep A_b32 K' (ninS ne_b32_b48 nin0)
  replace A_b38 := AV.keep A_b38 K' (ninS ne_b38_b48 nin0)
  replace A_b44 := AV.keep A_b44 K' (ninS ne_b44_b48 nin0)
  replace Z0 := Nat.le_trans Z0 K'.1
  replace N := Fr.app N N'
  refine w_astore X hx (dq hby d0_55) rfl (Ls' := #[.val (.int i0), .val (.int i1), .val (.int i2), .val (.int i3), .val (.int v4_4), .val (.int v5_12), .val (.ref b15), .val (.ref b20), .val (.ref b26), .val (.ref b32), .val (.ref b38), .val (.ref b44), .val (.ref b48), .unset, .unset, .unset, .unset, .unset, .unset, .unset]) rfl ?_
  refine w_j5 (fun (T : State) (locs : List Loc) (hJ1 : Heap) (arJ1 : Addr) (lvJ1 : Int32) => T.setTop (mkF m 72 #[.val (.int i0), .val (.int i1), .val (.int i2), .val (.int i3), .val (.int v4_4), .val (.int v5_12), .val (.ref b15), .val (.ref b20), .val (.ref b26), .val (.ref b32), .val (.ref b38), .val (.ref b44), .val (.ref b48), .unset, .unset, .unset, .unset, .unset, .unset, .unset] [])) (fun T locs hJ1 arJ1 lvJ1 => Stand p l e room_1 s m #[(.int i0), (.int i1), (.int i2), (.int i3)] below meth c T locs 8 192 ∧ T.heap = hJ1 ∧ n0 ≤ hJ1.size ∧ Fr n0 locs ∧ n0 ≤ arJ1 ∧ lvJ1.toInt = (((B % 4 - B % 2) : Nat) : Int) ∧ b48 ≠ arJ1 ∧ Exa Z hJ1 b48 "com/example/queue_directory/queuedirectory/rpc/NdrWriter" ∧ Fld Z hJ1 b48 "com/example/queue_directory/queuedirectory/rpc/NdrWriter" "bytes" "[B" (.ref arJ1) ∧ Fld Z hJ1 b48 "com/example/queue_directory/queuedirectory/rpc/NdrWriter" "length" "I" (.int lvJ1) ∧ AV Z hJ1 arJ1 .byte 64 (iF (fun _ => (0 : Int32))) ∧ Exa Z hJ1 arJ1 "[B" ∧ b20 ≠ arJ1 ∧ AV Z hJ1 b20 .byte 4 (iF (fun _ => (0 : Int32))) ∧ b26 ≠ arJ1 ∧ AV Z hJ1 b26 .byte 8 (iF (fun _ => (0 : Int32))) ∧ b32 ≠ arJ1 ∧ AV Z hJ1 b32 .byte 16 (iF (fun _ => (0 : Int32))) ∧ b38 ≠ arJ1 ∧ AV Z hJ1 b38 .byte 32 (iF (fun _ => (0 : Int32))) ∧ b44 ≠ arJ1 ∧ AV Z hJ1 b44 .byte 64 (iF (fun _ => (0 : Int32)))) (fun T locs hJ1 arJ1 lvJ1 hq => ?_) (fun J72 => ?_)
  · try dsimp only at hq ⊢
    obtain ⟨X, eT, hq⟩ := hq
    obtain ⟨Z0, N, g_arJ1, hlvJ1, ne_b48_arJ1, E_b48, F_bytes_b48, F_length_b48, A_arJ1, E_arJ1, ne_b20_arJ1, A_b20, ne_b26_arJ1, A_b26, ne_b32_arJ1, A_b32, ne_b38_arJ1, A_b38, ne_b44_arJ1, A_b44⟩ := hq
    refine w_j5 (fun (T : State) (locs : List Loc) (hJ2 : Heap) (arJ2 : Addr) (lvJ2 : Int32) => T.setTop (mkF m 87 #[.val (.int i0), .val (.int i1), .val (.int i2), .val (.int i3), .val (.int v4_4), .val (.int v5_12), .val (.ref b15), .val (.ref b20), .val (.ref b26), .val (.ref b32), .val (.ref b38), .val (.ref b44), .val (.ref b48), .unset, .unset, .unset, .unset, .unset, .unset, .unset] [])) (fun T locs hJ2 arJ2 lvJ2 => Stand p l e room_1 s m #[(.int i0), (.int i1), (.int i2), (.int i3)] below meth c T locs 8 192 ∧ T.heap = hJ2 ∧ n0 ≤ hJ2.size ∧ Fr n0 locs ∧ n0 ≤ arJ2 ∧ lvJ2.toInt = (((B % 8 - B % 2) : Nat) : Int) ∧ b48 ≠ arJ2 ∧ Exa Z hJ2 b48 "com/example/queue_directory/queuedirectory/rpc/NdrWriter" ∧ Fld Z hJ2 b48 "com/example/queue_directory/queuedirectory/rpc/NdrWriter" "bytes" "[B" (.ref arJ2) ∧ Fld Z hJ2 b48 "com/example/queue_directory/queuedirectory/rpc/NdrWriter" "length" "I" (.int lvJ2) ∧ AV Z hJ2 arJ2 .byte 64 (iF (fun _ => (0 : Int32))) ∧ Exa Z hJ2 arJ2 "[B" ∧ b26 ≠ arJ2 ∧ AV Z hJ2 b26 .byte 8 (iF (fun _ => (0 : Int32))) ∧ b32 ≠ arJ2 ∧ AV Z hJ2 b32 .byte 16 (iF (fun _ => (0 : Int32))) ∧ b38 ≠ arJ2 ∧ AV Z hJ2 b38 .byte 32 (iF (fun _ => (0 : Int32))) ∧ b44 ≠ arJ2 ∧ AV Z hJ2 b44 .byte 64 (iF (fun _ => (0 : Int32)))) (fun T locs hJ2 arJ2 lvJ2 hq => ?_) (fun J87 => ?_)
    · try dsimp only at hq ⊢
      obtain ⟨X, eT, hq⟩ := hq
      obtain ⟨Z0, N, g_arJ2, hlvJ2, ne_b48_arJ2, E_b48, F_bytes_b48, F_length_b48, A_arJ2, E_arJ2, ne_b26_arJ2, A_b26, ne_b32_arJ2, A_b32, ne_b38_arJ2, A_b38, ne_b44_arJ2, A_b44⟩ := hq
      refine w_j5 (fun (T : State) (locs : List Loc) (hJ3 : Heap) (arJ3 : Addr) (lvJ3 : Int32) => T.setTop (mkF m 103 #[.val (.int i0), .val (.int i1), .val (.int i2), .val (.int i3), .val (.int v4_4), .val (.int v5_12), .val (.ref b15), .val (.ref b20), .val (.ref b26), .val (.ref b32), .val (.ref b38), .val (.ref b44), .val (.ref b48), .unset, .unset, .unset, .unset, .unset, .unset, .unset] [])) (fun T locs hJ3 arJ3 lvJ3 => Stand p l e room_1 s m #[(.int i0), (.int i1), (.int i2), (.int i3)] below meth c T locs 8 192 ∧ T.heap = hJ3 ∧ n0 ≤ hJ3.size ∧ Fr n0 locs ∧ n0 ≤ arJ3 ∧ lvJ3.toInt = (((B % 16 - B % 2) : Nat) : Int) ∧ b48 ≠ arJ3 ∧ Exa Z hJ3 b48 "com/example/queue_directory/queuedirectory/rpc/NdrWriter" ∧ Fld Z hJ3 b48 "com/example/queue_directory/queuedirectory/rpc/NdrWriter" "bytes" "[B" (.ref arJ3) ∧ Fld Z hJ3 b48 "com/example/queue_directory/queuedirectory/rpc/NdrWriter" "length" "I" (.int lvJ3) ∧ AV Z hJ3 arJ3 .byte 64 (iF (fun _ => (0 : Int32))) ∧ Exa Z hJ3 arJ3 "[B" ∧ b32 ≠ arJ3 ∧ AV Z hJ3 b32 .byte 16 (iF (fun _ => (0 : Int32))) ∧ b38 ≠ arJ3 ∧ AV Z hJ3 b38 .byte 32 (iF (fun _ => (0 : Int32))) ∧ b44 ≠ arJ3 ∧ AV Z hJ3 b44 .byte 64 (iF (fun _ => (0 : Int32)))) (fun T locs hJ3 arJ3 lvJ3 hq => ?_) (fun J103 => ?_)
      · try dsimp only at hq ⊢
        obtain ⟨X, eT, hq⟩ := hq
        obtain ⟨Z0, N, g_arJ3, hlvJ3, ne_b48_arJ3, E_b48, F_bytes_b48, F_length_b48, A_arJ3, E_arJ3, ne_b32_arJ3, A_b32, ne_b38_arJ3, A_b38, ne_b44_arJ3, A_b44⟩ := hq
        refine w_j5 (fun (T : State) (locs : List Loc) (hJ4 : Heap) (arJ4 : Addr) (lvJ4 : Int32) => T.setTop (mkF m 119 #[.val (.int i0), .val (.int i1), .val (.int i2), .val (.int i3), .val (.int v4_4), .val (.int v5_12), .val (.ref b15), .val (.ref b20), .val (.ref b26), .val (.ref b32), .val (.ref b38), .val (.ref b44), .val (.ref b48), .unset, .unset, .unset, .unset, .unset, .unset, .unset] [])) (fun T locs hJ4 arJ4 lvJ4 => Stand p l e room_1 s m #[(.int i0), (.int i1), (.int i2), (.int i3)] below meth c T locs 8 192 ∧ T.heap = hJ4 ∧ n0 ≤ hJ4.size ∧ Fr n0 locs ∧ n0 ≤ arJ4 ∧ lvJ4.toInt = (((B % 32 - B % 2) : Nat) : Int) ∧ b48 ≠ arJ4 ∧ Exa Z hJ4 b48 "com/example/queue_directory/queuedirectory/rpc/NdrWriter" ∧ Fld Z hJ4 b48 "com/example/queue_directory/queuedirectory/rpc/NdrWriter" "bytes" "[B" (.ref arJ4) ∧ Fld Z hJ4 b48 "com/example/queue_directory/queuedirectory/rpc/NdrWriter" "length" "I" (.int lvJ4) ∧ AV Z hJ4 arJ4 .byte 64 (iF (fun _ => (0 : Int32))) ∧ Exa Z hJ4 arJ4 "[B" ∧ b38 ≠ arJ4 ∧ AV Z hJ4 b38 .byte 32 (iF (fun _ => (0 : Int32))) ∧ b44 ≠ arJ4 ∧ AV Z hJ4 b44 .byte 64 (iF (fun _ => (0 : Int32)))) (fun T locs hJ4 arJ4 lvJ4 hq => ?_) (fun J119 => ?_)
        · try dsimp only at hq ⊢
          obtain ⟨X, eT, hq⟩ := hq
          obtain ⟨Z0, N, g_arJ4, hlvJ4, ne_b48_arJ4, E_b48, F_bytes_b48, F_length_b48, A_arJ4, E_arJ4, ne_b38_arJ4, A_b38, ne_b44_arJ4, A_b44⟩ := hq
          refine w_j5 (fun (T : State) (locs : List Loc) (hJ5 : Heap) (arJ5 : Addr) (lvJ5 : Int32) => T.setTop (mkF m 135 #[.val (.int i0), .val (.int i1), .val (.int i2), .val (.int i3), .val (.int v4_4), .val (.int v5_12), .val (.ref b15), .val (.ref b20), .val (.ref b26), .val (.ref b32), .val (.ref b38), .val (.ref b44), .val (.ref b48), .unset, .unset, .unset, .unset, .unset, .unset, .unset] [])) (fun T locs hJ5 arJ5 lvJ5 => Stand p l e room_1 s m #[(.int i0), (.int i1), (.int i2), (.int i3)] below meth c T locs 8 192 ∧ T.heap = hJ5 ∧ n0 ≤ hJ5.size ∧ Fr n0 locs ∧ n0 ≤ arJ5 ∧ lvJ5.toInt = (((B % 64 - B % 2) : Nat) : Int) ∧ b48 ≠ arJ5 ∧ Exa Z hJ5 b48 "com/example/queue_directory/queuedirectory/rpc/NdrWriter" ∧ Fld Z hJ5 b48 "com/example/queue_directory/queuedirectory/rpc/NdrWriter" "bytes" "[B" (.ref arJ5) ∧ Fld Z hJ5 b48 "com/example/queue_directory/queuedirectory/rpc/NdrWriter" "length" "I" (.int lvJ5) ∧ AV Z hJ5 arJ5 .byte 64 (iF (fun _ => (0 : Int32))) ∧ Exa Z hJ5 arJ5 "[B" ∧ b44 ≠ arJ5 ∧ AV Z hJ5 b44 .byte 64 (iF (fun _ => (0 : Int32)))) (fun T locs hJ5 arJ5 lvJ5 hq => ?_) (fun J135 => ?_)
          · try dsimp only at hq ⊢
            obtain ⟨X, eT, hq⟩ := hq
            obtain ⟨Z0, N, g_arJ5, hlvJ5, ne_b48_arJ5, E_b48, F_bytes_b48, F_length_b48, A_arJ5, E_arJ5, ne_b44_arJ5, A_b44⟩ := hq
            refine w_j6 (fun (T : State) (locs : List Loc) (hJ6 : Heap) (arJ6 : Addr) (lvJ6 : Int32) (capJ : Nat) => T.setTop (mkF m 151 #[.val (.int i0), .val (.int i1), .val (.int i2), .val (.int i3), .val (.int v4_4), .val (.int v5_12), .val (.ref b15), .val (.ref b20), .val (.ref b26), .val (.ref b32), .val (.ref b38), .val (.ref b44), .val (.ref b48), .unset, .unset, .unset, .unset, .unset, .unset, .unset] [])) (fun T locs hJ6 arJ6 lvJ6 capJ => Stand p l e room_1 s m #[(.int i0), (.int i1), (.int i2), (.int i3)] below meth c T locs 9 320 ∧ T.heap = hJ6 ∧ n0 ≤ hJ6.size ∧ Fr n0 locs ∧ n0 ≤ arJ6 ∧ lvJ6.toInt = (((B % 128 - B % 2) : Nat) : Int) ∧ b48 ≠ arJ6 ∧ Exa Z hJ6 b48 "com/example/queue_directory/queuedirectory/rpc/NdrWriter" ∧ Fld Z hJ6 b48 "com/example/queue_directory/queuedirectory/rpc/NdrWriter" "bytes" "[B" (.ref arJ6) ∧ Fld Z hJ6 b48 "com/example/queue_directory/queuedirectory/rpc/NdrWriter" "length" "I" (.int lvJ6) ∧ AV Z hJ6 arJ6 .byte capJ (iF (fun _ => (0 : Int32))) ∧ Exa Z hJ6 arJ6 "[B" ∧ (capJ = 64 ∧ (B % 128 - B % 2) ≤ 64 ∨ capJ = 128)) (fun T locs hJ6 arJ6 lvJ6 capJ hq => ?_) (fun J151 => ?_)
            · try dsimp only at hq ⊢
              obtain ⟨X, eT, hq⟩ := hq
              obtain ⟨Z0, N, g_arJ6, hlvJ6, ne_b48_arJ6, E_b48, F_bytes_b48, F_length_b48, A_arJ6, E_arJ6, hcJ⟩ := hq
              refine w_iload X hx (dq hby d0_151) rfl ?_
              refine w_iconst X hx (dq hby d0_153) (z := 1) rfl ?_
              refine w_iand X hx (dq hby d0_154) ?_
              refine w_if_eq X hx (dj hby d0_155) (fun hc155 => ?_) (fun hc155 => ?_)
              · refine w_iconst X hx (dq hby d0_162) (z := 0) rfl ?_
                refine w_istore X hx (dq hby d0_163) (z := (0 : Int32)) rfl (Ls' := #[.val (.int i0), .val (.int i1), .val (.int i2), .val (.int i3), .val (.int v4_4), .val (.int v5_12), .val (.ref b15), .val (.ref b20), .val (.ref b26), .val (.ref b32), .val (.ref b38), .val (.ref b44), .val (.ref b48), .val (.int (0 : Int32)), .unset, .unset, .unset, .unset, .unset, .unset]) rfl ?_
                have b0 := (own_bit v4_4 1 0 (by decide)).1 hc155
                rw [hBu] at b0
                have hcJ1 := own_j1 hcJ (own_l6 B hB7) hB7
                have eL := own_i0 hB7 b0
                refine w_iload X hx (dq hby d0_165) rfl ?_
                refine w_if_eq X hx (dj hby d0_167) (fun hc167 => ?_) (fun hc167 => (?_ : False).elim)
                rotate_left
                · exact absurd hc167 (by decide)
                refine w_iload X hx (dq hby d0_177) rfl ?_
                refine w_istore X hx (dq hby d0_179) (z := v4_4) rfl (Ls' := #[.val (.int i0), .val (.int i1), .val (.int i2), .val (.int i3), .val (.int v4_4), .val (.int v5_12), .val (.ref b15), .val (.ref b20), .val (.ref b26), .val (.ref b32), .val (.ref b38), .val (.ref b44), .val (.ref b48), .val (.int (0 : Int32)), .val (.int v4_4), .unset, .unset, .unset, .unset, .unset]) rfl ?_
                obtain ⟨pad, hpad0⟩ : ∃ p : Nat, p = ((-(B : Int)) % 2 ^ e_).toNat := ⟨_, rfl⟩
                have hpad : (pad : Int) = (-(B : Int)) % 2 ^ e_ := by have := Int.emod_nonneg (-(B : Int)) (show (2 : Int) ^ e_ ≠ 0 from Int.pow_ne_zero (by decide)); omega
                obtain ⟨p1, p2, p3, p4, p5, p6, p7, p8⟩ := own_pad he8 hB7 hpad
                rw [eL] at hlvJ6 hcJ1
                have hcU := hcJ1
                refine w_aload X hx (dq hby d0_181) rfl rfl ?_
                refine w_iload X hx (dq hby d0_183) rfl ?_
                refine w_callV X hx hZ eT hml (by rfl) hown (hw _ (List.mem_of_getElem? (i := 12) rfl)) (hw _ (List.mem_of_getElem? (i := 13) rfl)) (hw _ (List.mem_of_getElem? (i := 15) rfl)) (hw _ (List.mem_of_getElem? (i := 14) rfl)) (hw _ (List.mem_of_getElem? (i := 3) rfl)) (hw _ (List.mem_of_getElem? (i := 16) rfl)) (by decide) (alignG l Z a0 hw b48 v5_12 n0 arJ6 lvJ6 capJ B (fun _ => (0 : Int32)) e_ pad hJ6 Z0 g_b48 g_arJ6 ne_b48_arJ6 E_b48 F_bytes_b48 F_length_b48 A_arJ6 E_arJ6 hlvJ6 hcU.1 (own_j2 hcU) byt0 (zro0 _) (Nat.lt_trans he8 (by decide)) (by rw [hv5_12]; exact hmk) hpad (Nat.le_trans (Nat.le_add_left _ _) (Nat.le_trans p2 (by decide))) (own_al hcU p2)) E_b48 (dq hby d0_185) pd_4 (argsL := [(.int v5_12)]) (rest := []) rfl rfl rfl (W := 0) rfl (by decide) (by decide) (by decide) (by decide) fun v T L X hQ => ?_
                generalize eT : T.heap = h9 at hQ
                obtain ⟨rfl, N', K', E_b48, arA, capA, lvA, g_arA, ne_b48_arA, qqA, hlvA, F_bytes_b48, F_length_b48, A_arA, E_arA, hcapA⟩ := hQ
                replace Z0 := Nat.le_trans Z0 K'.1
                replace N := Fr.app N N'
                have hcA := own_ac hcU p2 hcapA
                refine w_astore X hx (dq hby d0_188) rfl (Ls' := #[.val (.int i0), .val (.int i1), .val (.int i2), .val (.int i3), .val (.int v4_4), .val (.int v5_12), .val (.ref b15), .val (.ref b20), .val (.ref b26), .val (.ref b32), .val (.ref b38), .val (.ref b44), .val (.ref b48), .val (.int (0 : Int32)), .val (.int v4_4), .val (.ref b48), .unset, .unset, .unset, .unset]) rfl ?_
                refine w_aload X hx (dq hby d0_190) rfl rfl ?_
                refine w_callV X hx hZ eT hml (by rfl) hown (hw _ (List.mem_of_getElem? (i := 23) rfl)) (hw _ (List.mem_of_getElem? (i := 24) rfl)) (hw _ (List.mem_of_getElem? (i := 26) rfl)) (hw _ (List.mem_of_getElem? (i := 25) rfl)) (hw _ (List.mem_of_getElem? (i := 3) rfl)) (hw _ (List.mem_of_getElem? (i := 27) rfl)) (by decide) (ct5 l Z a0 hw b48 n0 arA lvA capA (B + pad) (fun _ => (0 : Int32)) h9 Z0 g_b48 g_arA ne_b48_arA E_b48 F_bytes_b48 F_length_b48 A_arA E_arA hlvA hcA.1 (own_j2 hcA) byt0 (zro0 _) p2) E_b48 (dq hby d0_192) pd_5 (argsL := []) (rest := []) rfl rfl rfl (W := 0) rfl (by decide) (by decide) (by decide) (by decide) fun v T L X hQ => ?_
                have lt_arA := A_arA.lt
                have lt_b48 := E_b48.lt
                generalize eT : T.heap = h10 at hQ
                obtain ⟨btX, rfl, N', K', ge_btX', A_btX⟩ := hQ
                have g_btX : n0 ≤ btX := Nat.le_trans Z0 ge_btX'
                have ne_arA_btX : arA ≠ btX := Nat.ne_of_lt (Nat.lt_of_lt_of_le lt_arA ge_btX')
                have ne_b48_btX : b48 ≠ btX := Nat.ne_of_lt (Nat.lt_of_lt_of_le lt_b48 ge_btX')
                replace F_bytes_b48 := Fld.keep F_bytes_b48 K' nin0
                replace F_length_b48 := Fld.keep F_length_b48 K' nin0
                replace E_b48 := Exa.keep E_b48 K'
                replace E_arA := Exa.keep E_arA K'
                replace A_arA := AV.keep A_arA K' nin0
                replace Z0 := Nat.le_trans Z0 K'.1
                replace N := Fr.app N N'
                refine w_astore X hx (dq hby d0_195) rfl (Ls' := #[.val (.int i0), .val (.int i1), .val (.int i2), .val (.int i3), .val (.int v4_4), .val (.int v5_12), .val (.ref b15), .val (.ref b20), .val (.ref b26), .val (.ref b32), .val (.ref b38), .val (.ref b44), .val (.ref b48), .val (.int (0 : Int32)), .val (.int v4_4), .val (.ref b48), .val (.ref btX), .unset, .unset, .unset]) rfl ?_
                have hv5 : v5_12.toInt = ((2 ^ e_ : Nat) : Int) := by rw [hv5_12]; exact hsz
                have nz5 : v5_12 ≠ 0 := fun q => by have := congrArg Int32.toInt q; rw [show (0 : Int32).toInt = 0 from rfl] at this; omega
                refine w_iload X hx (dq hby d0_197) rfl ?_
                refine w_iload X hx (dq hby d0_199) rfl ?_
                refine w_irem X hx (dq hby d0_201) (nz5) ?_
                obtain ⟨v17_202, hv17_202⟩ : ∃ z : Int32, z = (v4_4 % v5_12) := ⟨_, rfl⟩
                refine w_istore X hx (dq hby d0_202) (z := v17_202) hv17_202 (Ls' := #[.val (.int i0), .val (.int i1), .val (.int i2), .val (.int i3), .val (.int v4_4), .val (.int v5_12), .val (.ref b15), .val (.ref b20), .val (.ref b26), .val (.ref b32), .val (.ref b38), .val (.ref b44), .val (.ref b48), .val (.int (0 : Int32)), .val (.int v4_4), .val (.ref b48), .val (.ref btX), .val (.int v17_202), .unset, .unset]) rfl ?_
                have r17 : v17_202.toInt = ((B % 2 ^ e_ : Nat) : Int) := by rw [hv17_202, Jvm.Kit.i32_rem_nonneg (by omega), hB, hv5]; rfl
                refine w_iload X hx (dq hby d0_204) rfl ?_
                refine w_if_ne X hx (dj hby d0_206) (fun hc206 => ?_) (fun hc206 => ?_)
                · refine w_iload X hx (dq hby d0_214) rfl ?_
                  refine w_iload X hx (dq hby d0_216) rfl ?_
                  refine w_isub X hx (dq hby d0_218) ?_
                  refine w_iload X hx (dq hby d0_219) rfl ?_
                  refine w_iadd X hx (dq hby d0_221) ?_
                  obtain ⟨v18_222, hv18_222⟩ : ∃ z : Int32, z = ((v4_4 - v17_202) + v5_12) := ⟨_, rfl⟩
                  refine w_istore X hx (dq hby d0_222) (z := v18_222) hv18_222 (Ls' := #[.val (.int i0), .val (.int i1), .val (.int i2), .val (.int i3), .val (.int v4_4), .val (.int v5_12), .val (.ref b15), .val (.ref b20), .val (.ref b26), .val (.ref b32), .val (.ref b38), .val (.ref b44), .val (.ref b48), .val (.int (0 : Int32)), .val (.int v4_4), .val (.ref b48), .val (.ref btX), .val (.int v17_202), .val (.int v18_222), .unset]) rfl ?_
                  have q17 := i32_ne hc206
                  have a18 : (v4_4 - v17_202).toInt = (B : Int) - (B % 2 ^ e_ : Nat) := by rw [Jvm.Kit.i32_sub] <;> omega
                  have e18 : v18_222.toInt = ((B + pad : Nat) : Int) := by rw [hv18_222, Jvm.Kit.i32_add] <;> rw [a18] <;> (rw [show (0 : Int32).toInt = 0 from rfl] at q17) <;> omega
                  refine w_aload X hx (dq hby d0_224) rfl rfl ?_
                  refine w_aload X hx (dq hby d0_226) rfl rfl ?_
                  refine w_acmpE X hx (dj hby d0_228) ?_
                  refine w_aload X hx (dq hby d0_233) rfl rfl ?_
                  refine w_arrlen X hx hZ eT A_btX (z := v18_222) (e18) (dq hby d0_235) ?_
                  refine w_iload X hx (dq hby d0_236) rfl ?_
                  refine w_icmp_eq X hx (dj hby d0_238) (fun hc238 => ?_) (fun hc238 => (?_ : False).elim)
                  rotate_left
                  · exact hc238 rfl
                  refine w_iload X hx (dq hby d0_243) rfl ?_
                  refine w_if_eq X hx (dj hby d0_245) (fun hc245 => ?_) (fun hc245 => (?_ : False).elim)
                  rotate_left
                  · exact absurd hc245 (by decide)
                  refine w_iload X hx (dq hby d0_262) rfl ?_
                  refine w_iload X hx (dq hby d0_264) rfl ?_
                  refine w_isub X hx (dq hby d0_266) ?_
                  obtain ⟨v19_267, hv19_267⟩ : ∃ z : Int32, z = (v18_222 - v4_4) := ⟨_, rfl⟩
                  refine w_istore X hx (dq hby d0_267) (z := v19_267) hv19_267 (Ls' := #[.val (.int i0), .val (.int i1), .val (.int i2), .val (.int i3), .val (.int v4_4), .val (.int v5_12), .val (.ref b15), .val (.ref b20), .val (.ref b26), .val (.ref b32), .val (.ref b38), .val (.ref b44), .val (.ref b48), .val (.int (0 : Int32)), .val (.int v4_4), .val (.ref b48), .val (.ref btX), .val (.int v17_202), .val (.int v18_222), .val (.int v19_267)]) rfl ?_
                  have e19 : v19_267.toInt = (pad : Int) := by rw [hv19_267, Jvm.Kit.i32_sub] <;> omega
                  refine w_iload X hx (dq hby d0_269) rfl ?_
                  refine w_if_le X hx (dj hby d0_271) (fun hc271 => ?_) (fun hc271 => ?_)
                  · refine w_iconst X hx (dq hby d0_292) (z := 1) rfl ?_
                    refine w_retN X hx hret (by simp) hlk (dq hby d0_293) (by decide) (by decide) ?_
                    exact ⟨by simp [nar], N⟩
                  · have m31 : (i3 &&& 2147483647).toInt = i3.toInt % 2 ^ 31 := Jvm.Kit.i32_mask i3 2147483647 (by decide) (by decide)
                    have nz19 : v19_267 ≠ 0 := fun q => by have := congrArg Int32.toInt q; rw [show (0 : Int32).toInt = 0 from rfl] at this; omega
                    have r19 : ((i3 &&& 2147483647) % v19_267).toInt = i3.toInt % 2 ^ 31 % pad := by rw [Jvm.Kit.i32_rem_nonneg (by omega), m31, e19]
                    have r19a := Int.emod_nonneg (i3.toInt % 2 ^ 31) (show (pad : Int) ≠ 0 by omega)
                    have r19b := Int.emod_lt_of_pos (i3.toInt % 2 ^ 31) (show (0 : Int) < pad by omega)
                    obtain ⟨pk, hpk⟩ : ∃ k : Nat, k = (i3.toInt % 2 ^ 31 % pad).toNat := ⟨_, rfl⟩
                    have s19 : (v4_4 + (i3 &&& 2147483647) % v19_267).toInt = ((B + pk : Nat) : Int) := by rw [Jvm.Kit.i32_add] <;> rw [r19] <;> omega
                    refine w_aload X hx (dq hby d0_274) rfl rfl ?_
                    refine w_iload X hx (dq hby d0_276) rfl ?_
                    refine w_iloadN X hx (dq hby d0_278) rfl ?_
                    refine w_ldc X hx hZ hown (hw _ (List.mem_of_getElem? (i := 46) rfl)) (dq hby d0_279) ?_
                    refine w_iand X hx (dq hby d0_281) ?_
                    refine w_iload X hx (dq hby d0_282) rfl ?_
                    refine w_irem X hx (dq hby d0_284) (nz19) ?_
                    refine w_iadd X hx (dq hby d0_285) ?_
                    refine w_baload X hx hZ eT A_btX (i := (B + pk)) (s19) (by omega) (z := (0 : Int32)) (rfl) (dq hby d0_286) ?_
                    refine w_if_eq X hx (dj hby d0_287) (fun hc287 => ?_) (fun hc287 => (?_ : False).elim)
                    rotate_left
                    · exact hc287 rfl
                    refine w_iconst X hx (dq hby d0_292) (z := 1) rfl ?_
                    refine w_retN X hx hret (by simp) hlk (dq hby d0_293) (by decide) (by decide) ?_
                    exact ⟨by simp [nar], N⟩
                · refine w_iload X hx (dq hby d0_209) rfl ?_
                  refine w_goto X hx (dj hby d0_211) ?_
                  refine w_istore X hx (dq hby d0_222) (z := v4_4) rfl (Ls' := #[.val (.int i0), .val (.int i1), .val (.int i2), .val (.int i3), .val (.int v4_4), .val (.int v5_12), .val (.ref b15), .val (.ref b20), .val (.ref b26), .val (.ref b32), .val (.ref b38), .val (.ref b44), .val (.ref b48), .val (.int (0 : Int32)), .val (.int v4_4), .val (.ref b48), .val (.ref btX), .val (.int v17_202), .val (.int v4_4), .unset]) rfl ?_
                  have q17 := congrArg Int32.toInt hc206
                  have e18 : v4_4.toInt = ((B + pad : Nat) : Int) := by rw [show (0 : Int32).toInt = 0 from rfl] at q17; omega
                  refine w_aload X hx (dq hby d0_224) rfl rfl ?_
                  refine w_aload X hx (dq hby d0_226) rfl rfl ?_
                  refine w_acmpE X hx (dj hby d0_228) ?_
                  refine w_aload X hx (dq hby d0_233) rfl rfl ?_
                  refine w_arrlen X hx hZ eT A_btX (z := v4_4) (e18) (dq hby d0_235) ?_
                  refine w_iload X hx (dq hby d0_236) rfl ?_
                  refine w_icmp_eq X hx (dj hby d0_238) (fun hc238 => ?_) (fun hc238 => (?_ : False).elim)
                  rotate_left
                  · exact hc238 rfl
                  refine w_iload X hx (dq hby d0_243) rfl ?_
                  refine w_if_eq X hx (dj hby d0_245) (fun hc245 => ?_) (fun hc245 => (?_ : False).elim)
                  rotate_left
                  · exact absurd hc245 (by decide)
                  refine w_iload X hx (dq hby d0_262) rfl ?_
                  refine w_iload X hx (dq hby d0_264) rfl ?_
                  refine w_isub X hx (dq hby d0_266) ?_
                  obtain ⟨v19_267, hv19_267⟩ : ∃ z : Int32, z = (v4_4 - v4_4) := ⟨_, rfl⟩
                  refine w_istore X hx (dq hby d0_267) (z := v19_267) hv19_267 (Ls' := #[.val (.int i0), .val (.int i1), .val (.int i2), .val (.int i3), .val (.int v4_4), .val (.int v5_12), .val (.ref b15), .val (.ref b20), .val (.ref b26), .val (.ref b32), .val (.ref b38), .val (.ref b44), .val (.ref b48), .val (.int (0 : Int32)), .val (.int v4_4), .val (.ref b48), .val (.ref btX), .val (.int v17_202), .val (.int v4_4), .val (.int v19_267)]) rfl ?_
                  have e19 : v19_267.toInt = (pad : Int) := by rw [hv19_267, Jvm.Kit.i32_sub] <;> omega
                  refine w_iload X hx (dq hby d0_269) rfl ?_
                  refine w_if_le X hx (dj hby d0_271) (fun hc271 => ?_) (fun hc271 => ?_)
                  · refine w_iconst X hx (dq hby d0_292) (z := 1) rfl ?_
                    refine w_retN X hx hret (by simp) hlk (dq hby d0_293) (by decide) (by decide) ?_
                    exact ⟨by simp [nar], N⟩
                  · have m31 : (i3 &&& 2147483647).toInt = i3.toInt % 2 ^ 31 := Jvm.Kit.i32_mask i3 2147483647 (by decide) (by decide)
                    have nz19 : v19_267 ≠ 0 := fun q => by have := congrArg Int32.toInt q; rw [show (0 : Int32).toInt = 0 from rfl] at this; omega
                    have r19 : ((i3 &&& 2147483647) % v19_267).toInt = i3.toInt % 2 ^ 31 % pad := by rw [Jvm.Kit.i32_rem_nonneg (by omega), m31, e19]
                    have r19a := Int.emod_nonneg (i3.toInt % 2 ^ 31) (show (pad : Int) ≠ 0 by omega)
                    have r19b := Int.emod_lt_of_pos (i3.toInt % 2 ^ 31) (show (0 : Int) < pad by omega)
                    obtain ⟨pk, hpk⟩ : ∃ k : Nat, k = (i3.toInt % 2 ^ 31 % pad).toNat := ⟨_, rfl⟩
                    have s19 : (v4_4 + (i3 &&& 2147483647) % v19_267).toInt = ((B + pk : Nat) : Int) := by rw [Jvm.Kit.i32_add] <;> rw [r19] <;> omega
                    refine w_aload X hx (dq hby d0_274) rfl rfl ?_
                    refine w_iload X hx (dq hby d0_276) rfl ?_
                    refine w_iloadN X hx (dq hby d0_278) rfl ?_
                    refine w_ldc X hx hZ hown (hw _ (List.mem_of_getElem? (i := 46) rfl)) (dq hby d0_279) ?_
                    refine w_iand X hx (dq hby d0_281) ?_
                    refine w_iload X hx (dq hby d0_282) rfl ?_
                    refine w_irem X hx (dq hby d0_284) (nz19) ?_
                    refine w_iadd X hx (dq hby d0_285) ?_
                    refine w_baload X hx hZ eT A_btX (i := (B + pk)) (s19) (by omega) (z := (0 : Int32)) (rfl) (dq hby d0_286) ?_
                    refine w_if_eq X hx (dj hby d0_287) (fun hc287 => ?_) (fun hc287 => (?_ : False).elim)
                    rotate_left
                    · exact hc287 rfl
                    refine w_iconst X hx (dq hby d0_292) (z := 1) rfl ?_
                    refine w_retN X hx hret (by simp) hlk (dq hby d0_293) (by decide) (by decide) ?_
                    exact ⟨by simp [nar], N⟩
              · refine w_iconst X hx (dq hby d0_158) (z := 1) rfl ?_
                refine w_goto X hx (dj hby d0_159) ?_
                refine w_istore X hx (dq hby d0_163) (z := (1 : Int32)) rfl (Ls' := #[.val (.int i0), .val (.int i1), .val (.int i2), .val (.int i3), .val (.int v4_4), .val (.int v5_12), .val (.ref b15), .val (.ref b20), .val (.ref b26), .val (.ref b32), .val (.ref b38), .val (.ref b44), .val (.ref b48), .val (.int (1 : Int32)), .unset, .unset, .unset, .unset, .unset, .unset]) rfl ?_
                have b0 := (own_bit v4_4 1 0 (by decide)).2 hc155
                rw [hBu] at b0
                have hcJ1 := own_j1 hcJ (own_l6 B hB7) hB7
                have eL := own_i1 hB7 b0
                refine w_iload X hx (dq hby d0_165) rfl ?_
                refine w_if_eq X hx (dj hby d0_167) (fun hc167 => (?_ : False).elim) (fun hc167 => ?_)
                · exact absurd hc167 (by decide)
                refine w_aload X hx (dq hby d0_170) rfl rfl ?_
                refine w_iloadN X hx (dq hby d0_172) rfl ?_
                refine w_callV X hx hZ eT hml (by rfl) hown (hw _ (List.mem_of_getElem? (i := 50) rfl)) (hw _ (List.mem_of_getElem? (i := 51) rfl)) (hw _ (List.mem_of_getElem? (i := 53) rfl)) (hw _ (List.mem_of_getElem? (i := 52) rfl)) (hw _ (List.mem_of_getElem? (i := 3) rfl)) (hw _ (List.mem_of_getElem? (i := 54) rfl)) (by decide) (u8G l Z a0 hw b48 i2 n0 arJ6 lvJ6 capJ (B % 128 - B % 2) (fun _ => (0 : Int32)) hJ6 Z0 g_b48 g_arJ6 ne_b48_arJ6 E_b48 F_bytes_b48 F_length_b48 A_arJ6 E_arJ6 hlvJ6 hcJ1.1 (own_j2 hcJ1) byt0 (zro0 _) (own_j3 hcJ1 eL hB7)) E_b48 (dq hby d0_173) pd_4 (argsL := [(.int i2)]) (rest := []) rfl rfl rfl (W := 0) rfl (by decide) (by decide) (by decide) (by decide) fun v T L X hQ => ?_
                generalize eT : T.heap = h11 at hQ
                obtain ⟨rfl, N', K', E_b48, arU, capU, lvU, g_arU, ne_b48_arU, qqU, hlvU, F_bytes_b48, F_length_b48, A_arU, E_arU, hcapU⟩ := hQ
                replace Z0 := Nat.le_trans Z0 K'.1
                replace N := Fr.app N N'
                have hcU := own_u hcJ1 eL hB7 hcapU
                refine w_pop X hx (dq hby d0_176) rfl ?_
                refine w_iload X hx (dq hby d0_177) rfl ?_
                refine w_istore X hx (dq hby d0_179) (z := v4_4) rfl (Ls' := #[.val (.int i0), .val (.int i1), .val (.int i2), .val (.int i3), .val (.int v4_4), .val (.int v5_12), .val (.ref b15), .val (.ref b20), .val (.ref b26), .val (.ref b32), .val (.ref b38), .val (.ref b44), .val (.ref b48), .val (.int (1 : Int32)), .val (.int v4_4), .unset, .unset, .unset, .unset, .unset]) rfl ?_
                obtain ⟨pad, hpad0⟩ : ∃ p : Nat, p = ((-(B : Int)) % 2 ^ e_).toNat := ⟨_, rfl⟩
                have hpad : (pad : Int) = (-(B : Int)) % 2 ^ e_ := by have := Int.emod_nonneg (-(B : Int)) (show (2 : Int) ^ e_ ≠ 0 from Int.pow_ne_zero (by decide)); omega
                obtain ⟨p1, p2, p3, p4, p5, p6, p7, p8⟩ := own_pad he8 hB7 hpad
                rw [eL] at hlvU
                have hYU : Byt (upd (fun _ => (0 : Int32)) (B % 128 - B % 2) i2.toInt8.toInt32) := byt_upd byt0 _ _
                have hzU : Zro B (upd (fun _ => (0 : Int32)) (B % 128 - B % 2) i2.toInt8.toInt32) := by have z := zro_upd (n := (B % 128 - B % 2)) (zro0 _) i2.toInt8.toInt32; rw [eL] at z; exact z
                refine w_aload X hx (dq hby d0_181) rfl rfl ?_
                refine w_iload X hx (dq hby d0_183) rfl ?_
                refine w_callV X hx hZ eT hml (by rfl) hown (hw _ (List.mem_of_getElem? (i := 12) rfl)) (hw _ (List.mem_of_getElem? (i := 13) rfl)) (hw _ (List.mem_of_getElem? (i := 15) rfl)) (hw _ (List.mem_of_getElem? (i := 14) rfl)) (hw _ (List.mem_of_getElem? (i := 3) rfl)) (hw _ (List.mem_of_getElem? (i := 16) rfl)) (by decide) (alignG l Z a0 hw b48 v5_12 n0 arU lvU capU B (upd (fun _ => (0 : Int32)) (B % 128 - B % 2) i2.toInt8.toInt32) e_ pad h11 Z0 g_b48 g_arU ne_b48_arU E_b48 F_bytes_b48 F_length_b48 A_arU E_arU hlvU hcU.1 (own_j2 hcU) hYU hzU (Nat.lt_trans he8 (by decide)) (by rw [hv5_12]; exact hmk) hpad (Nat.le_trans (Nat.le_add_left _ _) (Nat.le_trans p2 (by decide))) (own_al hcU p2)) E_b48 (dq hby d0_185) pd_4 (argsL := [(.int v5_12)]) (rest := []) rfl rfl rfl (W := 0) rfl (by decide) (by decide) (by decide) (by decide) fun v T L X hQ => ?_
                generalize eT : T.heap = h12 at hQ
                obtain ⟨rfl, N', K', E_b48, arA, capA, lvA, g_arA, ne_b48_arA, qqA, hlvA, F_bytes_b48, F_length_b48, A_arA, E_arA, hcapA⟩ := hQ
                replace Z0 := Nat.le_trans Z0 K'.1
                replace N := Fr.app N N'
                have hcA := own_ac hcU p2 hcapA
                refine w_astore X hx (dq hby d0_188) rfl (Ls' := #[.val (.int i0), .val (.int i1), .val (.int i2), .val (.int i3), .val (.int v4_4), .val (.int v5_12), .val (.ref b15), .val (.ref b20), .val (.ref b26), .val (.ref b32), .val (.ref b38), .val (.ref b44), .val (.ref b48), .val (.int (1 : Int32)), .val (.int v4_4), .val (.ref b48), .unset, .unset, .unset, .unset]) rfl ?_
                refine w_aload X hx (dq hby d0_190) rfl rfl ?_
                refine w_callV X hx hZ eT hml (by rfl) hown (hw _ (List.mem_of_getElem? (i := 23) rfl)) (hw _ (List.mem_of_getElem? (i := 24) rfl)) (hw _ (List.mem_of_getElem? (i := 26) rfl)) (hw _ (List.mem_of_getElem? (i := 25) rfl)) (hw _ (List.mem_of_getElem? (i := 3) rfl)) (hw _ (List.mem_of_getElem? (i := 27) rfl)) (by decide) (ct5 l Z a0 hw b48 n0 arA lvA capA (B + pad) (upd (fun _ => (0 : Int32)) (B % 128 - B % 2) i2.toInt8.toInt32) h12 Z0 g_b48 g_arA ne_b48_arA E_b48 F_bytes_b48 F_length_b48 A_arA E_arA hlvA hcA.1 (own_j2 hcA) hYU (zro_mono hzU (Nat.le_add_right _ _)) p2) E_b48 (dq hby d0_192) pd_5 (argsL := []) (rest := []) rfl rfl rfl (W := 0) rfl (by decide) (by decide) (by decide) (by decide) fun v T L X hQ => ?_
                have lt_arA := A_arA.lt
                have lt_b48 := E_b48.lt
                generalize eT : T.heap = h13 at hQ
                obtain ⟨btX, rfl, N', K', ge_btX', A_btX⟩ := hQ
                have g_btX : n0 ≤ btX := Nat.le_trans Z0 ge_btX'
                have ne_arA_btX : arA ≠ btX := Nat.ne_of_lt (Nat.lt_of_lt_of_le lt_arA ge_btX')
                have ne_b48_btX : b48 ≠ btX := Nat.ne_of_lt (Nat.lt_of_lt_of_le lt_b48 ge_btX')
                replace F_bytes_b48 := Fld.keep F_bytes_b48 K' nin0
                replace F_length_b48 := Fld.keep F_length_b48 K' nin0
                replace E_b48 := Exa.keep E_b48 K'
                replace E_arA := Exa.keep E_arA K'
                replace A_arA := AV.keep A_arA K' nin0
                replace Z0 := Nat.le_trans Z0 K'.1
                replace N := Fr.app N N'
                refine w_astore X hx (dq hby d0_195) rfl (Ls' := #[.val (.int i0), .val (.int i1), .val (.int i2), .val (.int i3), .val (.int v4_4), .val (.int v5_12), .val (.ref b15), .val (.ref b20), .val (.ref b26), .val (.ref b32), .val (.ref b38), .val (.ref b44), .val (.ref b48), .val (.int (1 : Int32)), .val (.int v4_4), .val (.ref b48), .val (.ref btX), .unset, .unset, .unset]) rfl ?_
                have hv5 : v5_12.toInt = ((2 ^ e_ : Nat) : Int) := by rw [hv5_12]; exact hsz
                have nz5 : v5_12 ≠ 0 := fun q => by have := congrArg Int32.toInt q; rw [show (0 : Int32).toInt = 0 from rfl] at this; omega
                refine w_iload X hx (dq hby d0_197) rfl ?_
                refine w_iload X hx (dq hby d0_199) rfl ?_
                refine w_irem X hx (dq hby d0_201) (nz5) ?_
                obtain ⟨v17_202, hv17_202⟩ : ∃ z : Int32, z = (v4_4 % v5_12) := ⟨_, rfl⟩
                refine w_istore X hx (dq hby d0_202) (z := v17_202) hv17_202 (Ls' := #[.val (.int i0), .val (.int i1), .val (.int i2), .val (.int i3), .val (.int v4_4), .val (.int v5_12), .val (.ref b15), .val (.ref b20), .val (.ref b26), .val (.ref b32), .val (.ref b38), .val (.ref b44), .val (.ref b48), .val (.int (1 : Int32)), .val (.int v4_4), .val (.ref b48), .val (.ref btX), .val (.int v17_202), .unset, .unset]) rfl ?_
                have r17 : v17_202.toInt = ((B % 2 ^ e_ : Nat) : Int) := by rw [hv17_202, Jvm.Kit.i32_rem_nonneg (by omega), hB, hv5]; rfl
                refine w_iload X hx (dq hby d0_204) rfl ?_
                refine w_if_ne X hx (dj hby d0_206) (fun hc206 => ?_) (fun hc206 => ?_)
                · refine w_iload X hx (dq hby d0_214) rfl ?_
                  refine w_iload X hx (dq hby d0_216) rfl ?_
                  refine w_isub X hx (dq hby d0_218) ?_
                  refine w_iload X hx (dq hby d0_219) rfl ?_
                  refine w_iadd X hx (dq hby d0_221) ?_
                  obtain ⟨v18_222, hv18_222⟩ : ∃ z : Int32, z = ((v4_4 - v17_202) + v5_12) := ⟨_, rfl⟩
                  refine w_istore X hx (dq hby d0_222) (z := v18_222) hv18_222 (Ls' := #[.val (.int i0), .val (.int i1), .val (.int i2), .val (.int i3), .val (.int v4_4), .val (.int v5_12), .val (.ref b15), .val (.ref b20), .val (.ref b26), .val (.ref b32), .val (.ref b38), .val (.ref b44), .val (.ref b48), .val (.int (1 : Int32)), .val (.int v4_4), .val (.ref b48), .val (.ref btX), .val (.int v17_202), .val (.int v18_222), .unset]) rfl ?_
                  have q17 := i32_ne hc206
                  have a18 : (v4_4 - v17_202).toInt = (B : Int) - (B % 2 ^ e_ : Nat) := by rw [Jvm.Kit.i32_sub] <;> omega
                  have e18 : v18_222.toInt = ((B + pad : Nat) : Int) := by rw [hv18_222, Jvm.Kit.i32_add] <;> rw [a18] <;> (rw [show (0 : Int32).toInt = 0 from rfl] at q17) <;> omega
                  refine w_aload X hx (dq hby d0_224) rfl rfl ?_
                  refine w_aload X hx (dq hby d0_226) rfl rfl ?_
                  refine w_acmpE X hx (dj hby d0_228) ?_
                  refine w_aload X hx (dq hby d0_233) rfl rfl ?_
                  refine w_arrlen X hx hZ eT A_btX (z := v18_222) (e18) (dq hby d0_235) ?_
                  refine w_iload X hx (dq hby d0_236) rfl ?_
                  refine w_icmp_eq X hx (dj hby d0_238) (fun hc238 => ?_) (fun hc238 => (?_ : False).elim)
                  rotate_left
                  · exact hc238 rfl
                  refine w_iload X hx (dq hby d0_243) rfl ?_
                  refine w_if_eq X hx (dj hby d0_245) (fun hc245 => (?_ : False).elim) (fun hc245 => ?_)
                  · exact absurd hc245 (by decide)
                  have sB : (v4_4 - 1).toInt = ((B - 1 : Nat) : Int) := by have l1 : (1 : Int32).toInt = 1 := rfl; rw [Jvm.Kit.i32_sub] <;> rw [l1] <;> omega
                  refine w_aload X hx (dq hby d0_248) rfl rfl ?_
                  refine w_iload X hx (dq hby d0_250) rfl ?_
                  refine w_iconst X hx (dq hby d0_252) (z := 1) rfl ?_
                  refine w_isub X hx (dq hby d0_253) ?_
                  refine w_baload X hx hZ eT A_btX (i := (B - 1)) (sB) (by omega) (z := (i2.toInt8.toInt32)) ((congrArg _ (show B - 1 = (B % 128 - B % 2) by omega)).trans (upd_at _ _ _)) (dq hby d0_254) ?_
                  refine w_iloadN X hx (dq hby d0_255) rfl ?_
                  refine w_i2b X hx (dq hby d0_256) ?_
                  refine w_icmp_eq X hx (dj hby d0_257) (fun hc257 => ?_) (fun hc257 => (?_ : False).elim)
                  rotate_left
                  · exact hc257 rfl
                  refine w_iload X hx (dq hby d0_262) rfl ?_
                  refine w_iload X hx (dq hby d0_264) rfl ?_
                  refine w_isub X hx (dq hby d0_266) ?_
                  obtain ⟨v19_267, hv19_267⟩ : ∃ z : Int32, z = (v18_222 - v4_4) := ⟨_, rfl⟩
                  refine w_istore X hx (dq hby d0_267) (z := v19_267) hv19_267 (Ls' := #[.val (.int i0), .val (.int i1), .val (.int i2), .val (.int i3), .val (.int v4_4), .val (.int v5_12), .val (.ref b15), .val (.ref b20), .val (.ref b26), .val (.ref b32), .val (.ref b38), .val (.ref b44), .val (.ref b48), .val (.int (1 : Int32)), .val (.int v4_4), .val (.ref b48), .val (.ref btX), .val (.int v17_202), .val (.int v18_222), .val (.int v19_267)]) rfl ?_
                  have e19 : v19_267.toInt = (pad : Int) := by rw [hv19_267, Jvm.Kit.i32_sub] <;> omega
                  refine w_iload X hx (dq hby d0_269) rfl ?_
                  refine w_if_le X hx (dj hby d0_271) (fun hc271 => ?_) (fun hc271 => ?_)
                  · refine w_iconst X hx (dq hby d0_292) (z := 1) rfl ?_
                    refine w_retN X hx hret (by simp) hlk (dq hby d0_293) (by decide) (by decide) ?_
                    exact ⟨by simp [nar], N⟩
                  · have m31 : (i3 &&& 2147483647).toInt = i3.toInt % 2 ^ 31 := Jvm.Kit.i32_mask i3 2147483647 (by decide) (by decide)
                    have nz19 : v19_267 ≠ 0 := fun q => by have := congrArg Int32.toInt q; rw [show (0 : Int32).toInt = 0 from rfl] at this; omega
                    have r19 : ((i3 &&& 2147483647) % v19_267).toInt = i3.toInt % 2 ^ 31 % pad := by rw [Jvm.Kit.i32_rem_nonneg (by omega), m31, e19]
                    have r19a := Int.emod_nonneg (i3.toInt % 2 ^ 31) (show (pad : Int) ≠ 0 by omega)
                    have r19b := Int.emod_lt_of_pos (i3.toInt % 2 ^ 31) (show (0 : Int) < pad by omega)
                    obtain ⟨pk, hpk⟩ : ∃ k : Nat, k = (i3.toInt % 2 ^ 31 % pad).toNat := ⟨_, rfl⟩
                    have s19 : (v4_4 + (i3 &&& 2147483647) % v19_267).toInt = ((B + pk : Nat) : Int) := by rw [Jvm.Kit.i32_add] <;> rw [r19] <;> omega
                    refine w_aload X hx (dq hby d0_274) rfl rfl ?_
                    refine w_iload X hx (dq hby d0_276) rfl ?_
                    refine w_iloadN X hx (dq hby d0_278) rfl ?_
                    refine w_ldc X hx hZ hown (hw _ (List.mem_of_getElem? (i := 46) rfl)) (dq hby d0_279) ?_
                    refine w_iand X hx (dq hby d0_281) ?_
                    refine w_iload X hx (dq hby d0_282) rfl ?_
                    refine w_irem X hx (dq hby d0_284) (nz19) ?_
                    refine w_iadd X hx (dq hby d0_285) ?_
                    refine w_baload X hx hZ eT A_btX (i := (B + pk)) (s19) (by omega) (z := (0 : Int32)) (hzU _ (by omega)) (dq hby d0_286) ?_
                    refine w_if_eq X hx (dj hby d0_287) (fun hc287 => ?_) (fun hc287 => (?_ : False).elim)
                    rotate_left
                    · exact hc287 rfl
                    refine w_iconst X hx (dq hby d0_292) (z := 1) rfl ?_
                    refine w_retN X hx hret (by simp) hlk (dq hby d0_293) (by decide) (by decide) ?_
                    exact ⟨by simp [nar], N⟩
                · refine w_iload X hx (dq hby d0_209) rfl ?_
                  refine w_goto X hx (dj hby d0_211) ?_
                  refine w_istore X hx (dq hby d0_222) (z := v4_4) rfl (Ls' := #[.val (.int i0), .val (.int i1), .val (.int i2), .val (.int i3), .val (.int v4_4), .val (.int v5_12), .val (.ref b15), .val (.ref b20), .val (.ref b26), .val (.ref b32), .val (.ref b38), .val (.ref b44), .val (.ref b48), .val (.int (1 : Int32)), .val (.int v4_4), .val (.ref b48), .val (.ref btX), .val (.int v17_202), .val (.int v4_4), .unset]) rfl ?_
                  have q17 := congrArg Int32.toInt hc206
                  have e18 : v4_4.toInt = ((B + pad : Nat) : Int) := by rw [show (0 : Int32).toInt = 0 from rfl] at q17; omega
                  refine w_aload X hx (dq hby d0_224) rfl rfl ?_
                  refine w_aload X hx (dq hby d0_226) rfl rfl ?_
                  refine w_acmpE X hx (dj hby d0_228) ?_
                  refine w_aload X hx (dq hby d0_233) rfl rfl ?_
                  refine w_arrlen X hx hZ eT A_btX (z := v4_4) (e18) (dq hby d0_235) ?_
                  refine w_iload X hx (dq hby d0_236) rfl ?_
                  refine w_icmp_eq X hx (dj hby d0_238) (fun hc238 => ?_) (fun hc238 => (?_ : False).elim)
                  rotate_left
                  · exact hc238 rfl
                  refine w_iload X hx (dq hby d0_243) rfl ?_
                  refine w_if_eq X hx (dj hby d0_245) (fun hc245 => (?_ : False).elim) (fun hc245 => ?_)
                  · exact absurd hc245 (by decide)
                  have sB : (v4_4 - 1).toInt = ((B - 1 : Nat) : Int) := by have l1 : (1 : Int32).toInt = 1 := rfl; rw [Jvm.Kit.i32_sub] <;> rw [l1] <;> omega
                  refine w_aload X hx (dq hby d0_248) rfl rfl ?_
                  refine w_iload X hx (dq hby d0_250) rfl ?_
                  refine w_iconst X hx (dq hby d0_252) (z := 1) rfl ?_
                  refine w_isub X hx (dq hby d0_253) ?_
                  refine w_baload X hx hZ eT A_btX (i := (B - 1)) (sB) (by omega) (z := (i2.toInt8.toInt32)) ((congrArg _ (show B - 1 = (B % 128 - B % 2) by omega)).trans (upd_at _ _ _)) (dq hby d0_254) ?_
                  refine w_iloadN X hx (dq hby d0_255) rfl ?_
                  refine w_i2b X hx (dq hby d0_256) ?_
                  refine w_icmp_eq X hx (dj hby d0_257) (fun hc257 => ?_) (fun hc257 => (?_ : False).elim)
                  rotate_left
                  · exact hc257 rfl
                  refine w_iload X hx (dq hby d0_262) rfl ?_
                  refine w_iload X hx (dq hby d0_264) rfl ?_
                  refine w_isub X hx (dq hby d0_266) ?_
                  obtain ⟨v19_267, hv19_267⟩ : ∃ z : Int32, z = (v4_4 - v4_4) := ⟨_, rfl⟩
                  refine w_istore X hx (dq hby d0_267) (z := v19_267) hv19_267 (Ls' := #[.val (.int i0), .val (.int i1), .val (.int i2), .val (.int i3), .val (.int v4_4), .val (.int v5_12), .val (.ref b15), .val (.ref b20), .val (.ref b26), .val (.ref b32), .val (.ref b38), .val (.ref b44), .val (.ref b48), .val (.int (1 : Int32)), .val (.int v4_4), .val (.ref b48), .val (.ref btX), .val (.int v17_202), .val (.int v4_4), .val (.int v19_267)]) rfl ?_
                  have e19 : v19_267.toInt = (pad : Int) := by rw [hv19_267, Jvm.Kit.i32_sub] <;> omega
                  refine w_iload X hx (dq hby d0_269) rfl ?_
                  refine w_if_le X hx (dj hby d0_271) (fun hc271 => ?_) (fun hc271 => ?_)
                  · refine w_iconst X hx (dq hby d0_292) (z := 1) rfl ?_
                    refine w_retN X hx hret (by simp) hlk (dq hby d0_293) (by decide) (by decide) ?_
                    exact ⟨by simp [nar], N⟩
                  · have m31 : (i3 &&& 2147483647).toInt = i3.toInt % 2 ^ 31 := Jvm.Kit.i32_mask i3 2147483647 (by decide) (by decide)
                    have nz19 : v19_267 ≠ 0 := fun q => by have := congrArg Int32.toInt q; rw [show (0 : Int32).toInt = 0 from rfl] at this; omega
                    have r19 : ((i3 &&& 2147483647) % v19_267).toInt = i3.toInt % 2 ^ 31 % pad := by rw [Jvm.Kit.i32_rem_nonneg (by omega), m31, e19]
                    have r19a := Int.emod_nonneg (i3.toInt % 2 ^ 31) (show (pad : Int) ≠ 0 by omega)
                    have r19b := Int.emod_lt_of_pos (i3.toInt % 2 ^ 31) (show (0 : Int) < pad by omega)
                    obtain ⟨pk, hpk⟩ : ∃ k : Nat, k = (i3.toInt % 2 ^ 31 % pad).toNat := ⟨_, rfl⟩
                    have s19 : (v4_4 + (i3 &&& 2147483647) % v19_267).toInt = ((B + pk : Nat) : Int) := by rw [Jvm.Kit.i32_add] <;> rw [r19] <;> omega
                    refine w_aload X hx (dq hby d0_274) rfl rfl ?_
                    refine w_iload X hx (dq hby d0_276) rfl ?_
                    refine w_iloadN X hx (dq hby d0_278) rfl ?_
                    refine w_ldc X hx hZ hown (hw _ (List.mem_of_getElem? (i := 46) rfl)) (dq hby d0_279) ?_
                    refine w_iand X hx (dq hby d0_281) ?_
                    refine w_iload X hx (dq hby d0_282) rfl ?_
                    refine w_irem X hx (dq hby d0_284) (nz19) ?_
                    refine w_iadd X hx (dq hby d0_285) ?_
                    refine w_baload X hx hZ eT A_btX (i := (B + pk)) (s19) (by omega) (z := (0 : Int32)) (hzU _ (by omega)) (dq hby d0_286) ?_
                    refine w_if_eq X hx (dj hby d0_287) (fun hc287 => ?_) (fun hc287 => (?_ : False).elim)
                    rotate_left
                    · exact hc287 rfl
                    refine w_iconst X hx (dq hby d0_292) (z := 1) rfl ?_
                    refine w_retN X hx hret (by simp) hlk (dq hby d0_293) (by decide) (by decide) ?_
                    exact ⟨by simp [nar], N⟩
            refine w_iload X hx (dq hby d0_135) rfl ?_
            refine w_bipush X hx (dq hby d0_137) (z := 64) rfl ?_
            refine w_iand X hx (dq hby d0_139) ?_
            refine w_if_eq X hx (dj hby d0_140) (fun hc140 => ?_) (fun hc140 => ?_)
            · have bt := (own_bit v4_4 64 6 (by decide)).1 hc140
              rw [hBu] at bt
              replace X := own_more X (by decide : 8 ≤ 9) (by decide : 192 ≤ 320)
              exact J151 T _ hJ5 arJ5 lvJ5 64 ⟨X, eT, Z0, N, g_arJ5, (by rw [own_a6 bt]; exact hlvJ5), ne_b48_arJ5, E_b48, F_bytes_b48, F_length_b48, A_arJ5, E_arJ5, (Or.inl ⟨rfl, by rw [own_a6 bt]; exact Nat.le_trans (own_c6 B) (by decide)⟩)⟩
            · refine w_aload X hx (dq hby d0_143) rfl rfl ?_
              refine w_aload X hx (dq hby d0_145) rfl rfl ?_
              have bt := (own_bit v4_4 64 6 (by decide)).2 hc140
              rw [hBu] at bt
              refine w_callV X hx hZ eT hml (by rfl) hown (hw _ (List.mem_of_getElem? (i := 40) rfl)) (hw _ (List.mem_of_getElem? (i := 41) rfl)) (hw _ (List.mem_of_getElem? (i := 43) rfl)) (hw _ (List.mem_of_getElem? (i := 42) rfl)) (hw _ (List.mem_of_getElem? (i := 3) rfl)) (hw _ (List.mem_of_getElem? (i := 44) rfl)) (by decide) (bytesG l Z a0 hw b48 b44 n0 arJ5 lvJ5 64 (B % 64 - B % 2) (fun _ => (0 : Int32)) 64 (fun _ => (0 : Int32)) hJ5 Z0 g_b48 g_arJ5 ne_b48_arJ5 E_b48 F_bytes_b48 F_length_b48 A_arJ5 E_arJ5 hlvJ5 (Nat.le_trans (own_c6 B) (by decide)) (by decide) byt0 (zro0 _) (Ne.symm ne_b44_b48) (Ne.symm ne_b44_arJ5) A_b44 byt0 (by decide) (own_f B)) E_b48 (dq hby d0_147) pd_6 (argsL := [(.ref b44)]) (rest := []) rfl rfl rfl (W := 0) rfl (by decide) (by decide) (by decide) (by decide) fun v T L X hQ => ?_
              have lt_b44 := A_b44.lt
              generalize eT : T.heap = h14 at hQ
              obtain ⟨rfl, N', K', E_b48, ark5, capk5, lvk5, g_ark5, ne_b48_ark5, qqk5, hlvk5, F_bytes_b48, F_length_b48, A_ark5, E_ark5, hcapk5⟩ := hQ
              have ne_b44_ark5 : b44 ≠ ark5 := ne_keep ne_b44_arJ5 lt_b44 qqk5
              replace A_b44 := AV.keep A_b44 K' (ninS ne_b44_b48 (ninS ne_b44_arJ5 nin0))
              replace Z0 := Nat.le_trans Z0 K'.1
              replace N := Fr.app N N'
              have hck := own_h hcapk5
              replace A_ark5 := A_ark5.congr (g := iF (fun _ => (0 : Int32))) fun j _ => congrArg Value.int (cpy0 _ _ _ _)
              refine w_pop X hx (dq hby d0_150) rfl ?_
              have bt := (own_bit v4_4 64 6 (by decide)).2 hc140
              rw [hBu] at bt
              exact J151 T _ h14 ark5 lvk5 capk5 ⟨X, eT, Z0, N, g_ark5, (by rw [own_b6 bt]; exact hlvk5), ne_b48_ark5, E_b48, F_bytes_b48, F_length_b48, A_ark5, E_ark5, (hck.imp (fun h => ⟨h.1, by rw [own_b6 bt]; exact h.2⟩) id)⟩
          refine w_iload X hx (dq hby d0_119) rfl ?_
          refine w_bipush X hx (dq hby d0_121) (z := 32) rfl ?_
          refine w_iand X hx (dq hby d0_123) ?_
          refine w_if_eq X hx (dj hby d0_124) (fun hc124 => ?_) (fun hc124 => ?_)
          · have bt := (own_bit v4_4 32 5 (by decide)).1 hc124
            rw [hBu] at bt
            exact J135 T _ hJ4 arJ4 lvJ4 ⟨X, eT, Z0, N, g_arJ4, (by rw [own_a5 bt]; exact hlvJ4), ne_b48_arJ4, E_b48, F_bytes_b48, F_length_b48, A_arJ4, E_arJ4, ne_b44_arJ4, A_b44⟩
          · refine w_aload X hx (dq hby d0_127) rfl rfl ?_
            refine w_aload X hx (dq hby d0_129) rfl rfl ?_
            have bt := (own_bit v4_4 32 5 (by decide)).2 hc124
            rw [hBu] at bt
            refine w_callV X hx hZ eT hml (by rfl) hown (hw _ (List.mem_of_getElem? (i := 40) rfl)) (hw _ (List.mem_of_getElem? (i := 41) rfl)) (hw _ (List.mem_of_getElem? (i := 43) rfl)) (hw _ (List.mem_of_getElem? (i := 42) rfl)) (hw _ (List.mem_of_getElem? (i := 3) rfl)) (hw _ (List.mem_of_getElem? (i := 44) rfl)) (by decide) (bytesN l Z a0 hw b48 b38 n0 arJ4 lvJ4 64 (B % 32 - B % 2) (fun _ => (0 : Int32)) 32 (fun _ => (0 : Int32)) hJ4 Z0 g_b48 g_arJ4 ne_b48_arJ4 E_b48 F_bytes_b48 F_length_b48 A_arJ4 E_arJ4 hlvJ4 (Nat.le_trans (own_c5 B) (by decide)) (by decide) byt0 (zro0 _) (Ne.symm ne_b38_b48) (Ne.symm ne_b38_arJ4) A_b38 byt0 (by decide) (own_e5 B)) E_b48 (dq hby d0_131) pd_6 (argsL := [(.ref b38)]) (rest := []) rfl rfl rfl (W := 0) rfl (by decide) (by decide) (by decide) (by decide) fun v T L X hQ => ?_
            have lt_b38 := A_b38.lt
            have lt_b44 := A_b44.lt
            generalize eT : T.heap = h15 at hQ
            obtain ⟨rfl, N', K', E_b48, ark4, capk4, lvk4, g_ark4, ne_b48_ark4, qqk4, hlvk4, F_bytes_b48, F_length_b48, A_ark4, E_ark4, hcapk4⟩ := hQ
            have ne_b38_ark4 : b38 ≠ ark4 := ne_keep ne_b38_arJ4 lt_b38 qqk4
            have ne_b44_ark4 : b44 ≠ ark4 := ne_keep ne_b44_arJ4 lt_b44 qqk4
            replace A_b38 := AV.keep A_b38 K' (ninS ne_b38_b48 (ninS ne_b38_arJ4 nin0))
            replace A_b44 := AV.keep A_b44 K' (ninS ne_b44_b48 (ninS ne_b44_arJ4 nin0))
            replace Z0 := Nat.le_trans Z0 K'.1
            replace N := Fr.app N N'
            obtain rfl : capk4 = 64 := by rw [hcapk4]; exact capf_f (own_e5 B)
            replace A_ark4 := A_ark4.congr (g := iF (fun _ => (0 : Int32))) fun j _ => congrArg Value.int (cpy0 _ _ _ _)
            refine w_pop X hx (dq hby d0_134) rfl ?_
            have bt := (own_bit v4_4 32 5 (by decide)).2 hc124
            rw [hBu] at bt
            exact J135 T _ h15 ark4 lvk4 ⟨X, eT, Z0, N, g_ark4, (by rw [own_b5 bt]; exact hlvk4), ne_b48_ark4, E_b48, F_bytes_b48, F_length_b48, A_ark4, E_ark4, ne_b44_ark4, A_b44⟩
        refine w_iload X hx (dq hby d0_103) rfl ?_
        refine w_bipush X hx (dq hby d0_105) (z := 16) rfl ?_
        refine w_iand X hx (dq hby d0_107) ?_
        refine w_if_eq X hx (dj hby d0_108) (fun hc108 => ?_) (fun hc108 => ?_)
        · have bt := (own_bit v4_4 16 4 (by decide)).1 hc108
          rw [hBu] at bt
          exact J119 T _ hJ3 arJ3 lvJ3 ⟨X, eT, Z0, N, g_arJ3, (by rw [own_a4 bt]; exact hlvJ3), ne_b48_arJ3, E_b48, F_bytes_b48, F_length_b48, A_arJ3, E_arJ3, ne_b38_arJ3, A_b38, ne_b44_arJ3, A_b44⟩
        · refine w_aload X hx (dq hby d0_111) rfl rfl ?_
          refine w_aload X hx (dq hby d0_113) rfl rfl ?_
          have bt := (own_bit v4_4 16 4 (by decide)).2 hc108
          rw [hBu] at bt
          refine w_callV X hx hZ eT hml (by rfl) hown (hw _ (List.mem_of_getElem? (i := 40) rfl)) (hw _ (List.mem_of_getElem? (i := 41) rfl)) (hw _ (List.mem_of_getElem? (i := 43) rfl)) (hw _ (List.mem_of_getElem? (i := 42) rfl)) (hw _ (List.mem_of_getElem? (i := 3) rfl)) (hw _ (List.mem_of_getElem? (i := 44) rfl)) (by decide) (bytesN l Z a0 hw b48 b32 n0 arJ3 lvJ3 64 (B % 16 - B % 2) (fun _ => (0 : Int32)) 16 (fun _ => (0 : Int32)) hJ3 Z0 g_b48 g_arJ3 ne_b48_arJ3 E_b48 F_bytes_b48 F_length_b48 A_arJ3 E_arJ3 hlvJ3 (Nat.le_trans (own_c4 B) (by decide)) (by decide) byt0 (zro0 _) (Ne.symm ne_b32_b48) (Ne.symm ne_b32_arJ3) A_b32 byt0 (by decide) (own_e4 B)) E_b48 (dq hby d0_115) pd_6 (argsL := [(.ref b32)]) (rest := []) rfl rfl rfl (W := 0) rfl (by decide) (by decide) (by decide) (by decide) fun v T L X hQ => ?_
          have lt_b32 := A_b32.lt
          have lt_b38 := A_b38.lt
          have lt_b44 := A_b44.lt
          generalize eT : T.heap = h16 at hQ
          obtain ⟨rfl, N', K', E_b48, ark3, capk3, lvk3, g_ark3, ne_b48_ark3, qqk3, hlvk3, F_bytes_b48, F_length_b48, A_ark3, E_ark3, hcapk3⟩ := hQ
          have ne_b32_ark3 : b32 ≠ ark3 := ne_keep ne_b32_arJ3 lt_b32 qqk3
          have ne_b38_ark3 : b38 ≠ ark3 := ne_keep ne_b38_arJ3 lt_b38 qqk3
          have ne_b44_ark3 : b44 ≠ ark3 := ne_keep ne_b44_arJ3 lt_b44 qqk3
          replace A_b32 := AV.keep A_b32 K' (ninS ne_b32_b48 (ninS ne_b32_arJ3 nin0))
          replace A_b38 := AV.keep A_b38 K' (ninS ne_b38_b48 (ninS ne_b38_arJ3 nin0))
          replace A_b44 := AV.keep A_b44 K' (ninS ne_b44_b48 (ninS ne_b44_arJ3 nin0))
          replace Z0 := Nat.le_trans Z0 K'.1
          replace N := Fr.app N N'
          obtain rfl : capk3 = 64 := by rw [hcapk3]; exact capf_f (own_e4 B)
          replace A_ark3 := A_ark3.congr (g := iF (fun _ => (0 : Int32))) fun j _ => congrArg Value.int (cpy0 _ _ _ _)
          refine w_pop X hx (dq hby d0_118) rfl ?_
          have bt := (own_bit v4_4 16 4 (by decide)).2 hc108
          rw [hBu] at bt
          exact J119 T _ h16 ark3 lvk3 ⟨X, eT, Z0, N, g_ark3, (by rw [own_b4 bt]; exact hlvk3), ne_b48_ark3, E_b48, F_bytes_b48, F_length_b48, A_ark3, E_ark3, ne_b38_ark3, A_b38, ne_b44_ark3, A_b44⟩
      refine w_iload X hx (dq hby d0_87) rfl ?_
      refine w_bipush X hx (dq hby d0_89) (z := 8) rfl ?_
      refine w_iand X hx (dq hby d0_91) ?_
      refine w_if_eq X hx (dj hby d0_92) (fun hc92 => ?_) (fun hc92 => ?_)
      · have bt := (own_bit v4_4 8 3 (by decide)).1 hc92
        rw [hBu] at bt
        exact J103 T _ hJ2 arJ2 lvJ2 ⟨X, eT, Z0, N, g_arJ2, (by rw [own_a3 bt]; exact hlvJ2), ne_b48_arJ2, E_b48, F_bytes_b48, F_length_b48, A_arJ2, E_arJ2, ne_b32_arJ2, A_b32, ne_b38_arJ2, A_b38, ne_b44_arJ2, A_b44⟩
      · refine w_aload X hx (dq hby d0_95) rfl rfl ?_
        refine w_aload X hx (dq hby d0_97) rfl rfl ?_
        have bt := (own_bit v4_4 8 3 (by decide)).2 hc92
        rw [hBu] at bt
        refine w_callV X hx hZ eT hml (by rfl) hown (hw _ (List.mem_of_getElem? (i := 40) rfl)) (hw _ (List.mem_of_getElem? (i := 41) rfl)) (hw _ (List.mem_of_getElem? (i := 43) rfl)) (hw _ (List.mem_of_getElem? (i := 42) rfl)) (hw _ (List.mem_of_getElem? (i := 3) rfl)) (hw _ (List.mem_of_getElem? (i := 44) rfl)) (by decide) (bytesN l Z a0 hw b48 b26 n0 arJ2 lvJ2 64 (B % 8 - B % 2) (fun _ => (0 : Int32)) 8 (fun _ => (0 : Int32)) hJ2 Z0 g_b48 g_arJ2 ne_b48_arJ2 E_b48 F_bytes_b48 F_length_b48 A_arJ2 E_arJ2 hlvJ2 (Nat.le_trans (own_c3 B) (by decide)) (by decide) byt0 (zro0 _) (Ne.symm ne_b26_b48) (Ne.symm ne_b26_arJ2) A_b26 byt0 (by decide) (own_e3 B)) E_b48 (dq hby d0_99) pd_6 (argsL := [(.ref b26)]) (rest := []) rfl rfl rfl (W := 0) rfl (by decide) (by decide) (by decide) (by decide) fun v T L X hQ => ?_
        have lt_b26 := A_b26.lt
        have lt_b32 := A_b32.lt
        have lt_b38 := A_b38.lt
        have lt_b44 := A_b44.lt
        generalize eT : T.heap = h17 at hQ
        obtain ⟨rfl, N', K', E_b48, ark2, capk2, lvk2, g_ark2, ne_b48_ark2, qqk2, hlvk2, F_bytes_b48, F_length_b48, A_ark2, E_ark2, hcapk2⟩ := hQ
        have ne_b26_ark2 : b26 ≠ ark2 := ne_keep ne_b26_arJ2 lt_b26 qqk2
        have ne_b32_ark2 : b32 ≠ ark2 := ne_keep ne_b32_arJ2 lt_b32 qqk2
        have ne_b38_ark2 : b38 ≠ ark2 := ne_keep ne_b38_arJ2 lt_b38 qqk2
        have ne_b44_ark2 : b44 ≠ ark2 := ne_keep ne_b44_arJ2 lt_b44 qqk2
        replace A_b26 := AV.keep A_b26 K' (ninS ne_b26_b48 (ninS ne_b26_arJ2 nin0))
        replace A_b32 := AV.keep A_b32 K' (ninS ne_b32_b48 (ninS ne_b32_arJ2 nin0))
        replace A_b38 := AV.keep A_b38 K' (ninS ne_b38_b48 (ninS ne_b38_arJ2 nin0))
        replace A_b44 := AV.keep A_b44 K' (ninS ne_b44_b48 (ninS ne_b44_arJ2 nin0))
        replace Z0 := Nat.le_trans Z0 K'.1
        replace N := Fr.app N N'
        obtain rfl : capk2 = 64 := by rw [hcapk2]; exact capf_f (own_e3 B)
        replace A_ark2 := A_ark2.congr (g := iF (fun _ => (0 : Int32))) fun j _ => congrArg Value.int (cpy0 _ _ _ _)
        refine w_pop X hx (dq hby d0_102) rfl ?_
        have bt := (own_bit v4_4 8 3 (by decide)).2 hc92
        rw [hBu] at bt
        exact J103 T _ h17 ark2 lvk2 ⟨X, eT, Z0, N, g_ark2, (by rw [own_b3 bt]; exact hlvk2), ne_b48_ark2, E_b48, F_bytes_b48, F_length_b48, A_ark2, E_ark2, ne_b32_ark2, A_b32, ne_b38_ark2, A_b38, ne_b44_ark2, A_b44⟩
    refine w_iload X hx (dq hby d0_72) rfl ?_
    refine w_iconst X hx (dq hby d0_74) (z := 4) rfl ?_
    refine w_iand X hx (dq hby d0_75) ?_
    refine w_if_eq X hx (dj hby d0_76) (fun hc76 => ?_) (fun hc76 => ?_)
    · have bt := (own_bit v4_4 4 2 (by decide)).1 hc76
      rw [hBu] at bt
      exact J87 T _ hJ1 arJ1 lvJ1 ⟨X, eT, Z0, N, g_arJ1, (by rw [own_a2 bt]; exact hlvJ1), ne_b48_arJ1, E_b48, F_bytes_b48, F_length_b48, A_arJ1, E_arJ1, ne_b26_arJ1, A_b26, ne_b32_arJ1, A_b32, ne_b38_arJ1, A_b38, ne_b44_arJ1, A_b44⟩
    · refine w_aload X hx (dq hby d0_79) rfl rfl ?_
      refine w_aload X hx (dq hby d0_81) rfl rfl ?_
      have bt := (own_bit v4_4 4 2 (by decide)).2 hc76
      rw [hBu] at bt
      refine w_callV X hx hZ eT hml (by rfl) hown (hw _ (List.mem_of_getElem? (i := 40) rfl)) (hw _ (List.mem_of_getElem? (i := 41) rfl)) (hw _ (List.mem_of_getElem? (i := 43) rfl)) (hw _ (List.mem_of_getElem? (i := 42) rfl)) (hw _ (List.mem_of_getElem? (i := 3) rfl)) (hw _ (List.mem_of_getElem? (i := 44) rfl)) (by decide) (bytesN l Z a0 hw b48 b20 n0 arJ1 lvJ1 64 (B % 4 - B % 2) (fun _ => (0 : Int32)) 4 (fun _ => (0 : Int32)) hJ1 Z0 g_b48 g_arJ1 ne_b48_arJ1 E_b48 F_bytes_b48 F_length_b48 A_arJ1 E_arJ1 hlvJ1 (Nat.le_trans (own_c2 B) (by decide)) (by decide) byt0 (zro0 _) (Ne.symm ne_b20_b48) (Ne.symm ne_b20_arJ1) A_b20 byt0 (by decide) (own_e2 B)) E_b48 (dq hby d0_83) pd_6 (argsL := [(.ref b20)]) (rest := []) rfl rfl rfl (W := 0) rfl (by decide) (by decide) (by decide) (by decide) fun v T L X hQ => ?_
      have lt_b20 := A_b20.lt
      have lt_b26 := A_b26.lt
      have lt_b32 := A_b32.lt
      have lt_b38 := A_b38.lt
      have lt_b44 := A_b44.lt
      generalize eT : T.heap = h18 at hQ
      obtain ⟨rfl, N', K', E_b48, ark1, capk1, lvk1, g_ark1, ne_b48_ark1, qqk1, hlvk1, F_bytes_b48, F_length_b48, A_ark1, E_ark1, hcapk1⟩ := hQ
      have ne_b20_ark1 : b20 ≠ ark1 := ne_keep ne_b20_arJ1 lt_b20 qqk1
      have ne_b26_ark1 : b26 ≠ ark1 := ne_keep ne_b26_arJ1 lt_b26 qqk1
      have ne_b32_ark1 : b32 ≠ ark1 := ne_keep ne_b32_arJ1 lt_b32 qqk1
      have ne_b38_ark1 : b38 ≠ ark1 := ne_keep ne_b38_arJ1 lt_b38 qqk1
      have ne_b44_ark1 : b44 ≠ ark1 := ne_keep ne_b44_arJ1 lt_b44 qqk1
      replace A_b20 := AV.keep A_b20 K' (ninS ne_b20_b48 (ninS ne_b20_arJ1 nin0))
      replace A_b26 := AV.keep A_b26 K' (ninS ne_b26_b48 (ninS ne_b26_arJ1 nin0))
      replace A_b32 := AV.keep A_b32 K' (ninS ne_b32_b48 (ninS ne_b32_arJ1 nin0))
      replace A_b38 := AV.keep A_b38 K' (ninS ne_b38_b48 (ninS ne_b38_arJ1 nin0))
      replace A_b44 := AV.keep A_b44 K' (ninS ne_b44_b48 (ninS ne_b44_arJ1 nin0))
      replace Z0 := Nat.le_trans Z0 K'.1
      replace N := Fr.app N N'
      obtain rfl : capk1 = 64 := by rw [hcapk1]; exact capf_f (own_e2 B)
      replace A_ark1 := A_ark1.congr (g := iF (fun _ => (0 : Int32))) fun j _ => congrArg Value.int (cpy0 _ _ _ _)
      refine w_pop X hx (dq hby d0_86) rfl ?_
      have bt := (own_bit v4_4 4 2 (by decide)).2 hc76
      rw [hBu] at bt
      exact J87 T _ h18 ark1 lvk1 ⟨X, eT, Z0, N, g_ark1, (by rw [own_b2 bt]; exact hlvk1), ne_b48_ark1, E_b48, F_bytes_b48, F_length_b48, A_ark1, E_ark1, ne_b26_ark1, A_b26, ne_b32_ark1, A_b32, ne_b38_ark1, A_b38, ne_b44_ark1, A_b44⟩
  refine w_iload X hx (dq hby d0_57) rfl ?_
  refine w_iconst X hx (dq hby d0_59) (z := 2) rfl ?_
  refine w_iand X hx (dq hby d0_60) ?_
  refine w_if_eq X hx (dj hby d0_61) (fun hc61 => ?_) (fun hc61 => ?_)
  · have bt := (own_bit v4_4 2 1 (by decide)).1 hc61
    rw [hBu] at bt
    exact J72 T _ h8 ar0 (0 : Int32) ⟨X, eT, Z0, N, g_ar0, (by rw [own_a1 bt]; exact (own_z B)), ne_b48_ar0, E_b48, F_bytes_b48, F_length_b48, A_ar0, E_ar0, ne_b20_ar0, A_b20, ne_b26_ar0, A_b26, ne_b32_ar0, A_b32, ne_b38_ar0, A_b38, ne_b44_ar0, A_b44⟩
  · refine w_aload X hx (dq hby d0_64) rfl rfl ?_
    refine w_aload X hx (dq hby d0_66) rfl rfl ?_
    have bt := (own_bit v4_4 2 1 (by decide)).2 hc61
    rw [hBu] at bt
    refine w_callV X hx hZ eT hml (by rfl) hown (hw _ (List.mem_of_getElem? (i := 40) rfl)) (hw _ (List.mem_of_getElem? (i := 41) rfl)) (hw _ (List.mem_of_getElem? (i := 43) rfl)) (hw _ (List.mem_of_getElem? (i := 42) rfl)) (hw _ (List.mem_of_getElem? (i := 3) rfl)) (hw _ (List.mem_of_getElem? (i := 44) rfl)) (by decide) (bytesN l Z a0 hw b48 b15 n0 ar0 (0 : Int32) 64 (B % 2 - B % 2) (fun _ => (0 : Int32)) 2 (fun _ => (0 : Int32)) h8 Z0 g_b48 g_ar0 ne_b48_ar0 E_b48 F_bytes_b48 F_length_b48 A_ar0 E_ar0 (own_z B) (Nat.le_trans (own_c1 B) (by decide)) (by decide) byt0 (zro0 _) (Ne.symm ne_b15_b48) (Ne.symm ne_b15_ar0) A_b15 byt0 (by decide) (own_e1 B)) E_b48 (dq hby d0_68) pd_6 (argsL := [(.ref b15)]) (rest := []) rfl rfl rfl (W := 0) rfl (by decide) (by decide) (by decide) (by decide) fun v T L X hQ => ?_
    have lt_b15 := A_b15.lt
    have lt_b20 := A_b20.lt
    have lt_b26 := A_b26.lt
    have lt_b32 := A_b32.lt
    have lt_b38 := A_b38.lt
    have lt_b44 := A_b44.lt
    generalize eT : T.heap = h19 at hQ
    obtain ⟨rfl, N', K', E_b48, ark0, capk0, lvk0, g_ark0, ne_b48_ark0, qqk0, hlvk0, F_bytes_b48, F_length_b48, A_ark0, E_ark0, hcapk0⟩ := hQ
    have ne_b15_ark0 : b15 ≠ ark0 := ne_keep ne_b15_ar0 lt_b15 qqk0
    have ne_b20_ark0 : b20 ≠ ark0 := ne_keep ne_b20_ar0 lt_b20 qqk0
    have ne_b26_ark0 : b26 ≠ ark0 := ne_keep ne_b26_ar0 lt_b26 qqk0
    have ne_b32_ark0 : b32 ≠ ark0 := ne_keep ne_b32_ar0 lt_b32 qqk0
    have ne_b38_ark0 : b38 ≠ ark0 := ne_keep ne_b38_ar0 lt_b38 qqk0
    have ne_b44_ark0 : b44 ≠ ark0 := ne_keep ne_b44_ar0 lt_b44 qqk0
    replace A_b15 := AV.keep A_b15 K' (ninS ne_b15_b48 (ninS ne_b15_ar0 nin0))
    replace A_b20 := AV.keep A_b20 K' (ninS ne_b20_b48 (ninS ne_b20_ar0 nin0))
    replace A_b26 := AV.keep A_b26 K' (ninS ne_b26_b48 (ninS ne_b26_ar0 nin0))
    replace A_b32 := AV.keep A_b32 K' (ninS ne_b32_b48 (ninS ne_b32_ar0 nin0))
    replace A_b38 := AV.keep A_b38 K' (ninS ne_b38_b48 (ninS ne_b38_ar0 nin0))
    replace A_b44 := AV.keep A_b44 K' (ninS ne_b44_b48 (ninS ne_b44_ar0 nin0))
    replace Z0 := Nat.le_trans Z0 K'.1
    replace N := Fr.app N N'
    obtain rfl : capk0 = 64 := by rw [hcapk0]; exact capf_f (own_e1 B)
    replace A_ark0 := A_ark0.congr (g := iF (fun _ => (0 : Int32))) fun j _ => congrArg Value.int (cpy0 _ _ _ _)
    refine w_pop X hx (dq hby d0_71) rfl ?_
    have bt := (own_bit v4_4 2 1 (by decide)).2 hc61
    rw [hBu] at bt
    exact J72 T _ h19 ark0 lvk0 ⟨X, eT, Z0, N, g_ark0, (by rw [own_b1 bt]; exact hlvk0), ne_b48_ark0, E_b48, F_bytes_b48, F_length_b48, A_ark0, E_ark0, ne_b20_ark0, A_b20, ne_b26_ark0, A_b26, ne_b32_ark0, A_b32, ne_b38_ark0, A_b38, ne_b44_ark0, A_b44⟩
set_option maxRecDepth 65536 in
set_option maxHeartbeats 40000000 in
theorem comes_1 {Post : Tables → Env → Array Value → State → Outcome → State → Prop} (hpost : ∀ tb e args s v u, (limb_1_1.after args s (.returned v) u = true ∧ limb_1_2.after args s (.returned v) u = true) → FrameEnd s (.returned v) u (Jvm.fieldLocs frame_1_writes args s ++ Jvm.arrayLocs frame_1_arrays args s ++ Jvm.staticLocs frame_1_statics s) 32 960 → Post tb e args s (.returned v) u) :
    ArmFor flags0 classFile x code maxLocals ret World_1 tables_1 room_1 Calls_1 rest_1 Pre_1 Post := by
  intro l hfl _ _ p e ha hc hk s m args below hf hA hF happ hP
  obtain ⟨hcalls, hrest, hpre⟩ := hP
  obtain ⟨-, -, -, hnamed, -, -, -, hat⟩ := (Spec.applies_iff hf).mp happ
  obtain ⟨hg, hn⟩ := and_e (Cond.before_iff.mp (show (Jvm.Cond.and given_1 narrow_1).before args s = true from hpre))
  obtain ⟨g0, k0⟩ := and_e hg
  obtain ⟨g1, k1⟩ := and_e k0
  obtain ⟨g2, k2⟩ := and_e k1
  obtain ⟨g3, k3⟩ := and_e k2
  obtain ⟨w0, w1, w2, w3, rfl⟩ : ∃ w0 w1 w2 w3 : Value, args = #[w0, w1, w2, w3] := by
    have hs : args.size = 4 := by simpa [Cond.value, given_1] using g0
    obtain ⟨L⟩ := args
    match L, hs with
    | [w0, w1, w2, w3], _ => exact ⟨w0, w1, w2, w3, rfl⟩
  have hw := fun d (hd : d ∈ tables_1) => atoms_spec (ws := Jvm.Cond.code x code maxLocals ret :: tables_1) hat d (List.mem_cons_of_mem _ hd)
  obtain ⟨i0, ei0⟩ := is_v g1
  obtain rfl : w0 = (.int i0) := Option.some.inj ei0
  obtain ⟨i1, ei1⟩ := is_v g2
  obtain rfl : w1 = (.int i1) := Option.some.inj ei1
  obtain ⟨i2, ei2⟩ := is_v g3
  obtain rfl : w2 = (.int i2) := Option.some.inj ei2
  obtain ⟨i3, ei3⟩ := is_v k3
  obtain rfl : w3 = (.int i3) := Option.some.inj ei3
  obtain ⟨n, o, h1, h2, h3, _, L, rfl, ⟨rfl, N⟩, hq⟩ := rm0 l s _ hw tables_1 i0 i1 i2 i3 s.heap s.heap.size (Nat.le_refl _) p e ha hc hk s m _ below hf ((Spec.applies_iff_loose hf).mp happ).1 ⟨rfl, State.Warmed39.refl s, rfl⟩ trivial
  exact ⟨n, _, h1, h2, h3, hpost _ _ _ _ _ _ ⟨Cond.after_iff.mpr rfl, Cond.after_iff.mpr (eq_i res_at (Term.int_eval (1)) rfl)⟩ ⟨hq.1, hq.2.1, hq.2.2.sift fun y hy => Or.inr (N y hy)⟩⟩
theorem main_1_1 : Claimed_1_1 := comes_1 fun _ _ _ _ _ _ h hF => ⟨h.1, hF⟩
theorem main_1_2 : Claimed_1_2 := comes_1 fun _ _ _ _ _ _ h hF => ⟨h.2, hF⟩

end Jvm.Pilot.@@N@@
namespace Jvm.Pilot.@@N@@
open Jvm Jvm.ClassFile Sem Op Lib Jvm.Free Jvm.Stand Jvm.Pilot.@@N@@.Jvm.D
/-! MADE BY PROGRAM (witnessworld.py) out of the Statement's table words and the real class files: 12 classes; the members and pool entries that the words name. The judged class is class 1, her method 1. -/
namespace start1
open Jvm.ClassFile
def u (s : String) : CpInfo := .utf8 (stringToUtf16 s)
/-- a pool by its gaps: so many unusable entries, then the entry; so many at the end -/
def gap : Nat → List CpInfo → List CpInfo
  | 0, r => r
  | n + 1, r => .unusable :: gap n r
def poolList (es : List (Nat × CpInfo)) (last : Nat) : List CpInfo := es.foldr (fun e r => gap e.1 (e.2 :: r)) (gap last [])
def pool (es : List (Nat × CpInfo)) (last : Nat) : Array CpInfo := ⟨poolList es last⟩
def fileOf (pool : Array CpInfo) (this : Nat) (attrs : Array Attribute := #[]) (ms : Array MethodInfo := #[]) (fl : Nat := 33) (sup : Nat := 0) (ifs : Array Nat := #[]) (fds : Array FieldInfo := #[]) : ClassFile where
  minorVersion := 0
  majorVersion := 65
  constantPool := pool
  accessFlags := fl
  thisClass := this
  superClass := sup
  interfaces := ifs
  fields := fds
  methods := ms
  attributes := attrs
def plain (name : String) (sup : Option ClassId) : Class where
  name := name
  kind := .ordinary
  loader := none
  accessFlags := 33
  super := sup
  interfaces := #[]
  cf := none
  fields := #[]
  methods := #[]
  instanceTypes := #[]
  staticTypes := #[]
  resolved := #[]
  callSites := []
  init := .initialized
  statics := none
  mirror := none

def pool0 : Array CpInfo := pool [(5, u "<init>"), (0, u "()V"), (1, .class_ 10), (1, u "java/lang/Object"), (85, u "clone"), (0, u "()Ljava/lang/Object;")] 26

def k0c0 : Code := { maxStack := 0, maxLocals := 1, code := object_method_1_code, exceptionTable := #[], attributes := #[] }
def k0m0 : Method := { name := "<init>", desc := "()V", sig := { parameters := [], returnType := none }, accessFlags := 1, code := some k0c0 }
def k0m1 : Method := { name := "clone", desc := "()Ljava/lang/Object;", sig := { parameters := [], returnType := some (.object "java/lang/Object") }, accessFlags := 260, code := none }
/-- java/lang/Object -/
def k0 : Class := { plain "java/lang/Object" none with
  accessFlags := 33
  interfaces := #[]
  cf := some (fileOf pool0 8 #[] #[{ accessFlags := 1, nameIndex := 5, descriptorIndex := 6, attributes := #[] }, { accessFlags := 260, nameIndex := 96, descriptorIndex := 97, attributes := #[] }] 33 0 #[] #[])
  fields := #[]
  methods := #[k0m0, k0m1]
  instanceTypes := #[]
  staticTypes := #[]
  resolved := Array.replicate 124 none
  statics := none }

def pool1 : Array CpInfo := pool [(2, .class_ 4), (0, .nameAndType 5 6), (0, u "java/lang/Object"), (0, u "<init>"), (0, u "()V"), (0, .class_ 8), (0, u "com/example/queue_directory/queuedirectory/rpc/NdrWriter"), (0, .methodref 7 3), (0, .methodref 7 11), (0, .nameAndType 12 13), (0, u "bytes"), (0, u "([B)Lcom/example/queue_directory/queuedirectory/rpc/NdrWriter;"), (0, .methodref 7 15), (0, .nameAndType 16 17), (0, u "u8"), (0, u "(I)Lcom/example/queue_directory/queuedirectory/rpc/NdrWriter;"), (0, .methodref 7 19), (0, .nameAndType 20 17), (0, u "align"), (0, .methodref 7 22), (0, .nameAndType 23 24), (0, u "toByteArray"), (0, u "()[B"), (0, .integer 2147483647), (0, .class_ 27), (0, u "com/example/queue_directory/queuedirectory/rpc/NdrWriterAlignPinLaw"), (2, u "law"), (0, u "(IIII)Z")] 5

def k1m0 : Method := { name := "<init>", desc := "()V", sig := { parameters := [], returnType := none }, accessFlags := 1, code := none }
def k1c1 : Code := { maxStack := 4, maxLocals := 20, code := code, exceptionTable := #[], attributes := #[] }
def k1m1 : Method := { name := "law", desc := "(IIII)Z", sig := { parameters := [.int, .int, .int, .int], returnType := some .boolean }, accessFlags := 9, code := some k1c1 }
/-- com/example/queue_directory/queuedirectory/rpc/NdrWriterAlignPinLaw -/
def k1 : Class := { plain "com/example/queue_directory/queuedirectory/rpc/NdrWriterAlignPinLaw" (some 0) with
  accessFlags := 49
  interfaces := #[]
  cf := some (fileOf pool1 26 #[] #[{ accessFlags := 1, nameIndex := 5, descriptorIndex := 6, attributes := #[] }, { accessFlags := 9, nameIndex := 30, descriptorIndex := 31, attributes := #[] }] 49 2 #[] #[])
  fields := #[]
  methods := #[k1m0, k1m1]
  instanceTypes := #[]
  staticTypes := #[]
  resolved := Array.replicate 37 none
  statics := none }

def pool2 : Array CpInfo := pool [(1, .methodref 2 3), (0, .class_ 4), (0, .nameAndType 5 6), (0, u "java/lang/Object"), (0, u "<init>"), (0, u "()V"), (0, .class_ 8), (0, u "com/example/queue_directory/queuedirectory/rpc/NdrWriter"), (0, .fieldref 7 10), (0, .nameAndType 11 12), (0, u "bytes"), (0, u "[B"), (2, .methodref 7 16), (0, .nameAndType 17 18), (0, u "room"), (0, u "(I)V"), (0, .fieldref 7 20), (0, .nameAndType 21 22), (0, u "length"), (0, u "I"), (4, u "align"), (0, u "(I)Lcom/example/queue_directory/queuedirectory/rpc/NdrWriter;"), (2, u "u8"), (17, .methodref 50 51), (0, .class_ 52), (0, .nameAndType 53 54), (0, u "java/lang/System"), (0, u "arraycopy"), (0, u "(Ljava/lang/Object;ILjava/lang/Object;II)V"), (0, .methodref 56 57), (0, .class_ 58), (0, .nameAndType 59 60), (0, u "java/util/Arrays"), (0, u "copyOf"), (0, u "([BI)[B"), (0, .methodref 62 63), (0, .class_ 64), (0, .nameAndType 65 66), (0, u "java/lang/Math"), (0, u "max"), (0, u "(II)I"), (0, u "FIRST_CAPACITY"), (7, u "([B)Lcom/example/queue_directory/queuedirectory/rpc/NdrWriter;"), (1, u "toByteArray"), (0, u "()[B")] 3

def k2c0 : Code := { maxStack := 2, maxLocals := 1, code := prog_57_method_1_code, exceptionTable := #[], attributes := #[] }
def k2m0 : Method := { name := "<init>", desc := "()V", sig := { parameters := [], returnType := none }, accessFlags := 1, code := some k2c0 }
def k2c1 : Code := { maxStack := 5, maxLocals := 2, code := prog_57_method_2_code, exceptionTable := #[], attributes := #[] }
def k2m1 : Method := { name := "u8", desc := "(I)Lcom/example/queue_directory/queuedirectory/rpc/NdrWriter;", sig := { parameters := [.int], returnType := some (.object "com/example/queue_directory/queuedirectory/rpc/NdrWriter") }, accessFlags := 1, code := some k2c1 }
def k2c2 : Code := { maxStack := 5, maxLocals := 2, code := prog_57_method_6_code, exceptionTable := #[], attributes := #[] }
def k2m2 : Method := { name := "bytes", desc := "([B)Lcom/example/queue_directory/queuedirectory/rpc/NdrWriter;", sig := { parameters := [(.array .byte)], returnType := some (.object "com/example/queue_directory/queuedirectory/rpc/NdrWriter") }, accessFlags := 1, code := some k2c2 }
def k2c3 : Code := { maxStack := 3, maxLocals := 3, code := prog_57_method_7_code, exceptionTable := #[], attributes := #[] }
def k2m3 : Method := { name := "align", desc := "(I)Lcom/example/queue_directory/queuedirectory/rpc/NdrWriter;", sig := { parameters := [.int], returnType := some (.object "com/example/queue_directory/queuedirectory/rpc/NdrWriter") }, accessFlags := 1, code := some k2c3 }
def k2c4 : Code := { maxStack := 2, maxLocals := 1, code := prog_57_method_9_code, exceptionTable := #[], attributes := #[] }
def k2m4 : Method := { name := "toByteArray", desc := "()[B", sig := { parameters := [], returnType := some (.array .byte) }, accessFlags := 1, code := some k2c4 }
def k2c5 : Code := { maxStack := 5, maxLocals := 2, code := prog_57_method_10_code, exceptionTable := #[], attributes := #[] }
def k2m5 : Method := { name := "room", desc := "(I)V", sig := { parameters := [.int], returnType := none }, accessFlags := 2, code := some k2c5 }
/-- com/example/queue_directory/queuedirectory/rpc/NdrWriter -/
def k2 : Class := { plain "com/example/queue_directory/queuedirectory/rpc/NdrWriter" (some 0) with
  accessFlags := 33
  interfaces := #[]
  cf := some (fileOf pool2 7 #[] #[{ accessFlags := 1, nameIndex := 5, descriptorIndex := 6, attributes := #[] }, { accessFlags := 1, nameIndex := 31, descriptorIndex := 28, attributes := #[] }, { accessFlags := 1, nameIndex := 11, descriptorIndex := 75, attributes := #[] }, { accessFlags := 1, nameIndex := 27, descriptorIndex := 28, attributes := #[] }, { accessFlags := 1, nameIndex := 77, descriptorIndex := 78, attributes := #[] }, { accessFlags := 2, nameIndex := 17, descriptorIndex := 18, attributes := #[] }] 33 2 #[] #[{ accessFlags := 26, nameIndex := 67, descriptorIndex := 22, attributes := #[] }, { accessFlags := 2, nameIndex := 11, descriptorIndex := 12, attributes := #[] }, { accessFlags := 2, nameIndex := 21, descriptorIndex := 22, attributes := #[] }])
  fields := #[{ name := "FIRST_CAPACITY", type := .int, accessFlags := 26, slot := 0, constantValue := 0 }, { name := "bytes", type := (.array .byte), accessFlags := 2, slot := 0, constantValue := 0 }, { name := "length", type := .int, accessFlags := 2, slot := 1, constantValue := 0 }]
  methods := #[k2m0, k2m1, k2m2, k2m3, k2m4, k2m5]
  instanceTypes := #[(.array .byte), .int]
  staticTypes := #[.int]
  resolved := Array.replicate 82 none
  statics := none }

def pool3 : Array CpInfo := pool [(2, .class_ 4), (1, u "java/lang/Object"), (0, u "<init>"), (0, u "()V"), (7, .class_ 16), (1, u "java/util/Arrays"), (57, .class_ 76), (1, u "java/util/Arrays$NaturalOrder"), (32, u "()Ljava/lang/Object;"), (3, .class_ 115), (1, u "java/util/Arrays$LegacyMergeSort"), (1, u "Z"), (10, .nameAndType 129 109), (0, u "clone"), (20, .methodref 151 152), (0, .class_ 153), (0, .nameAndType 154 155), (0, u "java/lang/System"), (0, u "arraycopy"), (0, u "(Ljava/lang/Object;ILjava/lang/Object;II)V"), (146, u "copyOf"), (1, .methodref 305 306), (0, .class_ 307), (0, .nameAndType 308 309), (0, u "java/lang/Math"), (0, u "min"), (0, u "(II)I"), (0, .methodref 311 128), (0, .class_ 312), (0, u "[B"), (62, .class_ 376), (0, u "java/util/Arrays$ArrayList"), (68, u "$assertionsDisabled"), (269, u "MIN_ARRAY_SORT_GRAN"), (0, u "I"), (2, u "INSERTIONSORT_THRESHOLD"), (149, u "([BI)[B"), (105, .class_ 976), (0, u "java/util/Arrays$ArrayItr")] 52

def k3m0 : Method := { name := "<init>", desc := "()V", sig := { parameters := [], returnType := none }, accessFlags := 2, code := none }
def k3c1 : Code := { maxStack := 6, maxLocals := 3, code := jdk_65_method_121_code, exceptionTable := #[], attributes := #[] }
def k3m1 : Method := { name := "copyOf", desc := "([BI)[B", sig := { parameters := [(.array .byte), .int], returnType := some (.array .byte) }, accessFlags := 9, code := some k3c1 }
/-- java/util/Arrays -/
def k3 : Class := { plain "java/util/Arrays" (some 0) with
  accessFlags := 49
  interfaces := #[]
  cf := some (fileOf pool3 14 #[.nestMembers #[975, 375, 113, 74]] #[{ accessFlags := 2, nameIndex := 5, descriptorIndex := 6, attributes := #[] }, { accessFlags := 9, nameIndex := 302, descriptorIndex := 869, attributes := #[] }] 49 2 #[] #[{ accessFlags := 26, nameIndex := 715, descriptorIndex := 716, attributes := #[] }, { accessFlags := 26, nameIndex := 719, descriptorIndex := 716, attributes := #[] }, { accessFlags := 4120, nameIndex := 445, descriptorIndex := 117, attributes := #[] }])
  fields := #[{ name := "MIN_ARRAY_SORT_GRAN", type := .int, accessFlags := 26, slot := 0, constantValue := 0 }, { name := "INSERTIONSORT_THRESHOLD", type := .int, accessFlags := 26, slot := 1, constantValue := 0 }, { name := "$assertionsDisabled", type := .boolean, accessFlags := 4120, slot := 2, constantValue := 0 }]
  methods := #[k3m0, k3m1]
  instanceTypes := #[]
  staticTypes := #[.int, .int, .boolean]
  resolved := Array.replicate 1029 none
  statics := none }

def pool4 : Array CpInfo := pool [(1, .class_ 2), (0, u "java/lang/Math"), (1, .class_ 6), (1, u "java/lang/Object"), (0, u "<init>"), (0, u "()V"), (89, .class_ 100), (1, u "java/lang/Math$RandomNumberGeneratorHolder"), (71, u "negativeZeroFloatBits"), (0, u "J"), (2, u "negativeZeroDoubleBits"), (21, u "max"), (2, u "min"), (43, u "$assertionsDisabled"), (0, u "Z"), (88, u "(II)I"), (2, u "twoToTheDoubleScaleDown"), (0, u "D"), (4, u "twoToTheDoubleScaleUp"), (9, u "E"), (3, u "PI"), (2, u "TAU"), (2, u "DEGREES_TO_RADIANS"), (0, u "RADIANS_TO_DEGREES")] 94

def k4m0 : Method := { name := "<init>", desc := "()V", sig := { parameters := [], returnType := none }, accessFlags := 2, code := none }
def k4c1 : Code := { maxStack := 2, maxLocals := 2, code := jdk_29_method_65_code, exceptionTable := #[], attributes := #[] }
def k4m1 : Method := { name := "max", desc := "(II)I", sig := { parameters := [.int, .int], returnType := some .int }, accessFlags := 9, code := some k4c1 }
def k4c2 : Code := { maxStack := 2, maxLocals := 2, code := jdk_29_method_69_code, exceptionTable := #[], attributes := #[] }
def k4m2 : Method := { name := "min", desc := "(II)I", sig := { parameters := [.int, .int], returnType := some .int }, accessFlags := 9, code := some k4c2 }
/-- java/lang/Math -/
def k4 : Class := { plain "java/lang/Math" (some 0) with
  accessFlags := 49
  interfaces := #[]
  cf := some (fileOf pool4 1 #[.nestMembers #[98]] #[{ accessFlags := 2, nameIndex := 7, descriptorIndex := 8, attributes := #[] }, { accessFlags := 9, nameIndex := 198, descriptorIndex := 335, attributes := #[] }, { accessFlags := 9, nameIndex := 201, descriptorIndex := 335, attributes := #[] }] 49 4 #[] #[{ accessFlags := 25, nameIndex := 354, descriptorIndex := 339, attributes := #[] }, { accessFlags := 25, nameIndex := 358, descriptorIndex := 339, attributes := #[] }, { accessFlags := 25, nameIndex := 361, descriptorIndex := 339, attributes := #[] }, { accessFlags := 26, nameIndex := 364, descriptorIndex := 339, attributes := #[] }, { accessFlags := 26, nameIndex := 365, descriptorIndex := 339, attributes := #[] }, { accessFlags := 26, nameIndex := 172, descriptorIndex := 173, attributes := #[] }, { accessFlags := 26, nameIndex := 176, descriptorIndex := 173, attributes := #[] }, { accessFlags := 8, nameIndex := 344, descriptorIndex := 339, attributes := #[] }, { accessFlags := 8, nameIndex := 338, descriptorIndex := 339, attributes := #[] }, { accessFlags := 4120, nameIndex := 245, descriptorIndex := 246, attributes := #[] }])
  fields := #[{ name := "E", type := .double, accessFlags := 25, slot := 0, constantValue := 0 }, { name := "PI", type := .double, accessFlags := 25, slot := 1, constantValue := 0 }, { name := "TAU", type := .double, accessFlags := 25, slot := 2, constantValue := 0 }, { name := "DEGREES_TO_RADIANS", type := .double, accessFlags := 26, slot := 3, constantValue := 0 }, { name := "RADIANS_TO_DEGREES", type := .double, accessFlags := 26, slot := 4, constantValue := 0 }, { name := "negativeZeroFloatBits", type := .long, accessFlags := 26, slot := 5, constantValue := 0 }, { name := "negativeZeroDoubleBits", type := .long, accessFlags := 26, slot := 6, constantValue := 0 }, { name := "twoToTheDoubleScaleUp", type := .double, accessFlags := 8, slot := 7, constantValue := 0 }, { name := "twoToTheDoubleScaleDown", type := .double, accessFlags := 8, slot := 8, constantValue := 0 }, { name := "$assertionsDisabled", type := .boolean, accessFlags := 4120, slot := 9, constantValue := 0 }]
  methods := #[k4m0, k4m1, k4m2]
  instanceTypes := #[]
  staticTypes := #[.double, .double, .double, .double, .double, .long, .long, .double, .double, .boolean]
  resolved := Array.replicate 460 none
  statics := none }

def pool5 : Array CpInfo := pool [(2, .class_ 4), (1, u "java/lang/Object"), (0, u "<init>"), (0, u "()V"), (1, .class_ 10), (1, u "java/lang/System"), (0, u "allowSecurityManager"), (0, u "I"), (16, u "cons"), (0, u "Ljava/io/Console;"), (77, .class_ 110), (1, u "java/lang/System$CallersHolder"), (43, u "initialErrStream"), (0, u "Ljava/io/PrintStream;"), (19, u "security"), (0, u "Ljava/lang/SecurityManager;"), (31, .class_ 209), (0, u "java/lang/System$1"), (7, u "props"), (0, u "Ljava/util/Properties;"), (2, u "lineSeparator"), (0, u "Ljava/lang/String;"), (96, .class_ 321), (1, u "java/lang/System$LoggerFinder"), (5, .class_ 328), (0, u "java/lang/System$Logger"), (67, u "err"), (2, u "out"), (91, u "notSupportedJnuEncoding"), (15, u "in"), (17, u "initialIn"), (0, u "Ljava/io/InputStream;"), (35, u "bootLayer"), (0, u "Ljava/lang/ModuleLayer;"), (99, .class_ 664), (0, u "java/lang/System$2"), (9, u "NEVER"), (2, u "MAYBE"), (49, u "arraycopy"), (0, u "(Ljava/lang/Object;ILjava/lang/Object;II)V"), (72, .class_ 802), (0, u "java/lang/System$Logger$Level")] 31

def k5m0 : Method := { name := "<init>", desc := "()V", sig := { parameters := [], returnType := none }, accessFlags := 2, code := none }
def k5m1 : Method := { name := "arraycopy", desc := "(Ljava/lang/Object;ILjava/lang/Object;II)V", sig := { parameters := [(.object "java/lang/Object"), .int, (.object "java/lang/Object"), .int, .int], returnType := none }, accessFlags := 265, code := none }
/-- java/lang/System -/
def k5 : Class := { plain "java/lang/System" (some 0) with
  accessFlags := 49
  interfaces := #[]
  cf := some (fileOf pool5 8 #[.nestMembers #[319, 327, 801, 108, 663, 208]] #[{ accessFlags := 2, nameIndex := 5, descriptorIndex := 6, attributes := #[] }, { accessFlags := 265, nameIndex := 727, descriptorIndex := 728, attributes := #[] }] 49 2 #[] #[{ accessFlags := 25, nameIndex := 507, descriptorIndex := 526, attributes := #[] }, { accessFlags := 25, nameIndex := 399, descriptorIndex := 155, attributes := #[] }, { accessFlags := 25, nameIndex := 396, descriptorIndex := 155, attributes := #[] }, { accessFlags := 10, nameIndex := 525, descriptorIndex := 526, attributes := #[] }, { accessFlags := 26, nameIndex := 674, descriptorIndex := 12, attributes := #[] }, { accessFlags := 26, nameIndex := 677, descriptorIndex := 12, attributes := #[] }, { accessFlags := 10, nameIndex := 11, descriptorIndex := 12, attributes := #[] }, { accessFlags := 74, nameIndex := 175, descriptorIndex := 176, attributes := #[] }, { accessFlags := 10, nameIndex := 491, descriptorIndex := 222, attributes := #[] }, { accessFlags := 74, nameIndex := 29, descriptorIndex := 30, attributes := #[] }, { accessFlags := 74, nameIndex := 154, descriptorIndex := 155, attributes := #[] }, { accessFlags := 10, nameIndex := 217, descriptorIndex := 218, attributes := #[] }, { accessFlags := 10, nameIndex := 221, descriptorIndex := 222, attributes := #[] }, { accessFlags := 8, nameIndex := 562, descriptorIndex := 563, attributes := #[] }])
  fields := #[{ name := "in", type := (.object "java/io/InputStream"), accessFlags := 25, slot := 0, constantValue := 0 }, { name := "out", type := (.object "java/io/PrintStream"), accessFlags := 25, slot := 1, constantValue := 0 }, { name := "err", type := (.object "java/io/PrintStream"), accessFlags := 25, slot := 2, constantValue := 0 }, { name := "initialIn", type := (.object "java/io/InputStream"), accessFlags := 10, slot := 3, constantValue := 0 }, { name := "NEVER", type := .int, accessFlags := 26, slot := 4, constantValue := 0 }, { name := "MAYBE", type := .int, accessFlags := 26, slot := 5, constantValue := 0 }, { name := "allowSecurityManager", type := .int, accessFlags := 10, slot := 6, constantValue := 0 }, { name := "security", type := (.object "java/lang/SecurityManager"), accessFlags := 74, slot := 7, constantValue := 0 }, { name := "notSupportedJnuEncoding", type := (.object "java/lang/String"), accessFlags := 10, slot := 8, constantValue := 0 }, { name := "cons", type := (.object "java/io/Console"), accessFlags := 74, slot := 9, constantValue := 0 }, { name := "initialErrStream", type := (.object "java/io/PrintStream"), accessFlags := 74, slot := 10, constantValue := 0 }, { name := "props", type := (.object "java/util/Properties"), accessFlags := 10, slot := 11, constantValue := 0 }, { name := "lineSeparator", type := (.object "java/lang/String"), accessFlags := 10, slot := 12, constantValue := 0 }, { name := "bootLayer", type := (.object "java/lang/ModuleLayer"), accessFlags := 8, slot := 13, constantValue := 0 }]
  methods := #[k5m0, k5m1]
  instanceTypes := #[]
  staticTypes := #[(.object "java/io/InputStream"), (.object "java/io/PrintStream"), (.object "java/io/PrintStream"), (.object "java/io/InputStream"), .int, .int, .int, (.object "java/lang/SecurityManager"), (.object "java/lang/String"), (.object "java/io/Console"), (.object "java/io/PrintStream"), (.object "java/util/Properties"), (.object "java/lang/String"), (.object "java/lang/ModuleLayer")]
  resolved := Array.replicate 834 none
  statics := none }

def pool6 : Array CpInfo := pool [(1, .class_ 2), (0, u "java/lang/Cloneable"), (0, .class_ 4), (0, u "java/lang/Object")] 2

/-- java/lang/Cloneable -/
def k6 : Class := { plain "java/lang/Cloneable" (some 0) with
  accessFlags := 1537
  interfaces := #[]
  cf := some (fileOf pool6 1 #[] #[] 1537 3 #[] #[])
  fields := #[]
  methods := #[]
  instanceTypes := #[]
  staticTypes := #[]
  resolved := Array.replicate 7 none
  statics := none }

def pool7 : Array CpInfo := pool [(1, u "java/io/Serializable"), (0, .class_ 1), (0, u "java/lang/Object"), (0, .class_ 3)] 3

/-- java/io/Serializable -/
def k7 : Class := { plain "java/io/Serializable" (some 0) with
  accessFlags := 1537
  interfaces := #[]
  cf := some (fileOf pool7 2 #[] #[] 1537 4 #[] #[])
  fields := #[]
  methods := #[]
  instanceTypes := #[]
  staticTypes := #[]
  resolved := Array.replicate 8 none
  statics := none }

/-- the primitive byte -/
def k8 : Class := { plain "byte" none with kind := .primitive 'B', accessFlags := 0x411 }
/-- [B -/
def k9 : Class := { plain "[B" (some 0) with kind := .array 8 .byte, interfaces := #[6, 7], accessFlags := 1041 }

/-- the primitive int -/
def k10 : Class := { plain "int" none with kind := .primitive 'I', accessFlags := 0x411 }
/-- [I -/
def k11 : Class := { plain "[I" (some 0) with kind := .array 10 .int, interfaces := #[6, 7], accessFlags := 1041 }

def heap : Heap := #[]
def classes : Array Class := #[k0, k1, k2, k3, k4, k5, k6, k7, k8, k9, k10, k11]
def interned : List (Array UInt16 × Addr) := []
def slotsUsed : Nat := 0
def theMethod : MethodId := ⟨1, 1⟩
def args0 : Array Value := #[.int 5, .int 7, .int 1, .int 2]
def aboutOver (below : List Frame) : State where
  vm := { classes := classes, interned := interned.toArray }
  heap := heap
  slotsUsed := slotsUsed
  threads := #[{ frames := .invoking theMethod args0 :: below }]
def below0 : List Frame := [.native { method := ⟨0, 0⟩, args := #[] }]
def about1 : State := aboutOver below0
def p0 : Program := .bare "" "" ""
def e0 : Env := launch0.env 0 0 0
theorem w_frames : about1.frames = Frame.invoking theMethod args0 :: below0 := rfl
set_option maxRecDepth 65536 in
theorem w_args : argsFit about1.vm theMethod args0 = true := by decide +kernel
set_option maxRecDepth 65536 in
theorem w_heap : heapFits about1 = true := by decide +kernel
set_option maxRecDepth 65536 in
theorem w_runnable : about1.curStatus? = some .runnable := by decide +kernel
set_option maxRecDepth 65536 in
theorem w_alone : about1.alone = true := by decide +kernel
set_option maxRecDepth 65536 in
theorem w_named : about1.methodNamed? x = some theMethod := by decide +kernel
set_option maxRecDepth 65536 in
theorem w_hears : about1.hears theMethod below0 = true := by decide +kernel
set_option maxRecDepth 65536 in
theorem w_ripe : about1.ripe theMethod args0 below0 = true := by decide +kernel
theorem w_running : about1.status = .running := rfl
set_option maxRecDepth 65536 in
theorem w_room : about1.hasRoom e0.platform room_1 = true :=
  launch0.hasRoom_least _ room_1 (by decide +kernel) (by decide +kernel) (by decide +kernel) (by decide +kernel) (by decide +kernel) (by decide +kernel)
theorem allAtoms_all (ts : List Jvm.Cond) (a : Array Jvm.Value) (st : Jvm.State) : (allAtoms ts).before a st = ts.all (fun c => c.before a st) := by
  induction ts with
  | nil => rfl
  | cons c t ih =>
    show (Jvm.Cond.and c (allAtoms t)).before a st = _
    rw [Jvm.Cond.before_and, ih, List.all_cons]
def words1 : List Jvm.Cond := Jvm.Cond.code x code maxLocals ret :: tables_1
/-- a 'code' word, met by the world's own term for the bytes: nothing is compared byte by byte -/
theorem code_word {y : MethodName} {bytes : ByteArray} {mx : Nat} {rt : Option FieldType} {a : Array Value} {s : State} {m : MethodId} {meth : Method} {c : Code} (h1 : s.methodNamed? y = some m) (h2 : s.vm.method? m = some meth) (h3 : meth.code = some c) (h4 : c.code = bytes)
    (h5 : (c.maxLocals == mx && c.exceptionTable.isEmpty && decide (c.maxStack ≤ mostOperands) && decide (meth.sig.returnType = rt) && !meth.locks && decide (parseMethodDescriptor y.desc = some meth.sig)) = true) : (Jvm.Cond.code y bytes mx rt).before a s = true := by
  simp only [Bool.and_eq_true, beq_iff_eq, Bool.not_eq_true', decide_eq_true_eq] at h5
  obtain ⟨⟨⟨⟨⟨g1, g2⟩, g3⟩, g4⟩, g5⟩, g6⟩ := h5
  simp [Cond.before, Cond.holds, Cond.value, h1, h2, h3, h4, g1, g2, g3, g4, g5, g6]
def isCode : Jvm.Cond → Bool
  | .code _ _ _ _ => true
  | _ => false
theorem all_split {L : List Jvm.Cond} {P : Jvm.Cond → Bool} (h1 : L.all (fun c => isCode c || P c) = true) (h2 : ∀ c ∈ L.filter isCode, P c = true) : L.all P = true := by
  refine List.all_eq_true.mpr fun c hc => ?_
  have h := List.all_eq_true.mp h1 c hc
  rcases Bool.eq_false_or_eq_true (isCode c) with hi | hi
  · exact h2 c (List.mem_filter.mpr ⟨hc, hi⟩)
  · simpa [hi] using h
set_option maxRecDepth 65536 in
theorem w_c0 : (Jvm.Cond.code x code maxLocals ret).before args0 about1 = true := code_word (m := ⟨1, 1⟩) (meth := k1m1) (c := k1c1) (by decide +kernel) rfl rfl rfl (by decide +kernel)
set_option maxRecDepth 65536 in
theorem w_c1 : (Jvm.Cond.code ({ cls := "com/example/queue_directory/queuedirectory/rpc/NdrWriter", name := "<init>", desc := "()V" } : Jvm.MethodName) prog_57_method_1_code (1 : Nat) (Option.none : Option Jvm.ClassFile.FieldType)).before args0 about1 = true := code_word (m := ⟨2, 0⟩) (meth := k2m0) (c := k2c0) (by decide +kernel) rfl rfl rfl (by decide +kernel)
set_option maxRecDepth 65536 in
theorem w_c2 : (Jvm.Cond.code ({ cls := "java/lang/Object", name := "<init>", desc := "()V" } : Jvm.MethodName) object_method_1_code (1 : Nat) (Option.none : Option Jvm.ClassFile.FieldType)).before args0 about1 = true := code_word (m := ⟨0, 0⟩) (meth := k0m0) (c := k0c0) (by decide +kernel) rfl rfl rfl (by decide +kernel)
set_option maxRecDepth 65536 in
theorem w_c3 : (Jvm.Cond.code ({ cls := "com/example/queue_directory/queuedirectory/rpc/NdrWriter", name := "align", desc := "(I)Lcom/example/queue_directory/queuedirectory/rpc/NdrWriter;" } : Jvm.MethodName) prog_57_method_7_code (3 : Nat) (Option.some (Jvm.ClassFile.FieldType.object "com/example/queue_directory/queuedirectory/rpc/NdrWriter"))).before args0 about1 = true := code_word (m := ⟨2, 3⟩) (meth := k2m3) (c := k2c3) (by decide +kernel) rfl rfl rfl (by decide +kernel)
set_option maxRecDepth 65536 in
theorem w_c4 : (Jvm.Cond.code ({ cls := "com/example/queue_directory/queuedirectory/rpc/NdrWriter", name := "room", desc := "(I)V" } : Jvm.MethodName) prog_57_method_10_code (2 : Nat) (Option.none : Option Jvm.ClassFile.FieldType)).before args0 about1 = true := code_word (m := ⟨2, 5⟩) (meth := k2m5) (c := k2c5) (by decide +kernel) rfl rfl rfl (by decide +kernel)
set_option maxRecDepth 65536 in
theorem w_c5 : (Jvm.Cond.code ({ cls := "com/example/queue_directory/queuedirectory/rpc/NdrWriter", name := "toByteArray", desc := "()[B" } : Jvm.MethodName) prog_57_method_9_code (1 : Nat) (Option.some (Jvm.ClassFile.FieldType.array Jvm.ClassFile.FieldType.byte))).before args0 about1 = true := code_word (m := ⟨2, 4⟩) (meth := k2m4) (c := k2c4) (by decide +kernel) rfl rfl rfl (by decide +kernel)
set_option maxRecDepth 65536 in
theorem w_c6 : (Jvm.Cond.code ({ cls := "java/util/Arrays", name := "copyOf", desc := "([BI)[B" } : Jvm.MethodName) jdk_65_method_121_code (3 : Nat) (Option.some (Jvm.ClassFile.FieldType.array Jvm.ClassFile.FieldType.byte))).before args0 about1 = true := code_word (m := ⟨3, 1⟩) (meth := k3m1) (c := k3c1) (by decide +kernel) rfl rfl rfl (by decide +kernel)
set_option maxRecDepth 65536 in
theorem w_c7 : (Jvm.Cond.code ({ cls := "java/lang/Math", name := "min", desc := "(II)I" } : Jvm.MethodName) jdk_29_method_69_code (2 : Nat) (Option.some Jvm.ClassFile.FieldType.int)).before args0 about1 = true := code_word (m := ⟨4, 2⟩) (meth := k4m2) (c := k4c2) (by decide +kernel) rfl rfl rfl (by decide +kernel)
set_option maxRecDepth 65536 in
theorem w_c8 : (Jvm.Cond.code ({ cls := "com/example/queue_directory/queuedirectory/rpc/NdrWriter", name := "bytes", desc := "([B)Lcom/example/queue_directory/queuedirectory/rpc/NdrWriter;" } : Jvm.MethodName) prog_57_method_6_code (2 : Nat) (Option.some (Jvm.ClassFile.FieldType.object "com/example/queue_directory/queuedirectory/rpc/NdrWriter"))).before args0 about1 = true := code_word (m := ⟨2, 2⟩) (meth := k2m2) (c := k2c2) (by decide +kernel) rfl rfl rfl (by decide +kernel)
set_option maxRecDepth 65536 in
theorem w_c9 : (Jvm.Cond.code ({ cls := "java/lang/Math", name := "max", desc := "(II)I" } : Jvm.MethodName) jdk_29_method_65_code (2 : Nat) (Option.some Jvm.ClassFile.FieldType.int)).before args0 about1 = true := code_word (m := ⟨4, 1⟩) (meth := k4m1) (c := k4c1) (by decide +kernel) rfl rfl rfl (by decide +kernel)
set_option maxRecDepth 65536 in
theorem w_c10 : (Jvm.Cond.code ({ cls := "com/example/queue_directory/queuedirectory/rpc/NdrWriter", name := "u8", desc := "(I)Lcom/example/queue_directory/queuedirectory/rpc/NdrWriter;" } : Jvm.MethodName) prog_57_method_2_code (2 : Nat) (Option.some (Jvm.ClassFile.FieldType.object "com/example/queue_directory/queuedirectory/rpc/NdrWriter"))).before args0 about1 = true := code_word (m := ⟨2, 1⟩) (meth := k2m1) (c := k2c1) (by decide +kernel) rfl rfl rfl (by decide +kernel)
def codes1 : List Jvm.Cond := [Jvm.Cond.code x code maxLocals ret, Jvm.Cond.code ({ cls := "com/example/queue_directory/queuedirectory/rpc/NdrWriter", name := "<init>", desc := "()V" } : Jvm.MethodName) prog_57_method_1_code (1 : Nat) (Option.none : Option Jvm.ClassFile.FieldType), Jvm.Cond.code ({ cls := "java/lang/Object", name := "<init>", desc := "()V" } : Jvm.MethodName) object_method_1_code (1 : Nat) (Option.none : Option Jvm.ClassFile.FieldType), Jvm.Cond.code ({ cls := "com/example/queue_directory/queuedirectory/rpc/NdrWriter", name := "align", desc := "(I)Lcom/example/queue_directory/queuedirectory/rpc/NdrWriter;" } : Jvm.MethodName) prog_57_method_7_code (3 : Nat) (Option.some (Jvm.ClassFile.FieldType.object "com/example/queue_directory/queuedirectory/rpc/NdrWriter")), Jvm.Cond.code ({ cls := "com/example/queue_directory/queuedirectory/rpc/NdrWriter", name := "room", desc := "(I)V" } : Jvm.MethodName) prog_57_method_10_code (2 : Nat) (Option.none : Option Jvm.ClassFile.FieldType), Jvm.Cond.code ({ cls := "com/example/queue_directory/queuedirectory/rpc/NdrWriter", name := "toByteArray", desc := "()[B" } : Jvm.MethodName) prog_57_method_9_code (1 : Nat) (Option.some (Jvm.ClassFile.FieldType.array Jvm.ClassFile.FieldType.byte)), Jvm.Cond.code ({ cls := "java/util/Arrays", name := "copyOf", desc := "([BI)[B" } : Jvm.MethodName) jdk_65_method_121_code (3 : Nat) (Option.some (Jvm.ClassFile.FieldType.array Jvm.ClassFile.FieldType.byte)), Jvm.Cond.code ({ cls := "java/lang/Math", name := "min", desc := "(II)I" } : Jvm.MethodName) jdk_29_method_69_code (2 : Nat) (Option.some Jvm.ClassFile.FieldType.int), Jvm.Cond.code ({ cls := "com/example/queue_directory/queuedirectory/rpc/NdrWriter", name := "bytes", desc := "([B)Lcom/example/queue_directory/queuedirectory/rpc/NdrWriter;" } : Jvm.MethodName) prog_57_method_6_code (2 : Nat) (Option.some (Jvm.ClassFile.FieldType.object "com/example/queue_directory/queuedirectory/rpc/NdrWriter")), Jvm.Cond.code ({ cls := "java/lang/Math", name := "max", desc := "(II)I" } : Jvm.MethodName) jdk_29_method_65_code (2 : Nat) (Option.some Jvm.ClassFile.FieldType.int), Jvm.Cond.code ({ cls := "com/example/queue_directory/queuedirectory/rpc/NdrWriter", name := "u8", desc := "(I)Lcom/example/queue_directory/queuedirectory/rpc/NdrWriter;" } : Jvm.MethodName) prog_57_method_2_code (2 : Nat) (Option.some (Jvm.ClassFile.FieldType.object "com/example/queue_directory/queuedirectory/rpc/NdrWriter"))]
set_option maxRecDepth 65536 in
theorem codes_eq : words1.filter isCode = codes1 := rfl
theorem w_codes : ∀ c ∈ words1.filter isCode, c.before args0 about1 = true := by
  rw [codes_eq]
  intro c hc
  simp only [codes1, List.mem_cons, List.not_mem_nil, or_false] at hc
  rcases hc with rfl | rfl | rfl | rfl | rfl | rfl | rfl | rfl | rfl | rfl | rfl
  · exact w_c0
  · exact w_c1
  · exact w_c2
  · exact w_c3
  · exact w_c4
  · exact w_c5
  · exact w_c6
  · exact w_c7
  · exact w_c8
  · exact w_c9
  · exact w_c10
set_option maxRecDepth 65536 in
theorem w_t1 : (words1.take 24).all (fun c => isCode c || c.before args0 about1) = true := by decide +kernel
set_option maxRecDepth 65536 in
theorem w_t2 : ((words1.drop 24).take 24).all (fun c => isCode c || c.before args0 about1) = true := by decide +kernel
set_option maxRecDepth 65536 in
theorem w_t3 : ((words1.drop 24).drop 24).all (fun c => isCode c || c.before args0 about1) = true := by decide +kernel
theorem w_tables : (allAtoms (Jvm.Cond.code x code maxLocals ret :: tables_1)).before args0 about1 = true := by
  rw [allAtoms_all]
  show words1.all (fun c => c.before args0 about1) = true
  refine all_split ?_ w_codes
  rw [← List.take_append_drop 24 words1, List.all_append, w_t1, ← List.take_append_drop 24 (words1.drop 24), List.all_append, w_t2, w_t3]
  rfl
set_option maxRecDepth 65536 in
theorem w_case : (Jvm.Cond.and given_1 narrow_1).before args0 about1 = true := by decide +kernel
theorem w_applies : (headSpec (Jvm.Cond.code x code maxLocals ret :: tables_1) room_1).applies x e0.platform about1 = true :=
  (Spec.applies_iff w_frames).mpr ⟨w_running, w_runnable, w_alone, w_named, w_hears, w_ripe, w_room, w_tables⟩
theorem atStart : AtStart classFile x code maxLocals ret World_1 tables_1 room_1 Calls_1 rest_1 Pre_1 launch0 p0 e0 about1 theMethod args0 below0 :=
  ⟨lists_1, trivial, launch0.admits_env _ _ _, launch0.least_env, fairChoices_fair.cas, fairChoices_fair.clock, w_frames, w_args, w_heap, w_applies, trivial, trivial, w_case⟩
end start1
theorem witness_1 : WitnessClaimed_1 := ⟨start1.p0, start1.e0, start1.about1, start1.theMethod, start1.args0, start1.below0, start1.atStart⟩
end Jvm.Pilot.@@N@@
