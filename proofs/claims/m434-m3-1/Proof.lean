import JvmDerived
import JvmDerived.Pilot.@@N@@Statement
import JvmDerived.Pilot.@@N@@Code
set_option linter.unusedVariables false
set_option linter.unusedSimpArgs false
@@BLOCK:NumsL.lean.txt@@
namespace Jvm.Pilot.@@N@@
open Jvm Jvm.ClassFile Sem Op Lib Jvm.Free Jvm.Stand Jvm.LawKit Jvm.RoadKit Bundle Jvm.Pilot.@@N@@.Jvm.D
section Kit
variable {p : Program} {l : Launch} {e : Env} {R : Room} {s : State} {m : MethodId} {args : Array Value} {below : List Frame} {meth : Method} {c : Code} {T : State} {locs : List Loc} {cells slots : Nat} {Z : State} {a0 : Array Value} {h : Heap}
variable {Q : Option Value → Heap → List Loc → Prop} {C S : Nat} {pc pc' : Nat} {Ls Ls' : Array Slot} {rest : List Value}
/-- the goal of a walk: from the state σ the run comes to its end, which is as Q says -/
def Go (p : Program) (e : Env) (below : List Frame) (s : State) (Q : Option Value → Heap → List Loc → Prop) (C S : Nat) (σ : State) : Prop :=
  ∃ s₂ o, Steps p.tables e below σ s₂ ∧ s₂.status = .running ∧ Ended s₂ below o ∧ ∃ v L, o = .returned v ∧ Q v s₂.heap L ∧ FrameEnd s o s₂ L C S
theorem Go.step {σ τ : State} (st : ∀ t, Steps p.tables e below τ t → Steps p.tables e below σ t) (k : Go p e below s Q C S τ) : Go p e below s Q C S σ := by
  obtain ⟨s₂, o, h1, h2⟩ := k
  exact ⟨s₂, o, st _ h1, h2⟩
theorem Go.mono {Q' : Option Value → Heap → List Loc → Prop} {σ : State} (k : Go p e below s Q C S σ) (hq : ∀ v h L, Q v h L → Q' v h L) : Go p e below s Q' C S σ := by
  obtain ⟨s₂, o, h1, h2, h3, v, L, h4, h5, h6⟩ := k
  exact ⟨s₂, o, h1, h2, h3, v, L, h4, hq _ _ _ h5, h6⟩
/-- a join: the road behind it is walked once -/
theorem w_j1 {A0 : Type} {σ : State} (F : A0 → State) (P : A0 → Prop) (hJ : ∀ a0, P a0 → Go p e below s Q C S (F a0)) (hB : (∀ a0, P a0 → Go p e below s Q C S (F a0)) → Go p e below s Q C S σ) : Go p e below s Q C S σ := hB hJ
theorem w_j2 {A0 A1 : Type} {σ : State} (F : A0 → A1 → State) (P : A0 → A1 → Prop) (hJ : ∀ a0 a1, P a0 a1 → Go p e below s Q C S (F a0 a1)) (hB : (∀ a0 a1, P a0 a1 → Go p e below s Q C S (F a0 a1)) → Go p e below s Q C S σ) : Go p e below s Q C S σ := hB hJ
theorem w_j3 {A0 A1 A2 : Type} {σ : State} (F : A0 → A1 → A2 → State) (P : A0 → A1 → A2 → Prop) (hJ : ∀ a0 a1 a2, P a0 a1 a2 → Go p e below s Q C S (F a0 a1 a2)) (hB : (∀ a0 a1 a2, P a0 a1 a2 → Go p e below s Q C S (F a0 a1 a2)) → Go p e below s Q C S σ) : Go p e below s Q C S σ := hB hJ
theorem w_j4 {A0 A1 A2 A3 : Type} {σ : State} (F : A0 → A1 → A2 → A3 → State) (P : A0 → A1 → A2 → A3 → Prop) (hJ : ∀ a0 a1 a2 a3, P a0 a1 a2 a3 → Go p e below s Q C S (F a0 a1 a2 a3)) (hB : (∀ a0 a1 a2 a3, P a0 a1 a2 a3 → Go p e below s Q C S (F a0 a1 a2 a3)) → Go p e below s Q C S σ) : Go p e below s Q C S σ := hB hJ
theorem w_j5 {A0 A1 A2 A3 A4 : Type} {σ : State} (F : A0 → A1 → A2 → A3 → A4 → State) (P : A0 → A1 → A2 → A3 → A4 → Prop) (hJ : ∀ a0 a1 a2 a3 a4, P a0 a1 a2 a3 a4 → Go p e below s Q C S (F a0 a1 a2 a3 a4)) (hB : (∀ a0 a1 a2 a3 a4, P a0 a1 a2 a3 a4 → Go p e below s Q C S (F a0 a1 a2 a3 a4)) → Go p e below s Q C S σ) : Go p e below s Q C S σ := hB hJ
theorem w_j6 {A0 A1 A2 A3 A4 A5 : Type} {σ : State} (F : A0 → A1 → A2 → A3 → A4 → A5 → State) (P : A0 → A1 → A2 → A3 → A4 → A5 → Prop) (hJ : ∀ a0 a1 a2 a3 a4 a5, P a0 a1 a2 a3 a4 a5 → Go p e below s Q C S (F a0 a1 a2 a3 a4 a5)) (hB : (∀ a0 a1 a2 a3 a4 a5, P a0 a1 a2 a3 a4 a5 → Go p e below s Q C S (F a0 a1 a2 a3 a4 a5)) → Go p e below s Q C S σ) : Go p e below s Q C S σ := hB hJ
theorem w_j7 {A0 A1 A2 A3 A4 A5 A6 : Type} {σ : State} (F : A0 → A1 → A2 → A3 → A4 → A5 → A6 → State) (P : A0 → A1 → A2 → A3 → A4 → A5 → A6 → Prop) (hJ : ∀ a0 a1 a2 a3 a4 a5 a6, P a0 a1 a2 a3 a4 a5 a6 → Go p e below s Q C S (F a0 a1 a2 a3 a4 a5 a6)) (hB : (∀ a0 a1 a2 a3 a4 a5 a6, P a0 a1 a2 a3 a4 a5 a6 → Go p e below s Q C S (F a0 a1 a2 a3 a4 a5 a6)) → Go p e below s Q C S σ) : Go p e below s Q C S σ := hB hJ
theorem w_eqI {x z : Int32} (hz : x = z) (k : Go p e below s Q C S (T.setTop (mkF m pc Ls (.int z :: rest)))) : Go p e below s Q C S (T.setTop (mkF m pc Ls (.int x :: rest))) := hz ▸ k
theorem w_eqJ {x z : Int64} (hz : x = z) (k : Go p e below s Q C S (T.setTop (mkF m pc Ls (.long z :: rest)))) : Go p e below s Q C S (T.setTop (mkF m pc Ls (.long x :: rest))) := hz ▸ k
def Dc (code : ByteArray) (pc : Nat) (i : Instr) (n pc' : Nat) : Prop := decode code pc = .ok (i, n) ∧ pc + n = pc'
def Dj (code : ByteArray) (pc : Nat) (i : Instr) (o : Int) (pcT pcF : Nat) : Prop := decode code pc = .ok (i, 3) ∧ 0 ≤ (pc : Int) + o ∧ ((pc : Int) + o).toNat = pcT ∧ pc + 3 = pcF
theorem dq {code : ByteArray} {i : Instr} {n : Nat} (hq : c.code = code) (d : Dc code pc i n pc') : Dc c.code pc i n pc' := hq ▸ d
theorem dj {code : ByteArray} {i : Instr} {o : Int} {pcT pcF : Nat} (hq : c.code = code) (d : Dj code pc i o pcT pcF) : Dj c.code pc i o pcT pcF := hq ▸ d
abbrev St (p : Program) (l : Launch) (e : Env) (R : Room) (s : State) (m : MethodId) (args : Array Value) (below : List Frame) (meth : Method) (c : Code) (T : State) (locs : List Loc) (cells slots : Nat) : Prop := Stand p l e R s m args below meth c T locs cells slots
/-! loads, stores, constants -/
theorem w_iload (X : Stand p l e R s m args below meth c T locs cells slots) (hx : p.tables.exec = Jvm.exec) {n : Nat} {z : Int32} (hd : Dc c.code pc (.iload n) 2 pc') (hl : Ls[n]? = some (.val (.int z))) (k : Go p e below s Q C S (T.setTop (mkF m pc' Ls (.int z :: rest)))) : Go p e below s Q C S (T.setTop (mkF m pc Ls (rest))) := by
  obtain ⟨hd, rfl⟩ := hd; exact k.step fun _ t => XS.iload X.here hx rfl hd hl t
theorem w_iloadN (X : Stand p l e R s m args below meth c T locs cells slots) (hx : p.tables.exec = Jvm.exec) {n : Fin 4} {z : Int32} (hd : Dc c.code pc (.iload_n n) 1 pc') (hl : Ls[n.val]? = some (.val (.int z))) (k : Go p e below s Q C S (T.setTop (mkF m pc' Ls (.int z :: rest)))) : Go p e below s Q C S (T.setTop (mkF m pc Ls (rest))) := by
  obtain ⟨hd, rfl⟩ := hd; exact k.step fun _ t => XS.iloadN X.here hx rfl hd hl t
theorem w_istore (X : Stand p l e R s m args below meth c T locs cells slots) (hx : p.tables.exec = Jvm.exec) {n : Nat} {x z : Int32} (hd : Dc c.code pc (.istore n) 2 pc') (hz : z = x) (hs : storeLocals Ls n (.int z) = some Ls') (k : Go p e below s Q C S (T.setTop (mkF m pc' Ls' (rest)))) : Go p e below s Q C S (T.setTop (mkF m pc Ls (.int x :: rest))) := by
  obtain ⟨hd, rfl⟩ := hd; subst hz; exact k.step fun _ t => XS.istore X.here hx rfl hd rfl hs t
theorem w_istoreN (X : Stand p l e R s m args below meth c T locs cells slots) (hx : p.tables.exec = Jvm.exec) {n : Fin 4} {x z : Int32} (hd : Dc c.code pc (.istore_n n) 1 pc') (hz : z = x) (hs : storeLocals Ls n.val (.int z) = some Ls') (k : Go p e below s Q C S (T.setTop (mkF m pc' Ls' (rest)))) : Go p e below s Q C S (T.setTop (mkF m pc Ls (.int x :: rest))) := by
  obtain ⟨hd, rfl⟩ := hd; subst hz; exact k.step fun _ t => XS.istoreN X.here hx rfl hd rfl hs t
theorem w_lload (X : Stand p l e R s m args below meth c T locs cells slots) (hx : p.tables.exec = Jvm.exec) {n : Nat} {z : Int64} (hd : Dc c.code pc (.lload n) 2 pc') (hl : Ls[n]? = some (.val (.long z))) (k : Go p e below s Q C S (T.setTop (mkF m pc' Ls (.long z :: rest)))) : Go p e below s Q C S (T.setTop (mkF m pc Ls (rest))) := by
  obtain ⟨hd, rfl⟩ := hd; exact k.step fun _ t => XS.lload X.here hx rfl hd hl t
theorem w_lloadN (X : Stand p l e R s m args below meth c T locs cells slots) (hx : p.tables.exec = Jvm.exec) {n : Fin 4} {z : Int64} (hd : Dc c.code pc (.lload_n n) 1 pc') (hl : Ls[n.val]? = some (.val (.long z))) (k : Go p e below s Q C S (T.setTop (mkF m pc' Ls (.long z :: rest)))) : Go p e below s Q C S (T.setTop (mkF m pc Ls (rest))) := by
  obtain ⟨hd, rfl⟩ := hd; exact k.step fun _ t => XS.lloadN X.here hx rfl hd hl t
theorem w_lstore (X : Stand p l e R s m args below meth c T locs cells slots) (hx : p.tables.exec = Jvm.exec) {n : Nat} {x z : Int64} (hd : Dc c.code pc (.lstore n) 2 pc') (hz : z = x) (hs : storeLocals Ls n (.long z) = some Ls') (k : Go p e below s Q C S (T.setTop (mkF m pc' Ls' (rest)))) : Go p e below s Q C S (T.setTop (mkF m pc Ls (.long x :: rest))) := by
  obtain ⟨hd, rfl⟩ := hd; subst hz; exact k.step fun _ t => XS.lstore X.here hx rfl hd rfl hs t
theorem w_lstoreN (X : Stand p l e R s m args below meth c T locs cells slots) (hx : p.tables.exec = Jvm.exec) {n : Fin 4} {x z : Int64} (hd : Dc c.code pc (.lstore_n n) 1 pc') (hz : z = x) (hs : storeLocals Ls n.val (.long z) = some Ls') (k : Go p e below s Q C S (T.setTop (mkF m pc' Ls' (rest)))) : Go p e below s Q C S (T.setTop (mkF m pc Ls (.long x :: rest))) := by
  obtain ⟨hd, rfl⟩ := hd; subst hz; exact k.step fun _ t => XS.lstoreN X.here hx rfl hd rfl hs t
theorem w_aload (X : Stand p l e R s m args below meth c T locs cells slots) (hx : p.tables.exec = Jvm.exec) {n : Nat} {v : Value} (hd : Dc c.code pc (.aload n) 2 pc') (hl : Ls[n]? = some (.val v)) (hv : v.isRef = true) (k : Go p e below s Q C S (T.setTop (mkF m pc' Ls (v :: rest)))) : Go p e below s Q C S (T.setTop (mkF m pc Ls (rest))) := by
  obtain ⟨hd, rfl⟩ := hd; exact k.step fun _ t => XS.aload X.here hx rfl hd hl hv t
theorem w_aloadN (X : Stand p l e R s m args below meth c T locs cells slots) (hx : p.tables.exec = Jvm.exec) {n : Fin 4} {v : Value} (hd : Dc c.code pc (.aload_n n) 1 pc') (hl : Ls[n.val]? = some (.val v)) (hv : v.isRef = true) (k : Go p e below s Q C S (T.setTop (mkF m pc' Ls (v :: rest)))) : Go p e below s Q C S (T.setTop (mkF m pc Ls (rest))) := by
  obtain ⟨hd, rfl⟩ := hd; exact k.step fun _ t => XS.aloadN X.here hx rfl hd hl hv t
theorem w_astore (X : Stand p l e R s m args below meth c T locs cells slots) (hx : p.tables.exec = Jvm.exec) {n : Nat} {v : Value} (hd : Dc c.code pc (.astore n) 2 pc') (hv : v.isRef = true) (hs : storeLocals Ls n v = some Ls') (k : Go p e below s Q C S (T.setTop (mkF m pc' Ls' (rest)))) : Go p e below s Q C S (T.setTop (mkF m pc Ls (v :: rest))) := by
  obtain ⟨hd, rfl⟩ := hd; exact k.step fun _ t => XS.astore X.here hx rfl hd rfl hv hs t
theorem w_astoreN (X : Stand p l e R s m args below meth c T locs cells slots) (hx : p.tables.exec = Jvm.exec) {n : Fin 4} {v : Value} (hd : Dc c.code pc (.astore_n n) 1 pc') (hv : v.isRef = true) (hs : storeLocals Ls n.val v = some Ls') (k : Go p e below s Q C S (T.setTop (mkF m pc' Ls' (rest)))) : Go p e below s Q C S (T.setTop (mkF m pc Ls (v :: rest))) := by
  obtain ⟨hd, rfl⟩ := hd; exact k.step fun _ t => XS.astoreN X.here hx rfl hd rfl hv hs t
theorem w_iconst (X : Stand p l e R s m args below meth c T locs cells slots) (hx : p.tables.exec = Jvm.exec) {i : Int} {z : Int32} (hd : Dc c.code pc (.iconst i) 1 pc') (hz : Int32.ofInt i = z) (k : Go p e below s Q C S (T.setTop (mkF m pc' Ls (.int z :: rest)))) : Go p e below s Q C S (T.setTop (mkF m pc Ls rest)) := by
  obtain ⟨hd, rfl⟩ := hd; subst hz; exact k.step fun _ t => XS.iconst X.here hx rfl hd t
theorem w_bipush (X : Stand p l e R s m args below meth c T locs cells slots) (hx : p.tables.exec = Jvm.exec) {i : Int} {z : Int32} (hd : Dc c.code pc (.bipush i) 2 pc') (hz : (Int8.ofInt i).toInt32 = z) (k : Go p e below s Q C S (T.setTop (mkF m pc' Ls (.int z :: rest)))) : Go p e below s Q C S (T.setTop (mkF m pc Ls rest)) := by
  obtain ⟨hd, rfl⟩ := hd; subst hz; exact k.step fun _ t => XS.bipush X.here hx rfl hd t
theorem w_sipush (X : Stand p l e R s m args below meth c T locs cells slots) (hx : p.tables.exec = Jvm.exec) {i : Int} {z : Int32} (hd : Dc c.code pc (.sipush i) 3 pc') (hz : (Int16.ofInt i).toInt32 = z) (k : Go p e below s Q C S (T.setTop (mkF m pc' Ls (.int z :: rest)))) : Go p e below s Q C S (T.setTop (mkF m pc Ls rest)) := by
  obtain ⟨hd, rfl⟩ := hd; subst hz; exact k.step fun _ t => XS.sipush X.here hx rfl hd t
theorem w_lconst (X : Stand p l e R s m args below meth c T locs cells slots) (hx : p.tables.exec = Jvm.exec) {i : Fin 2} {z : Int64} (hd : Dc c.code pc (.lconst i) 1 pc') (hz : Int64.ofNat i = z) (k : Go p e below s Q C S (T.setTop (mkF m pc' Ls (.long z :: rest)))) : Go p e below s Q C S (T.setTop (mkF m pc Ls rest)) := by
  obtain ⟨hd, rfl⟩ := hd; subst hz; exact k.step fun _ t => XS.lconst X.here hx rfl hd t
theorem w_null (X : Stand p l e R s m args below meth c T locs cells slots) (hx : p.tables.exec = Jvm.exec) (hd : Dc c.code pc .aconst_null 1 pc') (k : Go p e below s Q C S (T.setTop (mkF m pc' Ls (.null :: rest)))) : Go p e below s Q C S (T.setTop (mkF m pc Ls rest)) := by
  obtain ⟨hd, rfl⟩ := hd; exact k.step fun _ t => XS.aconstNull X.here hx rfl hd t
theorem w_ldc (X : Stand p l e R s m args below meth c T locs cells slots) (hx : p.tables.exec = Jvm.exec) (hZ : Z.Warmed39 s.vm) {own : String} {index : Nat} {z : Int32} (hown : s.vm.findClass own = some m.cls) (w : (Jvm.Cond.constant own index z).before a0 Z = true) (hd : Dc c.code pc (.ldc index) 2 pc') (k : Go p e below s Q C S (T.setTop (mkF m pc' Ls (.int z :: rest)))) : Go p e below s Q C S (T.setTop (mkF m pc Ls rest)) := by
  obtain ⟨hd, rfl⟩ := hd; exact k.step fun t q => X.ldcInt hx hown (mvT hZ w) (g := mkF m pc Ls rest) rfl hd t q
theorem w_ldcw (X : Stand p l e R s m args below meth c T locs cells slots) (hx : p.tables.exec = Jvm.exec) (hZ : Z.Warmed39 s.vm) {own : String} {index : Nat} {z : Int32} (hown : s.vm.findClass own = some m.cls) (w : (Jvm.Cond.constant own index z).before a0 Z = true) (hd : Dc c.code pc (.ldc_w index) 3 pc') (k : Go p e below s Q C S (T.setTop (mkF m pc' Ls (.int z :: rest)))) : Go p e below s Q C S (T.setTop (mkF m pc Ls rest)) := by
  obtain ⟨hd, rfl⟩ := hd; exact k.step fun t q => X.ldcwInt hx hown (mvT hZ w) (g := mkF m pc Ls rest) rfl hd t q
theorem w_ldc2 (X : Stand p l e R s m args below meth c T locs cells slots) (hx : p.tables.exec = Jvm.exec) (hZ : Z.Warmed39 s.vm) {own : String} {index : Nat} {z : Int64} (hown : s.vm.findClass own = some m.cls) (w : (Jvm.Cond.constantLong own index z).before a0 Z = true) (hd : Dc c.code pc (.ldc2_w index) 3 pc') (k : Go p e below s Q C S (T.setTop (mkF m pc' Ls (.long z :: rest)))) : Go p e below s Q C S (T.setTop (mkF m pc Ls rest)) := by
  obtain ⟨hd, rfl⟩ := hd; exact k.step fun t q => X.ldc2Long hx hown (mvT hZ w) (g := mkF m pc Ls rest) rfl hd t q
theorem w_iinc (X : Stand p l e R s m args below meth c T locs cells slots) (hx : p.tables.exec = Jvm.exec) {n : Nat} {i : Int} {x z : Int32} (hd : Dc c.code pc (.iinc n i) 3 pc') (hl : Ls[n]? = some (.val (.int x))) (hz : x + Int32.ofInt i = z) (hs : storeLocals Ls n (.int z) = some Ls') (k : Go p e below s Q C S (T.setTop (mkF m pc' Ls' rest))) : Go p e below s Q C S (T.setTop (mkF m pc Ls rest)) := by
  obtain ⟨hd, rfl⟩ := hd; subst hz; exact k.step fun _ t => XS.iinc X.here hx rfl hd hl hs t
/-! arithmetic -/
def IShl (x y : Int32) : Int32 := x <<< (y &&& 31)
def IShr (x y : Int32) : Int32 := x >>> (y &&& 31)
def IUshr (x y : Int32) : Int32 := (x.toUInt32 >>> (y &&& 31).toUInt32).toInt32
def LShl (x : Int64) (y : Int32) : Int64 := x <<< (y &&& 0x3f).toInt64
def LShr (x : Int64) (y : Int32) : Int64 := x >>> (y &&& 0x3f).toInt64
def LUshr (x : Int64) (y : Int32) : Int64 := (x.toUInt64 >>> (y &&& 0x3f).toInt64.toUInt64).toInt64
theorem w_iadd (X : Stand p l e R s m args below meth c T locs cells slots) (hx : p.tables.exec = Jvm.exec) {x y : Int32} (hd : Dc c.code pc .iadd 1 pc') (k : Go p e below s Q C S (T.setTop (mkF m pc' Ls (.int (x + y) :: rest)))) : Go p e below s Q C S (T.setTop (mkF m pc Ls (.int y :: .int x :: rest))) := by
  obtain ⟨hd, rfl⟩ := hd; exact k.step fun _ t => XS.iadd X.here hx rfl hd rfl t
theorem w_isub (X : Stand p l e R s m args below meth c T locs cells slots) (hx : p.tables.exec = Jvm.exec) {x y : Int32} (hd : Dc c.code pc .isub 1 pc') (k : Go p e below s Q C S (T.setTop (mkF m pc' Ls (.int (x - y) :: rest)))) : Go p e below s Q C S (T.setTop (mkF m pc Ls (.int y :: .int x :: rest))) := by
  obtain ⟨hd, rfl⟩ := hd; exact k.step fun _ t => XS.isub X.here hx rfl hd rfl t
theorem w_imul (X : Stand p l e R s m args below meth c T locs cells slots) (hx : p.tables.exec = Jvm.exec) {x y : Int32} (hd : Dc c.code pc .imul 1 pc') (k : Go p e below s Q C S (T.setTop (mkF m pc' Ls (.int (x * y) :: rest)))) : Go p e below s Q C S (T.setTop (mkF m pc Ls (.int y :: .int x :: rest))) := by
  obtain ⟨hd, rfl⟩ := hd; exact k.step fun _ t => XS.imul X.here hx rfl hd rfl t
theorem w_iand (X : Stand p l e R s m args below meth c T locs cells slots) (hx : p.tables.exec = Jvm.exec) {x y : Int32} (hd : Dc c.code pc .iand 1 pc') (k : Go p e below s Q C S (T.setTop (mkF m pc' Ls (.int (x &&& y) :: rest)))) : Go p e below s Q C S (T.setTop (mkF m pc Ls (.int y :: .int x :: rest))) := by
  obtain ⟨hd, rfl⟩ := hd; exact k.step fun _ t => XS.iand X.here hx rfl hd rfl t
theorem w_ior (X : Stand p l e R s m args below meth c T locs cells slots) (hx : p.tables.exec = Jvm.exec) {x y : Int32} (hd : Dc c.code pc .ior 1 pc') (k : Go p e below s Q C S (T.setTop (mkF m pc' Ls (.int (x ||| y) :: rest)))) : Go p e below s Q C S (T.setTop (mkF m pc Ls (.int y :: .int x :: rest))) := by
  obtain ⟨hd, rfl⟩ := hd; exact k.step fun _ t => XS.ior X.here hx rfl hd rfl t
theorem w_ixor (X : Stand p l e R s m args below meth c T locs cells slots) (hx : p.tables.exec = Jvm.exec) {x y : Int32} (hd : Dc c.code pc .ixor 1 pc') (k : Go p e below s Q C S (T.setTop (mkF m pc' Ls (.int (x ^^^ y) :: rest)))) : Go p e below s Q C S (T.setTop (mkF m pc Ls (.int y :: .int x :: rest))) := by
  obtain ⟨hd, rfl⟩ := hd; exact k.step fun _ t => XS.ixor X.here hx rfl hd rfl t
theorem w_ishl (X : Stand p l e R s m args below meth c T locs cells slots) (hx : p.tables.exec = Jvm.exec) {x : Int32} {y : Int32} (hd : Dc c.code pc .ishl 1 pc') (k : Go p e below s Q C S (T.setTop (mkF m pc' Ls (.int (IShl x y) :: rest)))) : Go p e below s Q C S (T.setTop (mkF m pc Ls (.int y :: .int x :: rest))) := by
  obtain ⟨hd, rfl⟩ := hd; exact k.step fun _ t => XS.ishl X.here hx rfl hd rfl t
theorem w_ishr (X : Stand p l e R s m args below meth c T locs cells slots) (hx : p.tables.exec = Jvm.exec) {x : Int32} {y : Int32} (hd : Dc c.code pc .ishr 1 pc') (k : Go p e below s Q C S (T.setTop (mkF m pc' Ls (.int (IShr x y) :: rest)))) : Go p e below s Q C S (T.setTop (mkF m pc Ls (.int y :: .int x :: rest))) := by
  obtain ⟨hd, rfl⟩ := hd; exact k.step fun _ t => XS.ishr X.here hx rfl hd rfl t
theorem w_iushr (X : Stand p l e R s m args below meth c T locs cells slots) (hx : p.tables.exec = Jvm.exec) {x : Int32} {y : Int32} (hd : Dc c.code pc .iushr 1 pc') (k : Go p e below s Q C S (T.setTop (mkF m pc' Ls (.int (IUshr x y) :: rest)))) : Go p e below s Q C S (T.setTop (mkF m pc Ls (.int y :: .int x :: rest))) := by
  obtain ⟨hd, rfl⟩ := hd; exact k.step fun _ t => XS.iushr X.here hx rfl hd rfl t
theorem w_ladd (X : Stand p l e R s m args below meth c T locs cells slots) (hx : p.tables.exec = Jvm.exec) {x y : Int64} (hd : Dc c.code pc .ladd 1 pc') (k : Go p e below s Q C S (T.setTop (mkF m pc' Ls (.long (x + y) :: rest)))) : Go p e below s Q C S (T.setTop (mkF m pc Ls (.long y :: .long x :: rest))) := by
  obtain ⟨hd, rfl⟩ := hd; exact k.step fun _ t => XS.ladd X.here hx rfl hd rfl t
theorem w_lsub (X : Stand p l e R s m args below meth c T locs cells slots) (hx : p.tables.exec = Jvm.exec) {x y : Int64} (hd : Dc c.code pc .lsub 1 pc') (k : Go p e below s Q C S (T.setTop (mkF m pc' Ls (.long (x - y) :: rest)))) : Go p e below s Q C S (T.setTop (mkF m pc Ls (.long y :: .long x :: rest))) := by
  obtain ⟨hd, rfl⟩ := hd; exact k.step fun _ t => XS.lsub X.here hx rfl hd rfl t
theorem w_lmul (X : Stand p l e R s m args below meth c T locs cells slots) (hx : p.tables.exec = Jvm.exec) {x y : Int64} (hd : Dc c.code pc .lmul 1 pc') (k : Go p e below s Q C S (T.setTop (mkF m pc' Ls (.long (x * y) :: rest)))) : Go p e below s Q C S (T.setTop (mkF m pc Ls (.long y :: .long x :: rest))) := by
  obtain ⟨hd, rfl⟩ := hd; exact k.step fun _ t => XS.lmul X.here hx rfl hd rfl t
theorem w_land (X : Stand p l e R s m args below meth c T locs cells slots) (hx : p.tables.exec = Jvm.exec) {x y : Int64} (hd : Dc c.code pc .land 1 pc') (k : Go p e below s Q C S (T.setTop (mkF m pc' Ls (.long (x &&& y) :: rest)))) : Go p e below s Q C S (T.setTop (mkF m pc Ls (.long y :: .long x :: rest))) := by
  obtain ⟨hd, rfl⟩ := hd; exact k.step fun _ t => XS.land X.here hx rfl hd rfl t
theorem w_lor (X : Stand p l e R s m args below meth c T locs cells slots) (hx : p.tables.exec = Jvm.exec) {x y : Int64} (hd : Dc c.code pc .lor 1 pc') (k : Go p e below s Q C S (T.setTop (mkF m pc' Ls (.long (x ||| y) :: rest)))) : Go p e below s Q C S (T.setTop (mkF m pc Ls (.long y :: .long x :: rest))) := by
  obtain ⟨hd, rfl⟩ := hd; exact k.step fun _ t => XS.lor X.here hx rfl hd rfl t
theorem w_lxor (X : Stand p l e R s m args below meth c T locs cells slots) (hx : p.tables.exec = Jvm.exec) {x y : Int64} (hd : Dc c.code pc .lxor 1 pc') (k : Go p e below s Q C S (T.setTop (mkF m pc' Ls (.long (x ^^^ y) :: rest)))) : Go p e below s Q C S (T.setTop (mkF m pc Ls (.long y :: .long x :: rest))) := by
  obtain ⟨hd, rfl⟩ := hd; exact k.step fun _ t => XS.lxor X.here hx rfl hd rfl t
theorem w_lshl (X : Stand p l e R s m args below meth c T locs cells slots) (hx : p.tables.exec = Jvm.exec) {x : Int64} {y : Int32} (hd : Dc c.code pc .lshl 1 pc') (k : Go p e below s Q C S (T.setTop (mkF m pc' Ls (.long (LShl x y) :: rest)))) : Go p e below s Q C S (T.setTop (mkF m pc Ls (.int y :: .long x :: rest))) := by
  obtain ⟨hd, rfl⟩ := hd; exact k.step fun _ t => XS.lshl X.here hx rfl hd rfl t
theorem w_lshr (X : Stand p l e R s m args below meth c T locs cells slots) (hx : p.tables.exec = Jvm.exec) {x : Int64} {y : Int32} (hd : Dc c.code pc .lshr 1 pc') (k : Go p e below s Q C S (T.setTop (mkF m pc' Ls (.long (LShr x y) :: rest)))) : Go p e below s Q C S (T.setTop (mkF m pc Ls (.int y :: .long x :: rest))) := by
  obtain ⟨hd, rfl⟩ := hd; exact k.step fun _ t => XS.lshr X.here hx rfl hd rfl t
theorem w_lushr (X : Stand p l e R s m args below meth c T locs cells slots) (hx : p.tables.exec = Jvm.exec) {x : Int64} {y : Int32} (hd : Dc c.code pc .lushr 1 pc') (k : Go p e below s Q C S (T.setTop (mkF m pc' Ls (.long (LUshr x y) :: rest)))) : Go p e below s Q C S (T.setTop (mkF m pc Ls (.int y :: .long x :: rest))) := by
  obtain ⟨hd, rfl⟩ := hd; exact k.step fun _ t => XS.lushr X.here hx rfl hd rfl t
theorem w_ineg (X : Stand p l e R s m args below meth c T locs cells slots) (hx : p.tables.exec = Jvm.exec) {x : Int32} (hd : Dc c.code pc .ineg 1 pc') (k : Go p e below s Q C S (T.setTop (mkF m pc' Ls (.int (-x) :: rest)))) : Go p e below s Q C S (T.setTop (mkF m pc Ls (.int x :: rest))) := by
  obtain ⟨hd, rfl⟩ := hd; exact k.step fun _ t => XS.ineg X.here hx rfl hd rfl t
theorem w_lneg (X : Stand p l e R s m args below meth c T locs cells slots) (hx : p.tables.exec = Jvm.exec) {x : Int64} (hd : Dc c.code pc .lneg 1 pc') (k : Go p e below s Q C S (T.setTop (mkF m pc' Ls (.long (-x) :: rest)))) : Go p e below s Q C S (T.setTop (mkF m pc Ls (.long x :: rest))) := by
  obtain ⟨hd, rfl⟩ := hd; exact k.step fun _ t => XS.lneg X.here hx rfl hd rfl t
theorem w_i2l (X : Stand p l e R s m args below meth c T locs cells slots) (hx : p.tables.exec = Jvm.exec) {x : Int32} (hd : Dc c.code pc .i2l 1 pc') (k : Go p e below s Q C S (T.setTop (mkF m pc' Ls (.long (x.toInt64) :: rest)))) : Go p e below s Q C S (T.setTop (mkF m pc Ls (.int x :: rest))) := by
  obtain ⟨hd, rfl⟩ := hd; exact k.step fun _ t => XS.i2l X.here hx rfl hd rfl t
theorem w_l2i (X : Stand p l e R s m args below meth c T locs cells slots) (hx : p.tables.exec = Jvm.exec) {x : Int64} (hd : Dc c.code pc .l2i 1 pc') (k : Go p e below s Q C S (T.setTop (mkF m pc' Ls (.int (x.toInt32) :: rest)))) : Go p e below s Q C S (T.setTop (mkF m pc Ls (.long x :: rest))) := by
  obtain ⟨hd, rfl⟩ := hd; exact k.step fun _ t => XS.l2i X.here hx rfl hd rfl t
theorem w_i2b (X : Stand p l e R s m args below meth c T locs cells slots) (hx : p.tables.exec = Jvm.exec) {x : Int32} (hd : Dc c.code pc .i2b 1 pc') (k : Go p e below s Q C S (T.setTop (mkF m pc' Ls (.int (x.toInt8.toInt32) :: rest)))) : Go p e below s Q C S (T.setTop (mkF m pc Ls (.int x :: rest))) := by
  obtain ⟨hd, rfl⟩ := hd; exact k.step fun _ t => XS.i2b X.here hx rfl hd rfl t
theorem w_i2c (X : Stand p l e R s m args below meth c T locs cells slots) (hx : p.tables.exec = Jvm.exec) {x : Int32} (hd : Dc c.code pc .i2c 1 pc') (k : Go p e below s Q C S (T.setTop (mkF m pc' Ls (.int (x.toUInt32.toUInt16.toUInt32.toInt32) :: rest)))) : Go p e below s Q C S (T.setTop (mkF m pc Ls (.int x :: rest))) := by
  obtain ⟨hd, rfl⟩ := hd; exact k.step fun _ t => XS.i2c X.here hx rfl hd rfl t
theorem w_i2s (X : Stand p l e R s m args below meth c T locs cells slots) (hx : p.tables.exec = Jvm.exec) {x : Int32} (hd : Dc c.code pc .i2s 1 pc') (k : Go p e below s Q C S (T.setTop (mkF m pc' Ls (.int (x.toInt16.toInt32) :: rest)))) : Go p e below s Q C S (T.setTop (mkF m pc Ls (.int x :: rest))) := by
  obtain ⟨hd, rfl⟩ := hd; exact k.step fun _ t => XS.i2s X.here hx rfl hd rfl t
theorem w_idiv (X : Stand p l e R s m args below meth c T locs cells slots) (hx : p.tables.exec = Jvm.exec) {x y : Int32} (hd : Dc c.code pc .idiv 1 pc') (hy : y ≠ 0) (k : Go p e below s Q C S (T.setTop (mkF m pc' Ls (.int (x / y) :: rest)))) : Go p e below s Q C S (T.setTop (mkF m pc Ls (.int y :: .int x :: rest))) := by
  obtain ⟨hd, rfl⟩ := hd; exact k.step fun _ t => XS.idiv X.here hx rfl hd rfl hy t
theorem w_irem (X : Stand p l e R s m args below meth c T locs cells slots) (hx : p.tables.exec = Jvm.exec) {x y : Int32} (hd : Dc c.code pc .irem 1 pc') (hy : y ≠ 0) (k : Go p e below s Q C S (T.setTop (mkF m pc' Ls (.int (x % y) :: rest)))) : Go p e below s Q C S (T.setTop (mkF m pc Ls (.int y :: .int x :: rest))) := by
  obtain ⟨hd, rfl⟩ := hd; exact k.step fun _ t => iremM X hx rfl hd rfl hy t
theorem w_ldiv (X : Stand p l e R s m args below meth c T locs cells slots) (hx : p.tables.exec = Jvm.exec) {x y : Int64} (hd : Dc c.code pc .ldiv 1 pc') (hy : y ≠ 0) (k : Go p e below s Q C S (T.setTop (mkF m pc' Ls (.long (x / y) :: rest)))) : Go p e below s Q C S (T.setTop (mkF m pc Ls (.long y :: .long x :: rest))) := by
  obtain ⟨hd, rfl⟩ := hd; exact k.step fun _ t => XS.ldiv X.here hx rfl hd rfl hy t
theorem w_dup (X : Stand p l e R s m args below meth c T locs cells slots) (hx : p.tables.exec = Jvm.exec) {v : Value} (hd : Dc c.code pc .dup 1 pc') (hc : v.category = 1) (k : Go p e below s Q C S (T.setTop (mkF m pc' Ls (v :: v :: rest)))) : Go p e below s Q C S (T.setTop (mkF m pc Ls (v :: rest))) := by
  obtain ⟨hd, rfl⟩ := hd; exact k.step fun _ t => XS.dup X.here hx rfl hd rfl hc t
theorem w_dupx1 (X : Stand p l e R s m args below meth c T locs cells slots) (hx : p.tables.exec = Jvm.exec) {v w : Value} (hd : Dc c.code pc .dup_x1 1 pc') (hc : v.category = 1) (hc' : w.category = 1) (k : Go p e below s Q C S (T.setTop (mkF m pc' Ls (v :: w :: v :: rest)))) : Go p e below s Q C S (T.setTop (mkF m pc Ls (v :: w :: rest))) := by
  obtain ⟨hd, rfl⟩ := hd; exact k.step fun _ t => XS.dupX1 X.here hx rfl hd rfl hc hc' t
theorem w_dup2 (X : Stand p l e R s m args below meth c T locs cells slots) (hx : p.tables.exec = Jvm.exec) {v w : Value} (hd : Dc c.code pc .dup2 1 pc') (hc : v.category = 1) (hc' : w.category = 1) (k : Go p e below s Q C S (T.setTop (mkF m pc' Ls (v :: w :: v :: w :: rest)))) : Go p e below s Q C S (T.setTop (mkF m pc Ls (v :: w :: rest))) := by
  obtain ⟨hd, rfl⟩ := hd; exact k.step fun _ t => XT.dup2 X.here hx rfl hd rfl hc hc' t
theorem w_dup2L (X : Stand p l e R s m args below meth c T locs cells slots) (hx : p.tables.exec = Jvm.exec) {x : Int64} (hd : Dc c.code pc .dup2 1 pc') (k : Go p e below s Q C S (T.setTop (mkF m pc' Ls (.long x :: .long x :: rest)))) : Go p e below s Q C S (T.setTop (mkF m pc Ls (.long x :: rest))) := by
  obtain ⟨hd, rfl⟩ := hd; exact k.step fun _ t => XT.dup2L X.here hx rfl hd rfl t
theorem w_pop (X : Stand p l e R s m args below meth c T locs cells slots) (hx : p.tables.exec = Jvm.exec) {v : Value} (hd : Dc c.code pc .pop 1 pc') (hc : v.category = 1) (k : Go p e below s Q C S (T.setTop (mkF m pc' Ls rest))) : Go p e below s Q C S (T.setTop (mkF m pc Ls (v :: rest))) := by
  obtain ⟨hd, rfl⟩ := hd; exact k.step fun _ t => XS.pop X.here hx rfl hd rfl hc t
/-! branches -/
theorem w_goto (X : Stand p l e R s m args below meth c T locs cells slots) (hx : p.tables.exec = Jvm.exec) {o : Int} {pcT pcF : Nat} (hd : Dj c.code pc (.goto o) o pcT pcF) (k : Go p e below s Q C S (T.setTop (mkF m pcT Ls rest))) : Go p e below s Q C S (T.setTop (mkF m pc Ls rest)) := by
  obtain ⟨hd, ho, rfl, -⟩ := hd; exact k.step fun _ t => XS.goto X.here hx rfl rfl hd ho rfl t
theorem w_icmp_eq (X : Stand p l e R s m args below meth c T locs cells slots) (hx : p.tables.exec = Jvm.exec) {o : Int} {x y : Int32} {pcT pcF : Nat} (hd : Dj c.code pc (.if_icmp .eq o) o pcT pcF) (kt : x = y → Go p e below s Q C S (T.setTop (mkF m pcT Ls (rest)))) (kf : x ≠ y → Go p e below s Q C S (T.setTop (mkF m pcF Ls (rest)))) : Go p e below s Q C S (T.setTop (mkF m pc Ls (.int y :: .int x :: rest))) := by
  obtain ⟨hd, ho, rfl, rfl⟩ := hd
  by_cases hb : x = y
  · exact (kt hb).step fun _ t => XS.icmpYes X.here hx rfl rfl hd rfl (teq hb).1 ho rfl t
  · exact (kf hb).step fun _ t => XS.icmpNo X.here hx rfl hd rfl (feq hb).1 t
theorem w_if_eq (X : Stand p l e R s m args below meth c T locs cells slots) (hx : p.tables.exec = Jvm.exec) {o : Int} {x : Int32} {pcT pcF : Nat} (hd : Dj c.code pc (.ifCond .eq o) o pcT pcF) (kt : x = 0 → Go p e below s Q C S (T.setTop (mkF m pcT Ls (rest)))) (kf : x ≠ 0 → Go p e below s Q C S (T.setTop (mkF m pcF Ls (rest)))) : Go p e below s Q C S (T.setTop (mkF m pc Ls (.int x :: rest))) := by
  obtain ⟨hd, ho, rfl, rfl⟩ := hd
  have e0 : (0 : Int32).toInt = 0 := rfl
  by_cases hb : x = (0 : Int32)
  · exact (kt hb).step fun _ t => XS.ifYes X.here hx rfl rfl hd rfl ((if0 _ _).trans (teq hb).1) ho rfl t
  · exact (kf hb).step fun _ t => XS.ifNo X.here hx rfl hd rfl ((if0 _ _).trans (feq hb).1) t
theorem w_lcmp_eq (X : Stand p l e R s m args below meth c T locs cells slots) (hx : p.tables.exec = Jvm.exec) {o : Int} {x y : Int64} {pc1 pcT pcF : Nat} (hd1 : Dc c.code pc .lcmp 1 pc1) (hd : Dj c.code pc1 (.ifCond .eq o) o pcT pcF) (kt : x = y → Go p e below s Q C S (T.setTop (mkF m pcT Ls (rest)))) (kf : x ≠ y → Go p e below s Q C S (T.setTop (mkF m pcF Ls (rest)))) : Go p e below s Q C S (T.setTop (mkF m pc Ls (.long y :: .long x :: rest))) := by
  obtain ⟨hd1, rfl⟩ := hd1
  refine Go.step (fun _ t => XS.lcmp X.here hx rfl hd1 rfl t) ?_
  exact w_if_eq X hx hd (fun q => kt ((lw_eq x y).mp q)) (fun q => kf (fun r => q ((lw_eq x y).mpr r)))
theorem w_icmp_ne (X : Stand p l e R s m args below meth c T locs cells slots) (hx : p.tables.exec = Jvm.exec) {o : Int} {x y : Int32} {pcT pcF : Nat} (hd : Dj c.code pc (.if_icmp .ne o) o pcT pcF) (kt : x ≠ y → Go p e below s Q C S (T.setTop (mkF m pcT Ls (rest)))) (kf : x = y → Go p e below s Q C S (T.setTop (mkF m pcF Ls (rest)))) : Go p e below s Q C S (T.setTop (mkF m pc Ls (.int y :: .int x :: rest))) := by
  obtain ⟨hd, ho, rfl, rfl⟩ := hd
  by_cases hb : x = y
  · exact (kf hb).step fun _ t => XS.icmpNo X.here hx rfl hd rfl (teq hb).2 t
  · exact (kt hb).step fun _ t => XS.icmpYes X.here hx rfl rfl hd rfl (feq hb).2 ho rfl t
theorem w_if_ne (X : Stand p l e R s m args below meth c T locs cells slots) (hx : p.tables.exec = Jvm.exec) {o : Int} {x : Int32} {pcT pcF : Nat} (hd : Dj c.code pc (.ifCond .ne o) o pcT pcF) (kt : x ≠ 0 → Go p e below s Q C S (T.setTop (mkF m pcT Ls (rest)))) (kf : x = 0 → Go p e below s Q C S (T.setTop (mkF m pcF Ls (rest)))) : Go p e below s Q C S (T.setTop (mkF m pc Ls (.int x :: rest))) := by
  obtain ⟨hd, ho, rfl, rfl⟩ := hd
  have e0 : (0 : Int32).toInt = 0 := rfl
  by_cases hb : x = (0 : Int32)
  · exact (kf hb).step fun _ t => XS.ifNo X.here hx rfl hd rfl ((if0 _ _).trans (teq hb).2) t
  · exact (kt hb).step fun _ t => XS.ifYes X.here hx rfl rfl hd rfl ((if0 _ _).trans (feq hb).2) ho rfl t
theorem w_lcmp_ne (X : Stand p l e R s m args below meth c T locs cells slots) (hx : p.tables.exec = Jvm.exec) {o : Int} {x y : Int64} {pc1 pcT pcF : Nat} (hd1 : Dc c.code pc .lcmp 1 pc1) (hd : Dj c.code pc1 (.ifCond .ne o) o pcT pcF) (kt : x ≠ y → Go p e below s Q C S (T.setTop (mkF m pcT Ls (rest)))) (kf : x = y → Go p e below s Q C S (T.setTop (mkF m pcF Ls (rest)))) : Go p e below s Q C S (T.setTop (mkF m pc Ls (.long y :: .long x :: rest))) := by
  obtain ⟨hd1, rfl⟩ := hd1
  refine Go.step (fun _ t => XS.lcmp X.here hx rfl hd1 rfl t) ?_
  exact w_if_ne X hx hd (fun q => kt (fun r => q ((lw_eq x y).mpr r))) (fun q => kf ((lw_eq x y).mp q))
theorem w_icmp_lt (X : Stand p l e R s m args below meth c T locs cells slots) (hx : p.tables.exec = Jvm.exec) {o : Int} {x y : Int32} {pcT pcF : Nat} (hd : Dj c.code pc (.if_icmp .lt o) o pcT pcF) (kt : x.toInt < y.toInt → Go p e below s Q C S (T.setTop (mkF m pcT Ls (rest)))) (kf : y.toInt ≤ x.toInt → Go p e below s Q C S (T.setTop (mkF m pcF Ls (rest)))) : Go p e below s Q C S (T.setTop (mkF m pc Ls (.int y :: .int x :: rest))) := by
  obtain ⟨hd, ho, rfl, rfl⟩ := hd
  by_cases hb : x < y
  · exact (kt (Int32.lt_iff_toInt_lt.mp hb)).step fun _ t => XS.icmpYes X.here hx rfl rfl hd rfl (tlt hb).1 ho rfl t
  · exact (kf (by rw [Int32.lt_iff_toInt_lt] at hb; omega)).step fun _ t => XS.icmpNo X.here hx rfl hd rfl (flt hb).1 t
theorem w_if_lt (X : Stand p l e R s m args below meth c T locs cells slots) (hx : p.tables.exec = Jvm.exec) {o : Int} {x : Int32} {pcT pcF : Nat} (hd : Dj c.code pc (.ifCond .lt o) o pcT pcF) (kt : x.toInt < 0 → Go p e below s Q C S (T.setTop (mkF m pcT Ls (rest)))) (kf : 0 ≤ x.toInt → Go p e below s Q C S (T.setTop (mkF m pcF Ls (rest)))) : Go p e below s Q C S (T.setTop (mkF m pc Ls (.int x :: rest))) := by
  obtain ⟨hd, ho, rfl, rfl⟩ := hd
  have e0 : (0 : Int32).toInt = 0 := rfl
  by_cases hb : x < (0 : Int32)
  · exact (kt (by rw [Int32.lt_iff_toInt_lt] at hb; omega)).step fun _ t => XS.ifYes X.here hx rfl rfl hd rfl ((if0 _ _).trans (tlt hb).1) ho rfl t
  · exact (kf (by rw [Int32.lt_iff_toInt_lt] at hb; omega)).step fun _ t => XS.ifNo X.here hx rfl hd rfl ((if0 _ _).trans (flt hb).1) t
theorem w_lcmp_lt (X : Stand p l e R s m args below meth c T locs cells slots) (hx : p.tables.exec = Jvm.exec) {o : Int} {x y : Int64} {pc1 pcT pcF : Nat} (hd1 : Dc c.code pc .lcmp 1 pc1) (hd : Dj c.code pc1 (.ifCond .lt o) o pcT pcF) (kt : x.toInt < y.toInt → Go p e below s Q C S (T.setTop (mkF m pcT Ls (rest)))) (kf : y.toInt ≤ x.toInt → Go p e below s Q C S (T.setTop (mkF m pcF Ls (rest)))) : Go p e below s Q C S (T.setTop (mkF m pc Ls (.long y :: .long x :: rest))) := by
  obtain ⟨hd1, rfl⟩ := hd1
  have e0 : (0 : Int32).toInt = 0 := rfl
  have L : (lcmpW x y).toInt < 0 → x.toInt < y.toInt := fun q => by have := (lw_lt x y).mp (by rw [Int32.lt_iff_toInt_lt]; omega); rwa [Int64.lt_iff_toInt_lt] at this
  have N : 0 ≤ (lcmpW x y).toInt → y.toInt ≤ x.toInt := fun q => by
    have h1 : ¬ x < y := fun r => by have := (lw_lt x y).mpr r; rw [Int32.lt_iff_toInt_lt] at this; omega
    rw [Int64.lt_iff_toInt_lt] at h1; omega
  have M : 0 < (lcmpW x y).toInt → y.toInt < x.toInt := fun q => by have := (lw_gt x y).mp (by rw [Int32.lt_iff_toInt_lt]; omega); rwa [Int64.lt_iff_toInt_lt] at this
  have P : (lcmpW x y).toInt ≤ 0 → x.toInt ≤ y.toInt := fun q => by
    have h1 : ¬ y < x := fun r => by have := (lw_gt x y).mpr r; rw [Int32.lt_iff_toInt_lt] at this; omega
    rw [Int64.lt_iff_toInt_lt] at h1; omega
  refine Go.step (fun _ t => XS.lcmp X.here hx rfl hd1 rfl t) ?_
  exact w_if_lt X hx hd (fun q => kt (L q)) (fun q => kf (N q))
theorem w_icmp_ge (X : Stand p l e R s m args below meth c T locs cells slots) (hx : p.tables.exec = Jvm.exec) {o : Int} {x y : Int32} {pcT pcF : Nat} (hd : Dj c.code pc (.if_icmp .ge o) o pcT pcF) (kt : y.toInt ≤ x.toInt → Go p e below s Q C S (T.setTop (mkF m pcT Ls (rest)))) (kf : x.toInt < y.toInt → Go p e below s Q C S (T.setTop (mkF m pcF Ls (rest)))) : Go p e below s Q C S (T.setTop (mkF m pc Ls (.int y :: .int x :: rest))) := by
  obtain ⟨hd, ho, rfl, rfl⟩ := hd
  by_cases hb : x < y
  · exact (kf (Int32.lt_iff_toInt_lt.mp hb)).step fun _ t => XS.icmpNo X.here hx rfl hd rfl (tlt hb).2.1 t
  · exact (kt (by rw [Int32.lt_iff_toInt_lt] at hb; omega)).step fun _ t => XS.icmpYes X.here hx rfl rfl hd rfl (flt hb).2.1 ho rfl t
theorem w_if_ge (X : Stand p l e R s m args below meth c T locs cells slots) (hx : p.tables.exec = Jvm.exec) {o : Int} {x : Int32} {pcT pcF : Nat} (hd : Dj c.code pc (.ifCond .ge o) o pcT pcF) (kt : 0 ≤ x.toInt → Go p e below s Q C S (T.setTop (mkF m pcT Ls (rest)))) (kf : x.toInt < 0 → Go p e below s Q C S (T.setTop (mkF m pcF Ls (rest)))) : Go p e below s Q C S (T.setTop (mkF m pc Ls (.int x :: rest))) := by
  obtain ⟨hd, ho, rfl, rfl⟩ := hd
  have e0 : (0 : Int32).toInt = 0 := rfl
  by_cases hb : x < (0 : Int32)
  · exact (kf (by rw [Int32.lt_iff_toInt_lt] at hb; omega)).step fun _ t => XS.ifNo X.here hx rfl hd rfl ((if0 _ _).trans (tlt hb).2.1) t
  · exact (kt (by rw [Int32.lt_iff_toInt_lt] at hb; omega)).step fun _ t => XS.ifYes X.here hx rfl rfl hd rfl ((if0 _ _).trans (flt hb).2.1) ho rfl t
theorem w_lcmp_ge (X : Stand p l e R s m args below meth c T locs cells slots) (hx : p.tables.exec = Jvm.exec) {o : Int} {x y : Int64} {pc1 pcT pcF : Nat} (hd1 : Dc c.code pc .lcmp 1 pc1) (hd : Dj c.code pc1 (.ifCond .ge o) o pcT pcF) (kt : y.toInt ≤ x.toInt → Go p e below s Q C S (T.setTop (mkF m pcT Ls (rest)))) (kf : x.toInt < y.toInt → Go p e below s Q C S (T.setTop (mkF m pcF Ls (rest)))) : Go p e below s Q C S (T.setTop (mkF m pc Ls (.long y :: .long x :: rest))) := by
  obtain ⟨hd1, rfl⟩ := hd1
  have e0 : (0 : Int32).toInt = 0 := rfl
  have L : (lcmpW x y).toInt < 0 → x.toInt < y.toInt := fun q => by have := (lw_lt x y).mp (by rw [Int32.lt_iff_toInt_lt]; omega); rwa [Int64.lt_iff_toInt_lt] at this
  have N : 0 ≤ (lcmpW x y).toInt → y.toInt ≤ x.toInt := fun q => by
    have h1 : ¬ x < y := fun r => by have := (lw_lt x y).mpr r; rw [Int32.lt_iff_toInt_lt] at this; omega
    rw [Int64.lt_iff_toInt_lt] at h1; omega
  have M : 0 < (lcmpW x y).toInt → y.toInt < x.toInt := fun q => by have := (lw_gt x y).mp (by rw [Int32.lt_iff_toInt_lt]; omega); rwa [Int64.lt_iff_toInt_lt] at this
  have P : (lcmpW x y).toInt ≤ 0 → x.toInt ≤ y.toInt := fun q => by
    have h1 : ¬ y < x := fun r => by have := (lw_gt x y).mpr r; rw [Int32.lt_iff_toInt_lt] at this; omega
    rw [Int64.lt_iff_toInt_lt] at h1; omega
  refine Go.step (fun _ t => XS.lcmp X.here hx rfl hd1 rfl t) ?_
  exact w_if_ge X hx hd (fun q => kt (N q)) (fun q => kf (L q))
theorem w_icmp_gt (X : Stand p l e R s m args below meth c T locs cells slots) (hx : p.tables.exec = Jvm.exec) {o : Int} {x y : Int32} {pcT pcF : Nat} (hd : Dj c.code pc (.if_icmp .gt o) o pcT pcF) (kt : y.toInt < x.toInt → Go p e below s Q C S (T.setTop (mkF m pcT Ls (rest)))) (kf : x.toInt ≤ y.toInt → Go p e below s Q C S (T.setTop (mkF m pcF Ls (rest)))) : Go p e below s Q C S (T.setTop (mkF m pc Ls (.int y :: .int x :: rest))) := by
  obtain ⟨hd, ho, rfl, rfl⟩ := hd
  by_cases hb : y < x
  · exact (kt (Int32.lt_iff_toInt_lt.mp hb)).step fun _ t => XS.icmpYes X.here hx rfl rfl hd rfl (tlt hb).2.2.1 ho rfl t
  · exact (kf (by rw [Int32.lt_iff_toInt_lt] at hb; omega)).step fun _ t => XS.icmpNo X.here hx rfl hd rfl (flt hb).2.2.1 t
theorem w_if_gt (X : Stand p l e R s m args below meth c T locs cells slots) (hx : p.tables.exec = Jvm.exec) {o : Int} {x : Int32} {pcT pcF : Nat} (hd : Dj c.code pc (.ifCond .gt o) o pcT pcF) (kt : 0 < x.toInt → Go p e below s Q C S (T.setTop (mkF m pcT Ls (rest)))) (kf : x.toInt ≤ 0 → Go p e below s Q C S (T.setTop (mkF m pcF Ls (rest)))) : Go p e below s Q C S (T.setTop (mkF m pc Ls (.int x :: rest))) := by
  obtain ⟨hd, ho, rfl, rfl⟩ := hd
  have e0 : (0 : Int32).toInt = 0 := rfl
  by_cases hb : (0 : Int32) < x
  · exact (kt (by rw [Int32.lt_iff_toInt_lt] at hb; omega)).step fun _ t => XS.ifYes X.here hx rfl rfl hd rfl ((if0 _ _).trans (tlt hb).2.2.1) ho rfl t
  · exact (kf (by rw [Int32.lt_iff_toInt_lt] at hb; omega)).step fun _ t => XS.ifNo X.here hx rfl hd rfl ((if0 _ _).trans (flt hb).2.2.1) t
theorem w_lcmp_gt (X : Stand p l e R s m args below meth c T locs cells slots) (hx : p.tables.exec = Jvm.exec) {o : Int} {x y : Int64} {pc1 pcT pcF : Nat} (hd1 : Dc c.code pc .lcmp 1 pc1) (hd : Dj c.code pc1 (.ifCond .gt o) o pcT pcF) (kt : y.toInt < x.toInt → Go p e below s Q C S (T.setTop (mkF m pcT Ls (rest)))) (kf : x.toInt ≤ y.toInt → Go p e below s Q C S (T.setTop (mkF m pcF Ls (rest)))) : Go p e below s Q C S (T.setTop (mkF m pc Ls (.long y :: .long x :: rest))) := by
  obtain ⟨hd1, rfl⟩ := hd1
  have e0 : (0 : Int32).toInt = 0 := rfl
  have L : (lcmpW x y).toInt < 0 → x.toInt < y.toInt := fun q => by have := (lw_lt x y).mp (by rw [Int32.lt_iff_toInt_lt]; omega); rwa [Int64.lt_iff_toInt_lt] at this
  have N : 0 ≤ (lcmpW x y).toInt → y.toInt ≤ x.toInt := fun q => by
    have h1 : ¬ x < y := fun r => by have := (lw_lt x y).mpr r; rw [Int32.lt_iff_toInt_lt] at this; omega
    rw [Int64.lt_iff_toInt_lt] at h1; omega
  have M : 0 < (lcmpW x y).toInt → y.toInt < x.toInt := fun q => by have := (lw_gt x y).mp (by rw [Int32.lt_iff_toInt_lt]; omega); rwa [Int64.lt_iff_toInt_lt] at this
  have P : (lcmpW x y).toInt ≤ 0 → x.toInt ≤ y.toInt := fun q => by
    have h1 : ¬ y < x := fun r => by have := (lw_gt x y).mpr r; rw [Int32.lt_iff_toInt_lt] at this; omega
    rw [Int64.lt_iff_toInt_lt] at h1; omega
  refine Go.step (fun _ t => XS.lcmp X.here hx rfl hd1 rfl t) ?_
  exact w_if_gt X hx hd (fun q => kt (M q)) (fun q => kf (P q))
theorem w_icmp_le (X : Stand p l e R s m args below meth c T locs cells slots) (hx : p.tables.exec = Jvm.exec) {o : Int} {x y : Int32} {pcT pcF : Nat} (hd : Dj c.code pc (.if_icmp .le o) o pcT pcF) (kt : x.toInt ≤ y.toInt → Go p e below s Q C S (T.setTop (mkF m pcT Ls (rest)))) (kf : y.toInt < x.toInt → Go p e below s Q C S (T.setTop (mkF m pcF Ls (rest)))) : Go p e below s Q C S (T.setTop (mkF m pc Ls (.int y :: .int x :: rest))) := by
  obtain ⟨hd, ho, rfl, rfl⟩ := hd
  by_cases hb : y < x
  · exact (kf (Int32.lt_iff_toInt_lt.mp hb)).step fun _ t => XS.icmpNo X.here hx rfl hd rfl (tlt hb).2.2.2 t
  · exact (kt (by rw [Int32.lt_iff_toInt_lt] at hb; omega)).step fun _ t => XS.icmpYes X.here hx rfl rfl hd rfl (flt hb).2.2.2 ho rfl t
theorem w_if_le (X : Stand p l e R s m args below meth c T locs cells slots) (hx : p.tables.exec = Jvm.exec) {o : Int} {x : Int32} {pcT pcF : Nat} (hd : Dj c.code pc (.ifCond .le o) o pcT pcF) (kt : x.toInt ≤ 0 → Go p e below s Q C S (T.setTop (mkF m pcT Ls (rest)))) (kf : 0 < x.toInt → Go p e below s Q C S (T.setTop (mkF m pcF Ls (rest)))) : Go p e below s Q C S (T.setTop (mkF m pc Ls (.int x :: rest))) := by
  obtain ⟨hd, ho, rfl, rfl⟩ := hd
  have e0 : (0 : Int32).toInt = 0 := rfl
  by_cases hb : (0 : Int32) < x
  · exact (kf (by rw [Int32.lt_iff_toInt_lt] at hb; omega)).step fun _ t => XS.ifNo X.here hx rfl hd rfl ((if0 _ _).trans (tlt hb).2.2.2) t
  · exact (kt (by rw [Int32.lt_iff_toInt_lt] at hb; omega)).step fun _ t => XS.ifYes X.here hx rfl rfl hd rfl ((if0 _ _).trans (flt hb).2.2.2) ho rfl t
theorem w_lcmp_le (X : Stand p l e R s m args below meth c T locs cells slots) (hx : p.tables.exec = Jvm.exec) {o : Int} {x y : Int64} {pc1 pcT pcF : Nat} (hd1 : Dc c.code pc .lcmp 1 pc1) (hd : Dj c.code pc1 (.ifCond .le o) o pcT pcF) (kt : x.toInt ≤ y.toInt → Go p e below s Q C S (T.setTop (mkF m pcT Ls (rest)))) (kf : y.toInt < x.toInt → Go p e below s Q C S (T.setTop (mkF m pcF Ls (rest)))) : Go p e below s Q C S (T.setTop (mkF m pc Ls (.long y :: .long x :: rest))) := by
  obtain ⟨hd1, rfl⟩ := hd1
  have e0 : (0 : Int32).toInt = 0 := rfl
  have L : (lcmpW x y).toInt < 0 → x.toInt < y.toInt := fun q => by have := (lw_lt x y).mp (by rw [Int32.lt_iff_toInt_lt]; omega); rwa [Int64.lt_iff_toInt_lt] at this
  have N : 0 ≤ (lcmpW x y).toInt → y.toInt ≤ x.toInt := fun q => by
    have h1 : ¬ x < y := fun r => by have := (lw_lt x y).mpr r; rw [Int32.lt_iff_toInt_lt] at this; omega
    rw [Int64.lt_iff_toInt_lt] at h1; omega
  have M : 0 < (lcmpW x y).toInt → y.toInt < x.toInt := fun q => by have := (lw_gt x y).mp (by rw [Int32.lt_iff_toInt_lt]; omega); rwa [Int64.lt_iff_toInt_lt] at this
  have P : (lcmpW x y).toInt ≤ 0 → x.toInt ≤ y.toInt := fun q => by
    have h1 : ¬ y < x := fun r => by have := (lw_gt x y).mpr r; rw [Int32.lt_iff_toInt_lt] at this; omega
    rw [Int64.lt_iff_toInt_lt] at h1; omega
  refine Go.step (fun _ t => XS.lcmp X.here hx rfl hd1 rfl t) ?_
  exact w_if_le X hx hd (fun q => kt (P q)) (fun q => kf (M q))
theorem w_acmp (X : Stand p l e R s m args below meth c T locs cells slots) (hx : p.tables.exec = Jvm.exec) {o : Int} {cd : ClassFile.ACond} {x y : Value} {pcT pcF : Nat} (hd : Dj c.code pc (.if_acmp cd o) o pcT pcF) (h1 : x.isRef = true) (h2 : y.isRef = true) {b : Bool} (hb : acV cd (decide (x = y)) = b) (k : Go p e below s Q C S (T.setTop (mkF m (if b = true then pcT else pcF) Ls rest))) : Go p e below s Q C S (T.setTop (mkF m pc Ls (y :: x :: rest))) := by
  obtain ⟨hd, ho, rfl, rfl⟩ := hd; subst hb; exact k.step fun _ t => Jvm.RoadKit.acmp X hx rfl h1 h2 rfl hd rfl rfl ho rfl t
theorem w_ifnullR (X : Stand p l e R s m args below meth c T locs cells slots) (hx : p.tables.exec = Jvm.exec) {o : Int} {b : Addr} {pcT pcF : Nat} (hd : Dj c.code pc (.ifnull o) o pcT pcF) (k : Go p e below s Q C S (T.setTop (mkF m pcF Ls rest))) : Go p e below s Q C S (T.setTop (mkF m pc Ls (.ref b :: rest))) := by
  obtain ⟨hd, -, -, rfl⟩ := hd; exact k.step fun _ t => XS.ifnullNo X.here hx rfl hd rfl t
/-! returns -/
theorem w_ret (X : Stand p l e R s m args below meth c T locs cells slots) (hx : p.tables.exec = Jvm.exec) (hret : meth.sig.returnType = none) (hlk : meth.locks = false) (hd : Dc c.code pc .return_ 1 pc') (hC : cells ≤ C) (hS : slots ≤ S) (hQ : Q none T.heap locs) : Go p e below s Q C S (T.setTop (mkF m pc Ls [])) := by
  obtain ⟨fs, hr, hrun, hended, hW, hsame⟩ := X.leave (v := none) (fun _ => rfl) hlk
  exact ⟨_, _, X.returnOut hx hret hd.1 hr, hrun, hended, _, _, rfl, hQ, ⟨_, rfl⟩, hW, hsame.mono hC hS⟩
theorem w_retI (X : Stand p l e R s m args below meth c T locs cells slots) (hx : p.tables.exec = Jvm.exec) (hret : meth.sig.returnType = some .int) (hlk : meth.locks = false) {z : Int32} (hd : Dc c.code pc .ireturn 1 pc') (hC : cells ≤ C) (hS : slots ≤ S) (hQ : Q (some (.int z)) T.heap locs) : Go p e below s Q C S (T.setTop (mkF m pc Ls (.int z :: rest))) := by
  obtain ⟨fs, hr, hrun, hended, hW, hsame⟩ := X.leave (v := some (.int z)) (fun h => by rw [hret] at h; cases h) hlk
  exact ⟨_, _, retOut X hx hret rfl (Or.inl ⟨rfl, Or.inl rfl, _, rfl⟩) hd.1 hr, hrun, hended, _, _, rfl, hQ, ⟨_, rfl⟩, hW, hsame.mono hC hS⟩
theorem w_retN (X : Stand p l e R s m args below meth c T locs cells slots) (hx : p.tables.exec = Jvm.exec) {t : FieldType} (hret : meth.sig.returnType = some t) (ht : t = .boolean ∨ t = .byte ∨ t = .char ∨ t = .short) (hlk : meth.locks = false) {z : Int32} (hd : Dc c.code pc .ireturn 1 pc') (hC : cells ≤ C) (hS : slots ≤ S) (hQ : Q (some (.int (nar t z))) T.heap locs) : Go p e below s Q C S (T.setTop (mkF m pc Ls (.int z :: rest))) := by
  obtain ⟨fs, hr, hrun, hended, hW, hsame⟩ := X.leave (v := some (.int (nar t z))) (fun h => by rw [hret] at h; cases h) hlk
  exact ⟨_, _, retN X hx hret ht hd.1 hr, hrun, hended, _, _, rfl, hQ, ⟨_, rfl⟩, hW, hsame.mono hC hS⟩
theorem w_retJ (X : Stand p l e R s m args below meth c T locs cells slots) (hx : p.tables.exec = Jvm.exec) (hret : meth.sig.returnType = some .long) (hlk : meth.locks = false) {z : Int64} (hd : Dc c.code pc .lreturn 1 pc') (hC : cells ≤ C) (hS : slots ≤ S) (hQ : Q (some (.long z)) T.heap locs) : Go p e below s Q C S (T.setTop (mkF m pc Ls (.long z :: rest))) := by
  obtain ⟨fs, hr, hrun, hended, hW, hsame⟩ := X.leave (v := some (.long z)) (fun h => by rw [hret] at h; cases h) hlk
  exact ⟨_, _, retOut X hx hret rfl (Or.inr (Or.inl ⟨rfl, rfl, _, rfl⟩)) hd.1 hr, hrun, hended, _, _, rfl, hQ, ⟨_, rfl⟩, hW, hsame.mono hC hS⟩
theorem w_retA (X : Stand p l e R s m args below meth c T locs cells slots) (hx : p.tables.exec = Jvm.exec) {t : FieldType} {a : Addr} (hret : meth.sig.returnType = some t) (ht : t.isReference = true) (hn : narrow t (.ref a) = .ref a) (hlk : meth.locks = false) (hd : Dc c.code pc .areturn 1 pc') (hC : cells ≤ C) (hS : slots ≤ S) (hQ : Q (some (.ref a)) T.heap locs) : Go p e below s Q C S (T.setTop (mkF m pc Ls (.ref a :: rest))) := by
  obtain ⟨fs, hr, hrun, hended, hW, hsame⟩ := X.leave (v := some (.ref a)) (fun h => by rw [hret] at h; cases h) hlk
  exact ⟨_, _, retOut X hx hret hn (Or.inr (Or.inr (Or.inr (Or.inr ⟨rfl, ht, rfl⟩)))) hd.1 hr, hrun, hended, _, _, rfl, hQ, ⟨_, rfl⟩, hW, hsame.mono hC hS⟩
/-! contracts -/
def Ct (l : Launch) (Z : State) (y : MethodName) (bytes : ByteArray) (maxL : Nat) (ret : Option FieldType) (rm : Room) (as' : Array Value) (h : Heap) (Q : Option Value → Heap → List Loc → Prop) : Prop :=
  MetFree l y (head1 [Jvm.Cond.code y bytes maxL ret] rm) (fun a U => a = as' ∧ Z.Warmed39 U.vm ∧ U.heap = h) (fun _ _ _ _ _ => True) (fun _ U o U' => ∃ v L, o = .returned v ∧ Q v U'.heap L ∧ FrameEnd U o U' L rm.cells rm.slots)
theorem w_body {y : MethodName} {bytes : ByteArray} {maxL : Nat} {ret : Option FieldType} {rm : Room} {as' : Array Value} {ws : List Jvm.Cond} (hp : plainFor y = true)
    (body : ∀ (p : Program) (e : Env) (s : State) (m : MethodId) (below : List Frame) (meth : Method) (c : Code) (T : State), Stand p l e rm s m as' below meth c T [] 0 0 → p.tables.exec = Jvm.exec → c.code = bytes → c.maxLocals = maxL → s.vm.findClass y.cls = some m.cls → meth.name = y.name → meth.sig.returnType = ret → meth.locks = false → Z.Warmed39 s.vm → T.heap = h → Go p e below s Q C S (T.setTop (entryFrame m as' maxL))) :
    MetFree l y (head1 (Jvm.Cond.code y bytes maxL ret :: ws) rm) (fun a U => a = as' ∧ Z.Warmed39 U.vm ∧ U.heap = h) (fun _ _ _ _ _ => True) (fun _ U o U' => ∃ v L, o = .returned v ∧ Q v U'.heap L ∧ FrameEnd U o U' L C S) := by
  refine MetFree.of_bodySF hp hisR ?_
  intro p e s m args below meth c s₁ Bd hml0 hP hK
  obtain ⟨rfl, hZ, hh⟩ := hP
  exact body p e s m below meth c s₁ (Stand.of_body Bd) Bd.exec Bd.bytes hml0 (findClass_of_methodNamed Bd.named) (name_of_methodNamed Bd.named Bd.method).1 Bd.returns Bd.notSynchronized hZ (by rw [← hh, Bd.state]; rfl)
theorem Ct.body {y : MethodName} {bytes : ByteArray} {maxL : Nat} {ret : Option FieldType} {rm : Room} {as' : Array Value} (hp : plainFor y = true)
    (body : ∀ (p : Program) (e : Env) (s : State) (m : MethodId) (below : List Frame) (meth : Method) (c : Code) (T : State), Stand p l e rm s m as' below meth c T [] 0 0 → p.tables.exec = Jvm.exec → c.code = bytes → c.maxLocals = maxL → s.vm.findClass y.cls = some m.cls → meth.name = y.name → meth.sig.returnType = ret → meth.locks = false → Z.Warmed39 s.vm → T.heap = h → Go p e below s Q rm.cells rm.slots (T.setTop (entryFrame m as' maxL))) :
    Ct l Z y bytes maxL ret rm as' h Q := w_body hp body
/-! calls -/
theorem w_callS (X : Stand p l e R s m args below meth c T locs cells slots) (hx : p.tables.exec = Jvm.exec) (hZ : Z.Warmed39 s.vm) (eT : T.heap = h) {kk : Nat} (hml : c.maxLocals = kk) (hkk : Ls.size = kk) {own : String} (hown : s.vm.findClass own = some m.cls) {index : Nat} {y : MethodName} {bytes : ByteArray} {maxL : Nat} {ret : Option FieldType} {rm : Room} {as' : Array Value} {Qc : Option Value → Heap → List Loc → Prop}
    (w1 : (Jvm.Cond.methodLink own index y).before a0 Z = true) (w2 : (Jvm.Cond.static y).before a0 Z = true) (w3 : (Jvm.Cond.initialized y.cls).before a0 Z = true) (w4 : (Jvm.Cond.code y bytes maxL ret).before a0 Z = true) (hy : y.cls ≠ "java/lang/invoke/MethodHandle" ∧ y.cls ≠ "java/lang/invoke/VarHandle")
    (hM : Ct l Z y bytes maxL ret rm as' h Qc) (hd : Dc c.code pc (.invokestatic index) 3 pc') {ps : List FieldType} {r : Option FieldType} (hpd : parseMethodDescriptor y.desc = some ⟨ps, r⟩) {argsL st rest : List Value} (has : argsL.toArray = as') (hst : st = argsL.reverse ++ rest) (hlen : argsL.length = ps.length) {W : Nat} (hW : (rest.map fun v => v.category).sum = W)
    (hf : rm.frames + 1 ≤ R.frames) (hl : W + (maxL + 11) + rm.locals ≤ R.locals) (hcl : cells + rm.cells ≤ R.cells) (hsl : slots + rm.slots ≤ R.slots)
    (k : ∀ (v : Option Value) (T' : State) (L : List Loc), Stand p l e R s m args below meth c T' (locs ++ L) (cells + rm.cells) (slots + rm.slots) → Qc v T'.heap L → Go p e below s Q C S (T'.setTop (mkF m pc' Ls (v.toList ++ rest)))) :
    Go p e below s Q C S (T.setTop (mkF m pc Ls st)) := by
  subst hst has hW
  obtain ⟨hd, rfl⟩ := hd
  obtain ⟨v, _, ⟨T', L', k', n'⟩, -, X', ⟨Lc, hQ, e1, e2, e3⟩, st⟩ := Jvm.LawKit.callS X hx (y := y) hown (mvT hZ w1) (mvT hZ w2) (mvT hZ w3) (mvT hZ w4) hy (backOf (W := (rest.map fun v => v.category).sum) hM hZ w4 w3 hf hl) (g := mkF m pc Ls (argsL.reverse ++ rest)) rfl (hkk.trans hml.symm) (argsL := argsL) (rest := rest) (lenOf hpd hlen) rfl (by show 2 * 0 + _ ≤ _; omega) hd (fun _ _ => ⟨rfl, eT, hcl, hsl⟩)
  dsimp only [Pt.U, Pt.locs, Pt.cells, Pt.slots] at X' e1 e2 e3 st hQ
  subst e1 e2 e3
  exact (k v T' Lc X' hQ).step st
theorem w_callV (X : Stand p l e R s m args below meth c T locs cells slots) (hx : p.tables.exec = Jvm.exec) (hZ : Z.Warmed39 s.vm) (eT : T.heap = h) {kk : Nat} (hml : c.maxLocals = kk) (hkk : Ls.size = kk) {own : String} (hown : s.vm.findClass own = some m.cls) {index : Nat} {y : MethodName} {bytes : ByteArray} {maxL : Nat} {ret : Option FieldType} {rm : Room} {as' : Array Value} {Qc : Option Value → Heap → List Loc → Prop}
    (w1 : (Jvm.Cond.methodLink own index y).before a0 Z = true) (w2 : (Jvm.Cond.declares y).before a0 Z = true) (w5 : (Jvm.Cond.selects y.cls y y).before a0 Z = true) (w6 : (Jvm.Cond.instanceMethod y).before a0 Z = true) (w3 : (Jvm.Cond.initialized y.cls).before a0 Z = true) (w4 : (Jvm.Cond.code y bytes maxL ret).before a0 Z = true) (hy : y.cls ≠ "java/lang/invoke/MethodHandle" ∧ y.cls ≠ "java/lang/invoke/VarHandle")
    (hM : Ct l Z y bytes maxL ret rm as' h Qc) {b : Addr} (E : Exa Z h b y.cls) (hd : Dc c.code pc (.invokevirtual index) 3 pc') {ps : List FieldType} {r : Option FieldType} (hpd : parseMethodDescriptor y.desc = some ⟨ps, r⟩) {argsL st rest : List Value} (has : (.ref b :: argsL).toArray = as') (hst : st = argsL.reverse ++ .ref b :: rest) (hlen : argsL.length = ps.length) {W : Nat} (hW : (rest.map fun v => v.category).sum = W)
    (hf : rm.frames + 1 ≤ R.frames) (hl : W + (maxL + 11) + rm.locals ≤ R.locals) (hcl : cells + rm.cells ≤ R.cells) (hsl : slots + rm.slots ≤ R.slots)
    (k : ∀ (v : Option Value) (T' : State) (L : List Loc), Stand p l e R s m args below meth c T' (locs ++ L) (cells + rm.cells) (slots + rm.slots) → Qc v T'.heap L → Go p e below s Q C S (T'.setTop (mkF m pc' Ls (v.toList ++ rest)))) :
    Go p e below s Q C S (T.setTop (mkF m pc Ls st)) := by
  subst hst has hW
  obtain ⟨hd, rfl⟩ := hd
  obtain ⟨cq, kq, qa, qb, qc⟩ := isOf hZ eT E
  obtain ⟨v, _, ⟨T', L', k', n'⟩, -, X', ⟨Lc, hQ, e1, e2, e3⟩, st⟩ := X.virtualBack hx (y := y) (z := y) hown (mvT hZ w1) (mvT hZ w2) (notFace_of_selects (args := #[]) (mvT hZ w5)) (mvT hZ w5) (mvT hZ w6) hy (backOf (W := (rest.map fun v => v.category).sum) hM hZ w4 w3 hf hl) qa qc (g := mkF m pc Ls (argsL.reverse ++ .ref b :: rest)) rfl (hkk.trans hml.symm) (Steps.refl _) (argsL := argsL) (rest := rest) (lenOf hpd hlen) rfl (by show 2 * 0 + _ ≤ _; omega) hd (fun _ _ => ⟨rfl, eT, hcl, hsl⟩)
  dsimp only [Pt.U, Pt.locs, Pt.cells, Pt.slots] at X' e1 e2 e3 st hQ
  subst e1 e2 e3
  exact (k v T' Lc X' hQ).step fun _ q => st.trans q
theorem w_callSP (X : Stand p l e R s m args below meth c T locs cells slots) (hx : p.tables.exec = Jvm.exec) (hZ : Z.Warmed39 s.vm) (eT : T.heap = h) {kk : Nat} (hml : c.maxLocals = kk) (hkk : Ls.size = kk) {own : String} (hown : s.vm.findClass own = some m.cls) {index : Nat} {y : MethodName} {bytes : ByteArray} {maxL : Nat} {ret : Option FieldType} {f lo : Nat} {as' : Array Value} {rv : Value}
    (w1 : (Jvm.Cond.methodLink own index y).before a0 Z = true) (w2 : (Jvm.Cond.static y).before a0 Z = true) (w3 : (Jvm.Cond.initialized y.cls).before a0 Z = true) (w4 : (Jvm.Cond.code y bytes maxL ret).before a0 Z = true) (hy : y.cls ≠ "java/lang/invoke/MethodHandle" ∧ y.cls ≠ "java/lang/invoke/VarHandle")
    (hM : Ct l Z y bytes maxL ret ({ frames := f, cells := 0, slots := 0, locals := lo } : Room) as' h (fun v h' L => v = some rv ∧ h' = h ∧ L = [])) (hd : Dc c.code pc (.invokestatic index) 3 pc') {ps : List FieldType} {r : Option FieldType} (hpd : parseMethodDescriptor y.desc = some ⟨ps, r⟩) {argsL st rest : List Value} (has : argsL.toArray = as') (hst : st = argsL.reverse ++ rest) (hlen : argsL.length = ps.length) {W : Nat} (hW : (rest.map fun v => v.category).sum = W)
    (hf : f + 1 ≤ R.frames) (hl : W + (maxL + 11) + lo ≤ R.locals) (hcl : cells ≤ R.cells) (hsl : slots ≤ R.slots)
    (k : ∀ T', Stand p l e R s m args below meth c T' locs cells slots → T'.heap = h → Go p e below s Q C S (T'.setTop (mkF m pc' Ls (rv :: rest)))) :
    Go p e below s Q C S (T.setTop (mkF m pc Ls st)) := by
  refine w_callS X hx hZ eT hml hkk hown w1 w2 w3 w4 hy hM hd hpd has hst hlen hW hf hl hcl hsl fun v T' L X' hQ => ?_
  obtain ⟨rfl, e', rfl⟩ := hQ
  rw [List.append_nil] at X'
  exact k T' X' e'
theorem w_callVP (X : Stand p l e R s m args below meth c T locs cells slots) (hx : p.tables.exec = Jvm.exec) (hZ : Z.Warmed39 s.vm) (eT : T.heap = h) {kk : Nat} (hml : c.maxLocals = kk) (hkk : Ls.size = kk) {own : String} (hown : s.vm.findClass own = some m.cls) {index : Nat} {y : MethodName} {bytes : ByteArray} {maxL : Nat} {ret : Option FieldType} {f lo : Nat} {as' : Array Value} {rv : Value}
    (w1 : (Jvm.Cond.methodLink own index y).before a0 Z = true) (w2 : (Jvm.Cond.declares y).before a0 Z = true) (w5 : (Jvm.Cond.selects y.cls y y).before a0 Z = true) (w6 : (Jvm.Cond.instanceMethod y).before a0 Z = true) (w3 : (Jvm.Cond.initialized y.cls).before a0 Z = true) (w4 : (Jvm.Cond.code y bytes maxL ret).before a0 Z = true) (hy : y.cls ≠ "java/lang/invoke/MethodHandle" ∧ y.cls ≠ "java/lang/invoke/VarHandle")
    (hM : Ct l Z y bytes maxL ret ({ frames := f, cells := 0, slots := 0, locals := lo } : Room) as' h (fun v h' L => v = some rv ∧ h' = h ∧ L = [])) {b : Addr} (E : Exa Z h b y.cls) (hd : Dc c.code pc (.invokevirtual index) 3 pc') {ps : List FieldType} {r : Option FieldType} (hpd : parseMethodDescriptor y.desc = some ⟨ps, r⟩) {argsL st rest : List Value} (has : (.ref b :: argsL).toArray = as') (hst : st = argsL.reverse ++ .ref b :: rest) (hlen : argsL.length = ps.length) {W : Nat} (hW : (rest.map fun v => v.category).sum = W)
    (hf : f + 1 ≤ R.frames) (hl : W + (maxL + 11) + lo ≤ R.locals) (hcl : cells ≤ R.cells) (hsl : slots ≤ R.slots)
    (k : ∀ T', Stand p l e R s m args below meth c T' locs cells slots → T'.heap = h → Go p e below s Q C S (T'.setTop (mkF m pc' Ls (rv :: rest)))) :
    Go p e below s Q C S (T.setTop (mkF m pc Ls st)) := by
  refine w_callV X hx hZ eT hml hkk hown w1 w2 w5 w6 w3 w4 hy hM E hd hpd has hst hlen hW hf hl hcl hsl fun v T' L X' hQ => ?_
  obtain ⟨rfl, e', rfl⟩ := hQ
  rw [List.append_nil] at X'
  exact k T' X' e'
theorem w_callI (X : Stand p l e R s m args below meth c T locs cells slots) (hx : p.tables.exec = Jvm.exec) (hZ : Z.Warmed39 s.vm) (eT : T.heap = h) {kk : Nat} (hml : c.maxLocals = kk) (hkk : Ls.size = kk) {own : String} (hown : s.vm.findClass own = some m.cls) {index : Nat} {y : MethodName} {bytes : ByteArray} {maxL : Nat} {rm : Room} {as' : Array Value} {Qc : Option Value → Heap → List Loc → Prop} (hy1 : y.name = "<init>")
    (w1 : (Jvm.Cond.methodLink own index y).before a0 Z = true) (w6 : (Jvm.Cond.instanceMethod y).before a0 Z = true) (w3 : (Jvm.Cond.initialized y.cls).before a0 Z = true) (w4 : (Jvm.Cond.code y bytes maxL none).before a0 Z = true) (hy : y.cls ≠ "java/lang/invoke/MethodHandle" ∧ y.cls ≠ "java/lang/invoke/VarHandle")
    (hM : Ct l Z y bytes maxL none rm as' h Qc) {b : Addr} (hd : Dc c.code pc (.invokespecial index) 3 pc') {ps : List FieldType} {r : Option FieldType} (hpd : parseMethodDescriptor y.desc = some ⟨ps, r⟩) {argsL st rest : List Value} (has : (.ref b :: argsL).toArray = as') (hst : st = argsL.reverse ++ .ref b :: rest) (hlen : argsL.length = ps.length) {W : Nat} (hW : (rest.map fun v => v.category).sum = W)
    (hf : rm.frames + 1 ≤ R.frames) (hl : W + (maxL + 11) + rm.locals ≤ R.locals) (hcl : cells + rm.cells ≤ R.cells) (hsl : slots + rm.slots ≤ R.slots)
    (k : ∀ (v : Option Value) (T' : State) (L : List Loc), Stand p l e R s m args below meth c T' (locs ++ L) (cells + rm.cells) (slots + rm.slots) → Qc v T'.heap L → Go p e below s Q C S (T'.setTop (mkF m pc' Ls (v.toList ++ rest)))) :
    Go p e below s Q C S (T.setTop (mkF m pc Ls st)) := by
  subst hst has hW
  obtain ⟨hd, rfl⟩ := hd
  obtain ⟨v, _, ⟨T', L', k', n'⟩, -, X', ⟨Lc, hQ, e1, e2, e3⟩, st⟩ := X.specialBack hx (y := y) hy1 hown (mvT hZ w1) (mvT hZ w6) (mvT hZ w4) hy (backOf (W := (rest.map fun v => v.category).sum) hM hZ w4 w3 hf hl) (g := mkF m pc Ls (argsL.reverse ++ .ref b :: rest)) rfl (hkk.trans hml.symm) (Steps.refl _) (a := b) (argsL := argsL) (rest := rest) (lenOf hpd hlen) rfl (by show 2 * 0 + _ ≤ _; omega) hd (fun _ _ => ⟨rfl, eT, hcl, hsl⟩)
  dsimp only [Pt.U, Pt.locs, Pt.cells, Pt.slots] at X' e1 e2 e3 st hQ
  subst e1 e2 e3
  exact (k v T' Lc X' hQ).step fun _ q => st.trans q
theorem w_objinit (X : Stand p l e R s m args below meth c T locs cells slots) (hx : p.tables.exec = Jvm.exec) (hZ : Z.Warmed39 s.vm) (eT : T.heap = h) {kk : Nat} (hml : c.maxLocals = kk) (hkk : Ls.size = kk) {own : String} (hown : s.vm.findClass own = some m.cls) {index : Nat}
    (w1 : (Jvm.Cond.methodLink own index Lib.objectInit).before a0 Z = true) (w2 : (Jvm.Cond.instanceMethod Lib.objectInit).before a0 Z = true) (w3 : (Jvm.Cond.code Lib.objectInit ⟨#[0xb1]⟩ 1 none).before a0 Z = true) (hd : Dc c.code pc (.invokespecial index) 3 pc') {a : Addr} (hf : 1 ≤ R.frames) {W : Nat} (hW : (rest.map fun v => v.category).sum = W) (hl : W + 12 ≤ R.locals)
    (k : ∀ T', Stand p l e R s m args below meth c T' locs cells slots → T'.heap = h → Go p e below s Q C S (T'.setTop (mkF m pc' Ls rest))) : Go p e below s Q C S (T.setTop (mkF m pc Ls (.ref a :: rest))) := by
  obtain ⟨hd, rfl⟩ := hd
  obtain ⟨T', X', e', st⟩ := initO X hx hZ hown w1 w2 w3 eT (g := mkF m pc Ls (.ref a :: rest)) rfl (hkk.trans hml.symm) rfl hd hf (W := W) (by show 2 * 0 + _ ≤ _; omega) hl
  exact (k T' X' e').step st
/-! fields -/
theorem w_getf (X : Stand p l e R s m args below meth c T locs cells slots) (hx : p.tables.exec = Jvm.exec) (hZ : Z.Warmed39 s.vm) (eT : T.heap = h) {own O n d : String} {index : Nat} (hown : s.vm.findClass own = some m.cls) (w : (Jvm.Cond.fieldLink own index O n d).before a0 Z = true) {a : Addr} {v : Value} (F : Fld Z h a O n d v) (hd : Dc c.code pc (.getfield index) 3 pc')
    (k : ∀ T', Stand p l e R s m args below meth c T' locs cells slots → T'.heap = h → Go p e below s Q C S (T'.setTop (mkF m pc' Ls (v :: rest)))) : Go p e below s Q C S (T.setTop (mkF m pc Ls (.ref a :: rest))) := by
  obtain ⟨hd, rfl⟩ := hd
  obtain ⟨T', X', e', st⟩ := getF X hx hZ hown (host := "") (Or.inl w) Via.refl eT F (g := mkF m pc Ls (.ref a :: rest)) rfl rfl hd
  exact (k T' X' e').step st
theorem w_putf (X : Stand p l e R s m args below meth c T locs cells slots) (hx : p.tables.exec = Jvm.exec) (hZ : Z.Warmed39 s.vm) (eT : T.heap = h) {own O n d : String} {index kk : Nat} {ty : FieldType} (hown : s.vm.findClass own = some m.cls) (w : (Jvm.Cond.fieldLink own index O n d).before a0 Z = true) {a : Addr} {v old : Value} (F : Fld Z h a O n d old) (E : Exa Z h a O) (L : (Jvm.Cond.lays O O n d).before a0 Z = true ∨ ((Jvm.Cond.laysFinal O O n d).before a0 Z = true ∧ own = O ∧ meth.name = "<init>")) (wi : (Jvm.Cond.instantiable O kk).before a0 Z = true)
    (hty : parseFieldDescriptor d = some ty) (hn : narrow ty v = v) (hf : fits ty v = true) (hd : Dc c.code pc (.putfield index) 3 pc')
    (k : ∀ T' h', Stand p l e R s m args below meth c T' (locs ++ [⟨a, Jvm.RoadKit.slotOf Z O n d⟩]) cells slots → T'.heap = h' → Wr h h' a (Jvm.RoadKit.slotOf Z O n d) v → Go p e below s Q C S (T'.setTop (mkF m pc' Ls rest))) : Go p e below s Q C S (T.setTop (mkF m pc Ls (v :: .ref a :: rest))) := by
  obtain ⟨hd, rfl⟩ := hd
  obtain ⟨T', h', X', e', W, st⟩ := putF X hx hZ hown (host := "") (Or.inl w) Via.refl eT F E L wi hty hn hf (g := mkF m pc Ls (v :: .ref a :: rest)) rfl rfl hd
  exact (k T' h' X' e' W).step st
theorem w_new (X : Stand p l e R s m args below meth c T locs cells slots) (hx : p.tables.exec = Jvm.exec) (hZ : Z.Warmed39 s.vm) (eT : T.heap = h) {own K : String} {index n : Nat} (hown : s.vm.findClass own = some m.cls) (w : (Jvm.Cond.classLink own index K).before a0 Z = true) (wi : (Jvm.Cond.instantiable K n).before a0 Z = true) (wz : (Jvm.Cond.initialized K).before a0 Z = true) (hd : Dc c.code pc (.new index) 3 pc') (hcl : cells + 1 ≤ R.cells) (hsl : slots + n ≤ R.slots)
    (k : ∀ T' h' b, b = h.size → Stand p l e R s m args below meth c T' locs (cells + 1) (slots + n) → T'.heap = h' → Ext h h' → Exa Z h' b K → (∀ {O nm d : String} {ty : FieldType}, Laid Z a0 K O nm d → parseFieldDescriptor d = some ty → Fld Z h' b O nm d (defaultValue ty)) → Go p e below s Q C S (T'.setTop (mkF m pc' Ls (.ref b :: rest)))) : Go p e below s Q C S (T.setTop (mkF m pc Ls rest)) := by
  obtain ⟨hd, rfl⟩ := hd
  obtain ⟨T', h', X', e', E, A, D, -, st⟩ := newO X hx hZ hown w wi wz eT (g := mkF m pc Ls rest) rfl hd hcl hsl
  exact (k T' h' _ rfl X' e' E A D).step st
/-! arrays: n places, place i holds f i -/
def AV (Z : State) (h : Heap) (a : Addr) (ty : FieldType) (n : Nat) (f : Nat → Value) : Prop := n < 2 ^ 31 ∧ ∃ cl : Cell, Arr Z h a cl ty ∧ cl.slots.size = n ∧ ∀ i, i < n → cl.slots[i]? = some (f i)
theorem AV.lt {a : Addr} {ty : FieldType} {n : Nat} {f : Nat → Value} (A : AV Z h a ty n f) : a < h.size := by obtain ⟨-, c, A, -⟩ := A; exact A.lt
theorem AV.ext {a : Addr} {ty : FieldType} {n : Nat} {f : Nat → Value} {h' : Heap} (A : AV Z h a ty n f) (E : Ext h h') : AV Z h' a ty n f := by obtain ⟨h1, c, A, r⟩ := A; exact ⟨h1, c, A.ext E, r⟩
theorem AV.other {a b : Addr} {ty : FieldType} {n sl : Nat} {v : Value} {f : Nat → Value} {h' : Heap} (A : AV Z h a ty n f) (W : Wr h h' b sl v) (q : a ≠ b) : AV Z h' a ty n f := by obtain ⟨h1, c, A, r⟩ := A; exact ⟨h1, c, A.other W q, r⟩
theorem AV.keep {a : Addr} {ty : FieldType} {n : Nat} {ws : List Addr} {f : Nat → Value} {h' : Heap} (A : AV Z h a ty n f) (K : Keep h h' ws) (q : a ∉ ws) : AV Z h' a ty n f := by obtain ⟨h1, c, A, r⟩ := A; exact ⟨h1, c, ⟨K.2.1 a c A.1 q, A.2⟩, r⟩
theorem AV.congr {a : Addr} {ty : FieldType} {n : Nat} {f g : Nat → Value} (A : AV Z h a ty n f) (q : ∀ i, i < n → f i = g i) : AV Z h a ty n g := by obtain ⟨h1, c, A, r1, r2⟩ := A; exact ⟨h1, c, A, r1, fun i hi => by rw [r2 i hi, q i hi]⟩
theorem av_idx {j : Int32} {i n : Nat} {cl : Cell} (hj : j.toInt = (i : Int)) (hi : i < n) (hc : cl.slots.size = n) : ¬ (j < 0 ∨ cl.slots.size ≤ j.toNatClampNeg) ∧ j.toNatClampNeg = i := by
  have e0 : (0 : Int32).toInt = 0 := rfl
  simp only [Int32.lt_iff_toInt_lt, Int32.toNatClampNeg, e0, hj, hc]; omega
def put (f : Nat → Value) (i : Nat) (v : Value) : Nat → Value := fun k => if k = i then v else f k
theorem put_at (f : Nat → Value) (i : Nat) (v : Value) : put f i v i = v := by simp [put]
theorem put_ne (f : Nat → Value) {i k : Nat} (v : Value) (q : k ≠ i) : put f i v k = f k := by simp [put, q]
theorem AV.same {a : Addr} {ty : FieldType} {n : Nat} {v : Value} {f : Nat → Value} {h' : Heap} {i : Nat} (A : AV Z h a ty n f) (hi : i < n) (W : Wr h h' a i v) : AV Z h' a ty n (put f i v) := by
  obtain ⟨h1, c, A, r1, r2⟩ := A
  refine ⟨h1, _, A.same W, by rw [sz_set]; exact r1, fun k hk => ?_⟩
  by_cases u : k = i
  · subst u; rw [put_at]; simp [Cell.setSlot, r1, hk]
  · rw [put_ne _ _ u]; simp only [Cell.setSlot]; rw [Array.getElem?_setIfInBounds_ne (Ne.symm u)]; exact r2 k hk
theorem w_newarr (X : Stand p l e R s m args below meth c T locs cells slots) (hx : p.tables.exec = Jvm.exec) (hZ : Z.Warmed39 s.vm) (eT : T.heap = h) {aty : ArrayType} (w : (Jvm.Cond.arrayClass (newarray.typeOf aty)).before a0 Z = true) (hd : Dc c.code pc (.newarray aty) 2 pc') {z : Int32} {n cap : Nat} (hz : z.toInt = (n : Int)) (hcap : n ≤ cap) (hb : cap * 8 ≤ 536870912) (hcl : cells + 1 ≤ R.cells) (hsl : slots + cap ≤ R.slots)
    (k : ∀ T' h' b, b = h.size → Stand p l e R s m args below meth c T' locs (cells + 1) (slots + cap) → T'.heap = h' → Ext h h' → AV Z h' b (newarray.typeOf aty) n (fun _ => defaultValue (newarray.typeOf aty)) → Go p e below s Q C S (T'.setTop (mkF m pc' Ls (.ref b :: rest)))) : Go p e below s Q C S (T.setTop (mkF m pc Ls (.int z :: rest))) := by
  obtain ⟨hd, rfl⟩ := hd
  have e0 : (0 : Int32).toInt = 0 := rfl
  have hn : ¬ z < 0 := by rw [Int32.lt_iff_toInt_lt]; omega
  have en : z.toNatClampNeg = n := by simp only [Int32.toNatClampNeg]; omega
  have hlt := Int32.toInt_lt z
  obtain ⟨T', h', cA, X', e', E, A, st⟩ := newP X hx hZ w eT (g := mkF m pc Ls (.int z :: rest)) rfl hd rfl hn (cap := cap) (by omega) hb hcl hsl
  refine (k T' h' _ rfl X' e' E ⟨by omega, _, A, by rw [sz_new]; exact en, fun i hi => ?_⟩).step st
  simp [newA, en, hi]
theorem w_arrlen (X : Stand p l e R s m args below meth c T locs cells slots) (hx : p.tables.exec = Jvm.exec) (hZ : Z.Warmed39 s.vm) (eT : T.heap = h) {a : Addr} {ty : FieldType} {n : Nat} {f : Nat → Value} (A : AV Z h a ty n f) {z : Int32} (hz : z.toInt = (n : Int)) (hd : Dc c.code pc .arraylength 1 pc') (k : Go p e below s Q C S (T.setTop (mkF m pc' Ls (.int z :: rest)))) : Go p e below s Q C S (T.setTop (mkF m pc Ls (.ref a :: rest))) := by
  obtain ⟨hd, rfl⟩ := hd
  obtain ⟨h1, c, A, r1, -⟩ := A
  have ez : z = c.slots.size.toInt32 := Int32.toInt_inj.mp (by rw [len_toInt (by omega), hz, r1])
  subst ez
  exact k.step fun t q => X.arraylength hx (by rw [eT]; exact A.1) (State.isArrayOf_alike hZ.alike A.2.1) (g := mkF m pc Ls (.ref a :: rest)) rfl rfl hd t q
def iF (g : Nat → Int32) : Nat → Value := fun k => .int (g k)
def lF (g : Nat → Int64) : Nat → Value := fun k => .long (g k)
def upd {α : Type} (g : Nat → α) (i : Nat) (v : α) : Nat → α := fun k => if k = i then v else g k
theorem upd_at {α : Type} (g : Nat → α) (i : Nat) (v : α) : upd g i v i = v := by simp [upd]
theorem upd_ne {α : Type} (g : Nat → α) {i k : Nat} (v : α) (q : k ≠ i) : upd g i v k = g k := by simp [upd, q]
theorem put_iF (g : Nat → Int32) (i : Nat) (v : Int32) : put (iF g) i (.int v) = iF (upd g i v) := by funext k; simp only [put, iF, upd]; split <;> rfl
theorem put_lF (g : Nat → Int64) (i : Nat) (v : Int64) : put (lF g) i (.long v) = lF (upd g i v) := by funext k; simp only [put, lF, upd]; split <;> rfl
theorem w_baload (X : Stand p l e R s m args below meth c T locs cells slots) (hx : p.tables.exec = Jvm.exec) (hZ : Z.Warmed39 s.vm) (eT : T.heap = h) {a : Addr} {n : Nat} {g : Nat → Int32} (A : AV Z h a .byte n (iF g)) {j : Int32} {i : Nat} (hj : j.toInt = (i : Int)) (hi : i < n) {z : Int32} (hv : g i = z) (hd : Dc c.code pc .baload 1 pc') (k : Go p e below s Q C S (T.setTop (mkF m pc' Ls (.int z :: rest)))) : Go p e below s Q C S (T.setTop (mkF m pc Ls (.int j :: .ref a :: rest))) := by
  obtain ⟨hd, rfl⟩ := hd
  subst hv
  obtain ⟨h1, cl, A, r1, r2⟩ := A
  obtain ⟨q1, q2⟩ := av_idx hj hi r1
  exact k.step fun t q => X.baloadBytes hx (by rw [eT]; exact A.1) (State.isArrayOf_alike hZ.alike A.2.1) A.2.2 q1 (by rw [q2, r2 i hi]; rfl) (g := mkF m pc Ls (.int j :: .ref a :: rest)) rfl rfl hd t q
theorem w_iaload (X : Stand p l e R s m args below meth c T locs cells slots) (hx : p.tables.exec = Jvm.exec) (hZ : Z.Warmed39 s.vm) (eT : T.heap = h) {a : Addr} {n : Nat} {g : Nat → Int32} (A : AV Z h a .int n (iF g)) {j : Int32} {i : Nat} (hj : j.toInt = (i : Int)) (hi : i < n) {z : Int32} (hv : g i = z) (hd : Dc c.code pc .iaload 1 pc') (k : Go p e below s Q C S (T.setTop (mkF m pc' Ls (.int z :: rest)))) : Go p e below s Q C S (T.setTop (mkF m pc Ls (.int j :: .ref a :: rest))) := by
  obtain ⟨hd, rfl⟩ := hd
  subst hv
  obtain ⟨h1, cl, A, r1, r2⟩ := A
  obtain ⟨q1, q2⟩ := av_idx hj hi r1
  exact k.step fun t q => X.iaload hx (by rw [eT]; exact A.1) (State.isArrayOf_alike hZ.alike A.2.1) A.2.2 q1 (by rw [q2, r2 i hi]; rfl) (g := mkF m pc Ls (.int j :: .ref a :: rest)) rfl rfl hd t q
theorem w_laload (X : Stand p l e R s m args below meth c T locs cells slots) (hx : p.tables.exec = Jvm.exec) (hZ : Z.Warmed39 s.vm) (eT : T.heap = h) {a : Addr} {n : Nat} {g : Nat → Int64} (A : AV Z h a .long n (lF g)) {j : Int32} {i : Nat} (hj : j.toInt = (i : Int)) (hi : i < n) {z : Int64} (hv : g i = z) (hd : Dc c.code pc .laload 1 pc') (k : Go p e below s Q C S (T.setTop (mkF m pc' Ls (.long z :: rest)))) : Go p e below s Q C S (T.setTop (mkF m pc Ls (.int j :: .ref a :: rest))) := by
  obtain ⟨hd, rfl⟩ := hd
  subst hv
  obtain ⟨h1, cl, A, r1, r2⟩ := A
  obtain ⟨q1, q2⟩ := av_idx hj hi r1
  exact k.step fun t q => X.laload hx (by rw [eT]; exact A.1) (State.isArrayOf_alike hZ.alike A.2.1) A.2.2 q1 (by rw [q2, r2 i hi]; rfl) (g := mkF m pc Ls (.int j :: .ref a :: rest)) rfl rfl hd t q
theorem w_zaload (X : Stand p l e R s m args below meth c T locs cells slots) (hx : p.tables.exec = Jvm.exec) (hZ : Z.Warmed39 s.vm) (eT : T.heap = h) {a : Addr} {n : Nat} {g : Nat → Int32} (A : AV Z h a .boolean n (iF g)) {j : Int32} {i : Nat} (hj : j.toInt = (i : Int)) (hi : i < n) {z : Int32} (hv : g i = z) (hd : Dc c.code pc .baload 1 pc') (k : Go p e below s Q C S (T.setTop (mkF m pc' Ls (.int z :: rest)))) : Go p e below s Q C S (T.setTop (mkF m pc Ls (.int j :: .ref a :: rest))) := by
  obtain ⟨hd, rfl⟩ := hd
  subst hv
  obtain ⟨h1, cl, A, r1, r2⟩ := A
  obtain ⟨q1, q2⟩ := av_idx hj hi r1
  exact k.step fun t q => X.baloadBooleans hx (by rw [eT]; exact A.1) (State.isArrayOf_alike hZ.alike A.2.1) A.2.2 q1 (by rw [q2, r2 i hi]; rfl) (g := mkF m pc Ls (.int j :: .ref a :: rest)) rfl rfl hd t q
theorem w_bastore (X : Stand p l e R s m args below meth c T locs cells slots) (hx : p.tables.exec = Jvm.exec) (hZ : Z.Warmed39 s.vm) (eT : T.heap = h) {a : Addr} {n : Nat} {g : Nat → Int32} (A : AV Z h a .byte n (iF g)) {j : Int32} {x : Int32} {i : Nat} (hj : j.toInt = (i : Int)) (hi : i < n) (hd : Dc c.code pc .bastore 1 pc')
    (k : ∀ T' h', Stand p l e R s m args below meth c T' (locs ++ [⟨a, i⟩]) cells slots → T'.heap = h' → Wr h h' a i (.int (x.toInt8.toInt32)) → AV Z h' a .byte n (iF (upd g i (x.toInt8.toInt32))) → Go p e below s Q C S (T'.setTop (mkF m pc' Ls rest))) : Go p e below s Q C S (T.setTop (mkF m pc Ls (.int x :: .int j :: .ref a :: rest))) := by
  obtain ⟨hd, rfl⟩ := hd
  have A' := A
  obtain ⟨h1, cl, A, r1, r2⟩ := A
  obtain ⟨q1, q2⟩ := av_idx hj hi r1
  obtain ⟨T', h', X', e', W, st⟩ := stB X hx hZ eT A (j := j) q1 (g := mkF m pc Ls (.int x :: .int j :: .ref a :: rest)) rfl rfl hd
  rw [q2] at X' W
  exact (k T' h' X' e' W (put_iF g i _ ▸ A'.same hi W)).step st
theorem w_zastore (X : Stand p l e R s m args below meth c T locs cells slots) (hx : p.tables.exec = Jvm.exec) (hZ : Z.Warmed39 s.vm) (eT : T.heap = h) {a : Addr} {n : Nat} {g : Nat → Int32} (A : AV Z h a .boolean n (iF g)) {j : Int32} {x : Int32} {i : Nat} (hj : j.toInt = (i : Int)) (hi : i < n) (hd : Dc c.code pc .bastore 1 pc')
    (k : ∀ T' h', Stand p l e R s m args below meth c T' (locs ++ [⟨a, i⟩]) cells slots → T'.heap = h' → Wr h h' a i (.int (x &&& 1)) → AV Z h' a .boolean n (iF (upd g i (x &&& 1))) → Go p e below s Q C S (T'.setTop (mkF m pc' Ls rest))) : Go p e below s Q C S (T.setTop (mkF m pc Ls (.int x :: .int j :: .ref a :: rest))) := by
  obtain ⟨hd, rfl⟩ := hd
  have A' := A
  obtain ⟨h1, cl, A, r1, r2⟩ := A
  obtain ⟨q1, q2⟩ := av_idx hj hi r1
  obtain ⟨T', h', X', e', W, st⟩ := stZ X hx hZ eT A (j := j) q1 (g := mkF m pc Ls (.int x :: .int j :: .ref a :: rest)) rfl rfl hd
  rw [q2] at X' W
  exact (k T' h' X' e' W (put_iF g i _ ▸ A'.same hi W)).step st
theorem w_iastore (X : Stand p l e R s m args below meth c T locs cells slots) (hx : p.tables.exec = Jvm.exec) (hZ : Z.Warmed39 s.vm) (eT : T.heap = h) {a : Addr} {n : Nat} {g : Nat → Int32} (A : AV Z h a .int n (iF g)) {j : Int32} {x : Int32} {i : Nat} (hj : j.toInt = (i : Int)) (hi : i < n) (hd : Dc c.code pc .iastore 1 pc')
    (k : ∀ T' h', Stand p l e R s m args below meth c T' (locs ++ [⟨a, i⟩]) cells slots → T'.heap = h' → Wr h h' a i (.int (x)) → AV Z h' a .int n (iF (upd g i (x))) → Go p e below s Q C S (T'.setTop (mkF m pc' Ls rest))) : Go p e below s Q C S (T.setTop (mkF m pc Ls (.int x :: .int j :: .ref a :: rest))) := by
  obtain ⟨hd, rfl⟩ := hd
  have A' := A
  obtain ⟨h1, cl, A, r1, r2⟩ := A
  obtain ⟨q1, q2⟩ := av_idx hj hi r1
  obtain ⟨T', h', X', e', W, st⟩ := stI X hx hZ eT A (j := j) q1 (g := mkF m pc Ls (.int x :: .int j :: .ref a :: rest)) rfl rfl hd
  rw [q2] at X' W
  exact (k T' h' X' e' W (put_iF g i _ ▸ A'.same hi W)).step st
theorem w_lastore (X : Stand p l e R s m args below meth c T locs cells slots) (hx : p.tables.exec = Jvm.exec) (hZ : Z.Warmed39 s.vm) (eT : T.heap = h) {a : Addr} {n : Nat} {g : Nat → Int64} (A : AV Z h a .long n (lF g)) {j : Int32} {x : Int64} {i : Nat} (hj : j.toInt = (i : Int)) (hi : i < n) (hd : Dc c.code pc .lastore 1 pc')
    (k : ∀ T' h', Stand p l e R s m args below meth c T' (locs ++ [⟨a, i⟩]) cells slots → T'.heap = h' → Wr h h' a i (.long (x)) → AV Z h' a .long n (lF (upd g i (x))) → Go p e below s Q C S (T'.setTop (mkF m pc' Ls rest))) : Go p e below s Q C S (T.setTop (mkF m pc Ls (.long x :: .int j :: .ref a :: rest))) := by
  obtain ⟨hd, rfl⟩ := hd
  have A' := A
  obtain ⟨h1, cl, A, r1, r2⟩ := A
  obtain ⟨q1, q2⟩ := av_idx hj hi r1
  obtain ⟨T', h', X', e', W, st⟩ := stJ X hx hZ eT A (j := j) q1 (g := mkF m pc Ls (.long x :: .int j :: .ref a :: rest)) rfl rfl hd
  rw [q2] at X' W
  exact (k T' h' X' e' W (put_lF g i _ ▸ A'.same hi W)).step st
end Kit
section Num
/-! numbers: an int's or a long's unsigned worth -/
def u32 (x : Int32) : Nat := x.toBitVec.toNat
def u64 (x : Int64) : Nat := x.toBitVec.toNat
theorem u32_lt (x : Int32) : u32 x < 4294967296 := x.toBitVec.isLt
theorem u64_lt (x : Int64) : u64 x < 18446744073709551616 := x.toBitVec.isLt
theorem i_u32 (x : Int32) : x.toInt = if u32 x < 2147483648 then (u32 x : Int) else (u32 x : Int) - 4294967296 := by
  show x.toBitVec.toInt = _
  rw [BitVec.toInt_eq_toNat_cond]; unfold u32; split <;> split <;> omega
theorem i_u64 (x : Int64) : x.toInt = if u64 x < 9223372036854775808 then (u64 x : Int) else (u64 x : Int) - 18446744073709551616 := by
  show x.toBitVec.toInt = _
  rw [BitVec.toInt_eq_toNat_cond]; unfold u64; split <;> split <;> omega
theorem u32_i (x : Int32) : (u32 x : Int) = x.toInt % 4294967296 := by have := u32_lt x; rw [i_u32]; split <;> omega
theorem u64_i (x : Int64) : (u64 x : Int) = x.toInt % 18446744073709551616 := by have := u64_lt x; rw [i_u64]; split <;> omega
theorem u32_inj {x y : Int32} (q : u32 x = u32 y) : x = y := Int32.toBitVec_inj.mp (BitVec.eq_of_toNat_eq q)
theorem u64_inj {x y : Int64} (q : u64 x = u64 y) : x = y := Int64.toBitVec_inj.mp (BitVec.eq_of_toNat_eq q)
theorem i32_inj {x y : Int32} (q : x.toInt = y.toInt) : x = y := Int32.toInt_inj.mp q
theorem i64_inj {x y : Int64} (q : x.toInt = y.toInt) : x = y := Int64.toInt_inj.mp q
theorem i32_ne {x y : Int32} (q : x ≠ y) : x.toInt ≠ y.toInt := fun e => q (Int32.toInt_inj.mp e)
theorem i64_ne {x y : Int64} (q : x ≠ y) : x.toInt ≠ y.toInt := fun e => q (Int64.toInt_inj.mp e)
theorem i_rng32 (x : Int32) : -2147483648 ≤ x.toInt ∧ x.toInt ≤ 2147483647 := by have := u32_lt x; rw [i_u32]; split <;> omega
theorem i_rng64 (x : Int64) : -9223372036854775808 ≤ x.toInt ∧ x.toInt ≤ 9223372036854775807 := by have := u64_lt x; rw [i_u64]; split <;> omega
theorem u32_and (x m : Int32) {k : Nat} (hm : u32 m = 2 ^ k - 1) : u32 (x &&& m) = u32 x % 2 ^ k := by
  unfold u32 at *; rw [Int32.toBitVec_and, BitVec.toNat_and, hm, Nat.and_two_pow_sub_one_eq_mod]
theorem u64_and (x m : Int64) {k : Nat} (hm : u64 m = 2 ^ k - 1) : u64 (x &&& m) = u64 x % 2 ^ k := by
  unfold u64 at *; rw [Int64.toBitVec_and, BitVec.toNat_and, hm, Nat.and_two_pow_sub_one_eq_mod]
theorem and_or64 (x y z : Int64) : x &&& (y ||| z) = (x &&& y) ||| (x &&& z) := by
  apply Int64.toBitVec_inj.mp
  simp only [Int64.toBitVec_and, Int64.toBitVec_or]
  exact BitVec.and_or_distrib_left
theorem or_add {a b : Nat} (k : Nat) (ha : a % 2 ^ k = 0) (hb : b < 2 ^ k) : a ||| b = a + b := by
  obtain ⟨q, rfl⟩ := Nat.dvd_of_mod_eq_zero ha
  exact (Nat.two_pow_add_eq_or_of_lt hb q).symm
theorem u32_or {x y : Int32} (k : Nat) (ha : u32 x % 2 ^ k = 0) (hb : u32 y < 2 ^ k) : u32 (x ||| y) = u32 x + u32 y := by
  unfold u32 at *; rw [Int32.toBitVec_or, BitVec.toNat_or, or_add k ha hb]
theorem u64_or {x y : Int64} (k : Nat) (ha : u64 x % 2 ^ k = 0) (hb : u64 y < 2 ^ k) : u64 (x ||| y) = u64 x + u64 y := by
  unfold u64 at *; rw [Int64.toBitVec_or, BitVec.toNat_or, or_add k ha hb]
theorem u32_add (x y : Int32) : u32 (x + y) = (u32 x + u32 y) % 4294967296 := by unfold u32; rw [Int32.toBitVec_add, BitVec.toNat_add]
theorem u64_add (x y : Int64) : u64 (x + y) = (u64 x + u64 y) % 18446744073709551616 := by unfold u64; rw [Int64.toBitVec_add, BitVec.toNat_add]
theorem i_ofNat {k : Nat} (hk : k < 2147483648) : (Int32.ofNat k).toInt = (k : Int) := Int32.toInt_ofNat_of_lt (by omega)
theorem of_i {y : Int32} {k : Nat} (q : y.toInt = (k : Int)) : y = Int32.ofNat k := by
  have := i_rng32 y
  exact Int32.toInt_inj.mp (by rw [i_ofNat (by omega)]; exact q)
theorem sh64a : ∀ k : Fin 64, (((Int32.ofNat k.val &&& 0x3f).toInt64).toBitVec.smod 64).toNat = k.val := by decide +kernel
theorem sh64b : ∀ k : Fin 64, ((Int32.ofNat k.val &&& 0x3f).toInt64.toUInt64.toBitVec % 64).toNat = k.val := by decide +kernel
theorem sh32a : ∀ k : Fin 32, ((Int32.ofNat k.val &&& 31).toBitVec.smod 32).toNat = k.val := by decide +kernel
theorem sh32b : ∀ k : Fin 32, ((Int32.ofNat k.val &&& 31).toUInt32.toBitVec % 32).toNat = k.val := by decide +kernel
theorem u_lshl (x : Int64) {y : Int32} {k : Nat} (q : y.toInt = (k : Int)) (hk : k < 64) : u64 (LShl x y) = u64 x * 2 ^ k % 18446744073709551616 := by
  have e := sh64a ⟨k, hk⟩
  rw [of_i q]; unfold u64 LShl
  rw [Int64.toBitVec_shiftLeft, BitVec.shiftLeft_eq', e, BitVec.toNat_shiftLeft, Nat.shiftLeft_eq]
theorem i_lshr (x : Int64) {y : Int32} {k : Nat} (q : y.toInt = (k : Int)) (hk : k < 64) : (LShr x y).toInt = x.toInt / 2 ^ k := by
  have e := sh64a ⟨k, hk⟩
  rw [of_i q]; unfold LShr
  exact Jvm.Kit.i64_shr x _ e
theorem u_lushr (x : Int64) {y : Int32} {k : Nat} (q : y.toInt = (k : Int)) (hk : k < 64) : u64 (LUshr x y) = u64 x / 2 ^ k := by
  have e := sh64b ⟨k, hk⟩
  rw [of_i q]; unfold u64 LUshr
  show (x.toUInt64 >>> (Int32.ofNat k &&& 0x3f).toInt64.toUInt64).toBitVec.toNat = _
  rw [UInt64.toBitVec_shiftRight, BitVec.ushiftRight_eq', e, BitVec.toNat_ushiftRight, Nat.shiftRight_eq_div_pow]; rfl
theorem u_ishl (x : Int32) {y : Int32} {k : Nat} (q : y.toInt = (k : Int)) (hk : k < 32) : u32 (IShl x y) = u32 x * 2 ^ k % 4294967296 := by
  have e := sh32a ⟨k, hk⟩
  rw [of_i q]; unfold u32 IShl
  rw [Int32.toBitVec_shiftLeft, BitVec.shiftLeft_eq', e, BitVec.toNat_shiftLeft, Nat.shiftLeft_eq]
theorem i_ishr (x : Int32) {y : Int32} {k : Nat} (q : y.toInt = (k : Int)) (hk : k < 32) : (IShr x y).toInt = x.toInt / 2 ^ k := by
  have e := sh32a ⟨k, hk⟩
  rw [of_i q]; unfold IShr
  exact Jvm.Kit.i32_shr x _ e
theorem u_iushr (x : Int32) {y : Int32} {k : Nat} (q : y.toInt = (k : Int)) (hk : k < 32) : u32 (IUshr x y) = u32 x / 2 ^ k := by
  have e := sh32b ⟨k, hk⟩
  rw [of_i q]; unfold u32 IUshr
  show (x.toUInt32 >>> (Int32.ofNat k &&& 31).toUInt32).toBitVec.toNat = _
  rw [UInt32.toBitVec_shiftRight, BitVec.ushiftRight_eq', e, BitVec.toNat_ushiftRight, Nat.shiftRight_eq_div_pow]; rfl
theorem i_i2l (x : Int32) : x.toInt64.toInt = x.toInt := Int32.toInt_toInt64 x
theorem u_l2i (x : Int64) : u32 x.toInt32 = u64 x % 4294967296 := by
  have h1 := u32_i x.toInt32; have h2 := u64_i x
  have e : x.toInt.bmod (2 ^ 32) % 4294967296 = x.toInt % 4294967296 := Int.bmod_emod
  rw [Int64.toInt_toInt32, e] at h1
  omega
theorem i_i2b (x : Int32) : x.toInt8.toInt32.toInt = if x.toInt % 256 < 128 then x.toInt % 256 else x.toInt % 256 - 256 := by
  rw [Int8.toInt_toInt32, Int32.toInt_toInt8, Int.bmod_def]; split <;> split <;> omega
theorem u_i2b (x : Int32) : u32 x.toInt8.toInt32 % 256 = u32 x % 256 := by
  have h1 := u32_i x.toInt8.toInt32; have h2 := u32_i x; rw [i_i2b] at h1; split at h1 <;> omega
end Num
section Arr
variable {p : Program} {l : Launch} {e : Env} {R : Room} {s : State} {m : MethodId} {args : Array Value} {below : List Frame} {meth : Method} {c : Code} {T : State} {locs : List Loc} {cells slots : Nat} {Z : State} {a0 : Array Value} {h : Heap}
variable {Q : Option Value → Heap → List Loc → Prop} {C S : Nat} {pc pc' : Nat} {Ls Ls' : Array Slot} {rest : List Value}
/-! bytes: arrays copied and cloned; a private method -/
def lst (n : Nat) (g : Nat → Int32) : List Value := (List.range n).map fun i => .int (g i)
theorem lst_at {n : Nat} {g : Nat → Int32} {i : Nat} (hi : i < n) (d : Value) : (lst n g).getD i d = .int (g i) := by
  simp [lst, List.getD_eq_getElem?_getD, hi]
theorem clamp_n {n : Nat} (hn : n < 2147483648) : (Int32.ofNat n).toNatClampNeg = n := by
  simp only [Int32.toNatClampNeg, i_ofNat hn]; omega
theorem clamp_i {z : Int32} {n : Nat} (q : z.toInt = (n : Int)) : z.toNatClampNeg = n := by
  simp only [Int32.toNatClampNeg, q]; omega
theorem nneg {z : Int32} {n : Nat} (q : z.toInt = (n : Int)) : ¬ z < 0 := by
  have e0 : (0 : Int32).toInt = 0 := rfl
  rw [Int32.lt_iff_toInt_lt]; omega
theorem AV.toArv {a : Addr} {n : Nat} {g : Nat → Int32} (A : AV Z h a .byte n (iF g)) (hY : ∀ j, (g j).toInt8.toInt32 = g j) : ∃ k, Arv Z h a k .byte (Int32.ofNat n) (lst n g) (.int 0) := by
  obtain ⟨h1, cl, A, r1, r2⟩ := A
  refine ⟨cl.cls, cl, A, rfl, by rw [clamp_n (by omega)]; exact r1, nneg (i_ofNat (by omega)), fun i hi => ?_, fun i hi => ?_⟩
  · rw [r1] at hi; rw [r2 i hi, lst_at hi]; rfl
  · rw [r1] at hi; rw [lst_at hi, ← hY i]; exact fits_nar_byte _
theorem AV.ofArv {a : Addr} {n : Nat} {g : Nat → Int32} {k : ClassId} {z : Int32} {vs : List Value} {dv : Value} (A : Arv Z h a k .byte z vs dv) (hz : z.toInt = (n : Int)) (hg : ∀ i, i < n → vs.getD i dv = .int (g i)) : AV Z h a .byte n (iF g) := by
  obtain ⟨cl, A, -, r1, -, r2, -⟩ := A
  rw [clamp_i hz] at r1
  have := Int32.toInt_lt z
  exact ⟨by omega, cl, A, r1, fun i hi => by rw [r2 i (by omega), hg i hi]; rfl⟩
def cpy (ga gb : Nat → Int32) (sp dp n : Nat) : Nat → Int32 := fun j => if dp ≤ j ∧ j < dp + n then ga (sp + (j - dp)) else gb j
theorem w_acopy (X : Stand p l e R s m args below meth c T locs cells slots) (hx : p.tables.exec = Jvm.exec) (hZ : Z.Warmed39 s.vm) (eT : T.heap = h) {kk : Nat} (hml : c.maxLocals = kk) (hkk : Ls.size = kk) {own : String} (hown : s.vm.findClass own = some m.cls) {index : Nat}
    (w1 : (Jvm.Cond.methodLink own index Jvm.Stand.acN).before a0 Z = true) (w2 : (Jvm.Cond.native Jvm.Stand.acN).before a0 Z = true) (w3 : (Jvm.Cond.static Jvm.Stand.acN).before a0 Z = true) (w4 : (Jvm.Cond.initialized "java/lang/System").before a0 Z = true)
    {a b : Addr} {na nb : Nat} {ga gb : Nat → Int32} (A : AV Z h a .byte na (iF ga)) (B : AV Z h b .byte nb (iF gb)) (Ya : ∀ j, (ga j).toInt8.toInt32 = ga j) (Yb : ∀ j, (gb j).toInt8.toInt32 = gb j) {zs zd zn : Int32} {sp dp n : Nat} (hs : zs.toInt = (sp : Int)) (hd' : zd.toInt = (dp : Int)) (hn : zn.toInt = (n : Int)) (h4 : sp + n ≤ na) (h5 : dp + n ≤ nb) {n0 : Nat} (N : Fr n0 locs) (ge : n0 ≤ b)
    (hd : Dc c.code pc (.invokestatic index) 3 pc') (hf : 1 ≤ R.frames) {W : Nat} (hW : (rest.map fun v => v.category).sum = W) (hlo : W + (nativeFrameWords "java/lang/System" "arraycopy" 5 + 11) ≤ R.locals)
    (k : ∀ T' h' L, Stand p l e R s m args below meth c T' L cells slots → T'.heap = h' → Fr n0 L → Keep h h' [b] → AV Z h' b .byte nb (iF (cpy ga gb sp dp n)) → Go p e below s Q C S (T'.setTop (mkF m pc' Ls rest))) :
    Go p e below s Q C S (T.setTop (mkF m pc Ls (.int zn :: .int zd :: .ref b :: .int zs :: .ref a :: rest))) := by
  obtain ⟨hd, rfl⟩ := hd
  have na2 := A.1; have nb2 := B.1
  obtain ⟨ka, VA⟩ := A.toArv Ya
  obtain ⟨kb, VB⟩ := B.toArv Yb
  have ln : (lst nb gb).length = nb := by simp [lst]
  obtain ⟨T', h', L, X', e', N', K', V', st⟩ := cpA X hx hZ hown w1 w2 w3 w4 eT VA VB (us := (List.range zn.toNatClampNeg).map fun i => (lst na ga).getD (zs.toNatClampNeg + i) (.int 0)) (Or.inl ⟨rfl, rfl⟩) (nneg hs) (nneg hd') (nneg hn) (by rw [clamp_i hs, clamp_i hn, clamp_n (by omega)]; exact h4) (by rw [clamp_i hd', clamp_i hn, clamp_n (by omega)]; exact h5) rfl (by rw [clamp_i hd', clamp_i hn, ln]; exact h5) N ge (g := mkF m pc Ls (.int zn :: .int zd :: .ref b :: .int zs :: .ref a :: rest)) rfl (hkk.trans hml.symm) rfl hd hf (W := W) (by show 2 * 0 + _ ≤ _; omega) hlo
  refine (k T' h' L X' e' N' K' (AV.ofArv V' (i_ofNat (by omega)) fun i hi => ?_)).step st
  rw [clamp_i hd', clamp_i hn, clamp_i hs]
  have hlen1 : ((lst nb gb).take dp).length = dp := by rw [List.length_take, ln]; omega
  simp only [List.getD_eq_getElem?_getD]
  by_cases q1 : i < dp
  · rw [List.append_assoc, List.getElem?_append_left (by rw [hlen1]; exact q1), List.getElem?_take_of_lt q1, cpy, if_neg (by omega)]
    have := lst_at (g := gb) hi (.int 0); simpa [List.getD_eq_getElem?_getD] using this
  · by_cases q2 : i < dp + n
    · rw [List.append_assoc, List.getElem?_append_right (by rw [hlen1]; omega), hlen1, List.getElem?_append_left (by simp; omega), cpy, if_pos (by omega)]
      have q3 : i - dp < n := by omega
      have := lst_at (g := ga) (i := sp + (i - dp)) (n := na) (by omega) (.int 0)
      simp only [List.getD_eq_getElem?_getD] at this
      simp [q3, this]
    · rw [List.getElem?_append_right (by simp [hlen1]; omega), cpy, if_neg (by omega)]
      have e3 : ((lst nb gb).take dp ++ (List.range n).map fun i => (lst na ga)[sp + i]?.getD (.int 0)).length = dp + n := by simp [hlen1]
      rw [e3, List.getElem?_drop, show dp + n + (i - (dp + n)) = i by omega]
      have := lst_at (g := gb) hi (.int 0); simpa [List.getD_eq_getElem?_getD] using this
theorem w_newarrE (X : Stand p l e R s m args below meth c T locs cells slots) (hx : p.tables.exec = Jvm.exec) (hZ : Z.Warmed39 s.vm) (eT : T.heap = h) (w : (Jvm.Cond.arrayClass .byte).before a0 Z = true) (hd : Dc c.code pc (.newarray .byte) 2 pc') {z : Int32} {n cap : Nat} (hz : z.toInt = (n : Int)) (hcap : n ≤ cap) (hb : cap * 8 ≤ 536870912) (hcl : cells + 1 ≤ R.cells) (hsl : slots + cap ≤ R.slots)
    (k : ∀ T' h' b, b = h.size → Stand p l e R s m args below meth c T' locs (cells + 1) (slots + cap) → T'.heap = h' → Ext h h' → AV Z h' b .byte n (iF (fun _ => 0)) → Exa Z h' b "[B" → Go p e below s Q C S (T'.setTop (mkF m pc' Ls (.ref b :: rest)))) : Go p e below s Q C S (T.setTop (mkF m pc Ls (.int z :: rest))) := by
  obtain ⟨hd, rfl⟩ := hd
  have e0 : (0 : Int32).toInt = 0 := rfl
  have hn : ¬ z < 0 := nneg hz
  have en : z.toNatClampNeg = n := clamp_i hz
  have hlt := Int32.toInt_lt z
  obtain ⟨T', h', cA, X', e', E, A, EA, st⟩ := newPE X hx hZ (aty := .byte) w eT (g := mkF m pc Ls (.int z :: rest)) rfl hd rfl hn (cap := cap) (by omega) hb hcl hsl (ad := "[B") (by decide)
  refine (k T' h' _ rfl X' e' E ⟨by omega, _, A, by rw [sz_new]; exact en, fun i hi => ?_⟩ EA).step st
  simp [newA, en, hi, iF]; rfl
theorem w_clone (X : Stand p l e R s m args below meth c T locs cells slots) (hx : p.tables.exec = Jvm.exec) (hZ : Z.Warmed39 s.vm) (eT : T.heap = h) {kk : Nat} (hml : c.maxLocals = kk) (hkk : Ls.size = kk) {own : String} (hown : s.vm.findClass own = some m.cls) {index : Nat}
    (w1 : (Jvm.Cond.methodLink own index ⟨"[B", "clone", "()Ljava/lang/Object;"⟩).before a0 Z = true) (w2 : (Jvm.Cond.sameMethod "[B" "java/lang/Object" "clone" "()Ljava/lang/Object;").before a0 Z = true) (w3 : (Jvm.Cond.native ⟨"java/lang/Object", "clone", "()Ljava/lang/Object;"⟩).before a0 Z = true)
    (w4 : (Jvm.Cond.instanceMethod ⟨"java/lang/Object", "clone", "()Ljava/lang/Object;"⟩).before a0 Z = true) (w5 : (Jvm.Cond.selects "[B" ⟨"[B", "clone", "()Ljava/lang/Object;"⟩ ⟨"java/lang/Object", "clone", "()Ljava/lang/Object;"⟩).before a0 Z = true) (w6 : (Jvm.Cond.castable "[B" "java/lang/Cloneable").before a0 Z = true)
    {a : Addr} {n : Nat} {g : Nat → Int32} (A : AV Z h a .byte n (iF g)) (Y : ∀ j, (g j).toInt8.toInt32 = g j) (E : Exa Z h a "[B") (hd : Dc c.code pc (.invokevirtual index) 3 pc') (hf : 1 ≤ R.frames) {W cap : Nat} (hW : (rest.map fun v => v.category).sum = W) (hl : W + 14 ≤ R.locals) (hcap : n ≤ cap) (hcl : cells + 1 ≤ R.cells) (hsl : slots + cap ≤ R.slots)
    (k : ∀ T' h' b, b = h.size → Stand p l e R s m args below meth c T' locs (cells + 1) (slots + cap) → T'.heap = h' → Ext h h' → AV Z h' b .byte n (iF g) → Exa Z h' b "[B" → Go p e below s Q C S (T'.setTop (mkF m pc' Ls (.ref b :: rest)))) : Go p e below s Q C S (T.setTop (mkF m pc Ls (.ref a :: rest))) := by
  obtain ⟨hd, rfl⟩ := hd
  have n2 := A.1
  obtain ⟨ka, VA⟩ := A.toArv Y
  obtain ⟨T', h', X', e', EX, V', E', st⟩ := cloneH X hx hZ hown w1 w2 w3 w4 w5 w6 eT VA.arh E (g := mkF m pc Ls (.ref a :: rest)) rfl (hkk.trans hml.symm) rfl hd hf (W := W) (cap := cap) (by show 2 * 0 + _ ≤ _; omega) hl (by rw [clamp_n (by omega)]; exact hcap) hcl hsl
  exact (k T' h' _ rfl X' e' EX (AV.ofArv (show Arv Z h' h.size ka .byte (Int32.ofNat n) (lst n g) (.int 0) from V') (i_ofNat (by omega)) fun i hi => lst_at hi _) E').step st
theorem w_cast (X : Stand p l e R s m args below meth c T locs cells slots) (hx : p.tables.exec = Jvm.exec) (hZ : Z.Warmed39 s.vm) (eT : T.heap = h) {own K : String} (hown : s.vm.findClass own = some m.cls) {index : Nat} (w : (Jvm.Cond.classLink own index K).before a0 Z = true) {a : Addr} (E : Exa Z h a K) (hd : Dc c.code pc (.checkcast index) 3 pc')
    (k : ∀ T', Stand p l e R s m args below meth c T' locs cells slots → T'.heap = h → Go p e below s Q C S (T'.setTop (mkF m pc' Ls (.ref a :: rest)))) : Go p e below s Q C S (T.setTop (mkF m pc Ls (.ref a :: rest))) := by
  obtain ⟨hd, rfl⟩ := hd
  obtain ⟨T', X', e', st⟩ := castY X hx hZ hown w eT (Ins.self E) (g := mkF m pc Ls (.ref a :: rest)) rfl rfl hd
  exact (k T' X' e').step st
theorem own_sel {y : MethodName} {n : Nat} {args : Array Value} (hZ : Z.Warmed39 s.vm) (hins : (Jvm.Cond.instantiable y.cls n).before a0 Z = true) (hpriv : (Jvm.Cond.privateMethod y).before a0 Z = true) (hinst : (Jvm.Cond.instanceMethod y).before a0 Z = true) (hy : y.cls ≠ "java/lang/invoke/MethodHandle" ∧ y.cls ≠ "java/lang/invoke/VarHandle") : (Jvm.Cond.selects y.cls y y).before args s = true := by
  have h1 : (Jvm.Cond.instantiable y.cls n).before args s = true := mvT hZ hins
  obtain ⟨c, k, hc, hk, -, hniab, -, -⟩ := Cond.instantiable_spec h1
  exact selects_self_of_private hc hk (Bool.or_eq_false_iff.mp hniab).1 (Cond.privateMethod_at (mvP hZ hpriv (args := #[]))) (mvT hZ hinst) hy
theorem w_callP (X : Stand p l e R s m args below meth c T locs cells slots) (hx : p.tables.exec = Jvm.exec) (hZ : Z.Warmed39 s.vm) (eT : T.heap = h) {kk : Nat} (hml : c.maxLocals = kk) (hkk : Ls.size = kk) {own : String} (hown : s.vm.findClass own = some m.cls) {index : Nat} {y : MethodName} {bytes : ByteArray} {maxL : Nat} {ret : Option FieldType} {rm : Room} {as' : Array Value} {Qc : Option Value → Heap → List Loc → Prop} {nn : Nat}
    (w1 : (Jvm.Cond.methodLink own index y).before a0 Z = true) (w6 : (Jvm.Cond.instanceMethod y).before a0 Z = true) (w5 : (Jvm.Cond.instantiable y.cls nn).before a0 Z = true) (w7 : (Jvm.Cond.privateMethod y).before a0 Z = true) (w3 : (Jvm.Cond.initialized y.cls).before a0 Z = true) (w4 : (Jvm.Cond.code y bytes maxL ret).before a0 Z = true) (hy : y.cls ≠ "java/lang/invoke/MethodHandle" ∧ y.cls ≠ "java/lang/invoke/VarHandle")
    (hM : Ct l Z y bytes maxL ret rm as' h Qc) {b : Addr} (E : Exa Z h b y.cls) (hd : Dc c.code pc (.invokevirtual index) 3 pc') {ps : List FieldType} {r : Option FieldType} (hpd : parseMethodDescriptor y.desc = some ⟨ps, r⟩) {argsL st rest : List Value} (has : (.ref b :: argsL).toArray = as') (hst : st = argsL.reverse ++ .ref b :: rest) (hlen : argsL.length = ps.length) {W : Nat} (hW : (rest.map fun v => v.category).sum = W)
    (hf : rm.frames + 1 ≤ R.frames) (hl : W + (maxL + 11) + rm.locals ≤ R.locals) (hcl : cells + rm.cells ≤ R.cells) (hsl : slots + rm.slots ≤ R.slots)
    (k : ∀ (v : Option Value) (T' : State) (L : List Loc), Stand p l e R s m args below meth c T' (locs ++ L) (cells + rm.cells) (slots + rm.slots) → Qc v T'.heap L → Go p e below s Q C S (T'.setTop (mkF m pc' Ls (v.toList ++ rest)))) :
    Go p e below s Q C S (T.setTop (mkF m pc Ls st)) := by
  subst hst has hW
  obtain ⟨hd, rfl⟩ := hd
  obtain ⟨cq, q, q'⟩ := E.cell
  obtain ⟨v, _, ⟨T', L', k', n'⟩, -, X', ⟨Lc, hQ, e1, e2, e3⟩, st⟩ := X.privateBack hx (y := y) hown (mvT hZ w1) (mvT hZ w6) (own_sel hZ w5 w7 w6 hy) (Cond.privateMethod_at (mvP hZ w7 (args := #[]))) (mvT hZ w4) hy (backOf (W := (rest.map fun v => v.category).sum) hM hZ w4 w3 hf hl) (g := mkF m pc Ls (argsL.reverse ++ .ref b :: rest)) rfl (hkk.trans hml.symm) (Steps.refl _) (a := b) (by rw [eT]; exact q) q' (argsL := argsL) (rest := rest) (lenOf hpd hlen) rfl (by show 2 * 0 + _ ≤ _; omega) hd (fun _ _ => ⟨rfl, eT, hcl, hsl⟩)
  dsimp only [Pt.U, Pt.locs, Pt.cells, Pt.slots] at X' e1 e2 e3 st hQ
  subst e1 e2 e3
  exact (k v T' Lc X' hQ).step fun _ q => st.trans q
theorem w_acmpN (X : Stand p l e R s m args below meth c T locs cells slots) (hx : p.tables.exec = Jvm.exec) {o : Int} {a : Addr} {pcT pcF : Nat} (hd : Dj c.code pc (.if_acmp .ne o) o pcT pcF) (k : Go p e below s Q C S (T.setTop (mkF m pcF Ls rest))) : Go p e below s Q C S (T.setTop (mkF m pc Ls (.ref a :: .ref a :: rest))) :=
  w_acmp X hx hd rfl rfl (b := false) (by simp [acV]) k
theorem w_acmpE (X : Stand p l e R s m args below meth c T locs cells slots) (hx : p.tables.exec = Jvm.exec) {o : Int} {a : Addr} {pcT pcF : Nat} (hd : Dj c.code pc (.if_acmp .eq o) o pcT pcF) (k : Go p e below s Q C S (T.setTop (mkF m pcT Ls rest))) : Go p e below s Q C S (T.setTop (mkF m pc Ls (.ref a :: .ref a :: rest))) :=
  w_acmp X hx hd rfl rfl (b := true) (by simp [acV]) k
end Arr
theorem d0_0 : Dc code 0 (.iload_n 0) 1 1 := ⟨at_0, rfl⟩
theorem d0_1 : Dc code 1 (.bipush 127) 2 3 := ⟨at_1, rfl⟩
theorem d0_3 : Dc code 3 (.iand) 1 4 := ⟨at_3, rfl⟩
theorem d0_4 : Dc code 4 (.istore 5) 2 6 := ⟨at_4, rfl⟩
theorem d0_6 : Dc code 6 (.iload 5) 2 8 := ⟨at_6, rfl⟩
theorem d0_8 : Dc code 8 (.newarray .byte) 2 10 := ⟨at_8, rfl⟩
theorem d0_10 : Dc code 10 (.astore 6) 2 12 := ⟨at_10, rfl⟩
theorem d0_12 : Dc code 12 (.iload 5) 2 14 := ⟨at_12, rfl⟩
theorem d0_14 : Dj code 14 (.ifCond .le 19) 19 33 17 := ⟨at_14, by decide, by decide, rfl⟩
theorem d0_17 : Dc code 17 (.aload 6) 2 19 := ⟨at_17, rfl⟩
theorem d0_19 : Dc code 19 (.iconst 0) 1 20 := ⟨at_19, rfl⟩
theorem d0_20 : Dc code 20 (.iload_n 3) 1 21 := ⟨at_20, rfl⟩
theorem d0_21 : Dc code 21 (.i2b) 1 22 := ⟨at_21, rfl⟩
theorem d0_22 : Dc code 22 (.bastore) 1 23 := ⟨at_22, rfl⟩
theorem d0_23 : Dc code 23 (.aload 6) 2 25 := ⟨at_23, rfl⟩
theorem d0_25 : Dc code 25 (.iload 5) 2 27 := ⟨at_25, rfl⟩
theorem d0_27 : Dc code 27 (.iconst 1) 1 28 := ⟨at_27, rfl⟩
theorem d0_28 : Dc code 28 (.isub) 1 29 := ⟨at_28, rfl⟩
theorem d0_29 : Dc code 29 (.iload 4) 2 31 := ⟨at_29, rfl⟩
theorem d0_31 : Dc code 31 (.i2b) 1 32 := ⟨at_31, rfl⟩
theorem d0_32 : Dc code 32 (.bastore) 1 33 := ⟨at_32, rfl⟩
theorem d0_33 : Dc code 33 (.new 7) 3 36 := ⟨at_33, rfl⟩
theorem d0_36 : Dc code 36 (.dup) 1 37 := ⟨at_36, rfl⟩
theorem d0_37 : Dc code 37 (.invokespecial 9) 3 40 := ⟨at_37, rfl⟩
theorem d0_40 : Dc code 40 (.astore 7) 2 42 := ⟨at_40, rfl⟩
theorem d0_42 : Dc code 42 (.aload 7) 2 44 := ⟨at_42, rfl⟩
theorem d0_44 : Dc code 44 (.aload 6) 2 46 := ⟨at_44, rfl⟩
theorem d0_46 : Dc code 46 (.invokevirtual 10) 3 49 := ⟨at_46, rfl⟩
theorem d0_49 : Dc code 49 (.pop) 1 50 := ⟨at_49, rfl⟩
theorem d0_50 : Dc code 50 (.aload 7) 2 52 := ⟨at_50, rfl⟩
theorem d0_52 : Dc code 52 (.iload_n 1) 1 53 := ⟨at_52, rfl⟩
theorem d0_53 : Dc code 53 (.invokevirtual 14) 3 56 := ⟨at_53, rfl⟩
theorem d0_56 : Dc code 56 (.astore 8) 2 58 := ⟨at_56, rfl⟩
theorem d0_58 : Dc code 58 (.aload 7) 2 60 := ⟨at_58, rfl⟩
theorem d0_60 : Dc code 60 (.invokevirtual 18) 3 63 := ⟨at_60, rfl⟩
theorem d0_63 : Dc code 63 (.istore 9) 2 65 := ⟨at_63, rfl⟩
theorem d0_65 : Dc code 65 (.aload 7) 2 67 := ⟨at_65, rfl⟩
theorem d0_67 : Dc code 67 (.iload_n 2) 1 68 := ⟨at_67, rfl⟩
theorem d0_68 : Dc code 68 (.invokevirtual 14) 3 71 := ⟨at_68, rfl⟩
theorem d0_71 : Dc code 71 (.astore 10) 2 73 := ⟨at_71, rfl⟩
theorem d0_73 : Dc code 73 (.aload 7) 2 75 := ⟨at_73, rfl⟩
theorem d0_75 : Dc code 75 (.invokevirtual 18) 3 78 := ⟨at_75, rfl⟩
theorem d0_78 : Dc code 78 (.istore 11) 2 80 := ⟨at_78, rfl⟩
theorem d0_80 : Dc code 80 (.aload 7) 2 82 := ⟨at_80, rfl⟩
theorem d0_82 : Dc code 82 (.invokevirtual 22) 3 85 := ⟨at_82, rfl⟩
theorem d0_85 : Dc code 85 (.astore 12) 2 87 := ⟨at_85, rfl⟩
theorem d0_87 : Dc code 87 (.aload 8) 2 89 := ⟨at_87, rfl⟩
theorem d0_89 : Dc code 89 (.aload 7) 2 91 := ⟨at_89, rfl⟩
theorem d0_91 : Dj code 91 (.if_acmp .ne 10) 10 101 94 := ⟨at_91, by decide, by decide, rfl⟩
theorem d0_94 : Dc code 94 (.aload 10) 2 96 := ⟨at_94, rfl⟩
theorem d0_96 : Dc code 96 (.aload 7) 2 98 := ⟨at_96, rfl⟩
theorem d0_98 : Dj code 98 (.if_acmp .eq 5) 5 103 101 := ⟨at_98, by decide, by decide, rfl⟩
theorem d0_103 : Dc code 103 (.iload 9) 2 105 := ⟨at_103, rfl⟩
theorem d0_105 : Dc code 105 (.iload 5) 2 107 := ⟨at_105, rfl⟩
theorem d0_107 : Dc code 107 (.iconst 1) 1 108 := ⟨at_107, rfl⟩
theorem d0_108 : Dc code 108 (.iadd) 1 109 := ⟨at_108, rfl⟩
theorem d0_109 : Dj code 109 (.if_icmp .ne 22) 22 131 112 := ⟨at_109, by decide, by decide, rfl⟩
theorem d0_112 : Dc code 112 (.iload 11) 2 114 := ⟨at_112, rfl⟩
theorem d0_114 : Dc code 114 (.iload 5) 2 116 := ⟨at_114, rfl⟩
theorem d0_116 : Dc code 116 (.iconst 2) 1 117 := ⟨at_116, rfl⟩
theorem d0_117 : Dc code 117 (.iadd) 1 118 := ⟨at_117, rfl⟩
theorem d0_118 : Dj code 118 (.if_icmp .ne 13) 13 131 121 := ⟨at_118, by decide, by decide, rfl⟩
theorem d0_121 : Dc code 121 (.aload 12) 2 123 := ⟨at_121, rfl⟩
theorem d0_123 : Dc code 123 (.arraylength) 1 124 := ⟨at_123, rfl⟩
theorem d0_124 : Dc code 124 (.iload 5) 2 126 := ⟨at_124, rfl⟩
theorem d0_126 : Dc code 126 (.iconst 2) 1 127 := ⟨at_126, rfl⟩
theorem d0_127 : Dc code 127 (.iadd) 1 128 := ⟨at_127, rfl⟩
theorem d0_128 : Dj code 128 (.if_icmp .eq 5) 5 133 131 := ⟨at_128, by decide, by decide, rfl⟩
theorem d0_133 : Dc code 133 (.aload 12) 2 135 := ⟨at_133, rfl⟩
theorem d0_135 : Dc code 135 (.iload 5) 2 137 := ⟨at_135, rfl⟩
theorem d0_137 : Dc code 137 (.baload) 1 138 := ⟨at_137, rfl⟩
theorem d0_138 : Dc code 138 (.sipush 255) 3 141 := ⟨at_138, rfl⟩
theorem d0_141 : Dc code 141 (.iand) 1 142 := ⟨at_141, rfl⟩
theorem d0_142 : Dc code 142 (.iload_n 1) 1 143 := ⟨at_142, rfl⟩
theorem d0_143 : Dc code 143 (.sipush 255) 3 146 := ⟨at_143, rfl⟩
theorem d0_146 : Dc code 146 (.iand) 1 147 := ⟨at_146, rfl⟩
theorem d0_147 : Dj code 147 (.if_icmp .eq 5) 5 152 150 := ⟨at_147, by decide, by decide, rfl⟩
theorem d0_152 : Dc code 152 (.aload 12) 2 154 := ⟨at_152, rfl⟩
theorem d0_154 : Dc code 154 (.iload 5) 2 156 := ⟨at_154, rfl⟩
theorem d0_156 : Dc code 156 (.iconst 1) 1 157 := ⟨at_156, rfl⟩
theorem d0_157 : Dc code 157 (.iadd) 1 158 := ⟨at_157, rfl⟩
theorem d0_158 : Dc code 158 (.baload) 1 159 := ⟨at_158, rfl⟩
theorem d0_159 : Dc code 159 (.sipush 255) 3 162 := ⟨at_159, rfl⟩
theorem d0_162 : Dc code 162 (.iand) 1 163 := ⟨at_162, rfl⟩
theorem d0_163 : Dc code 163 (.iload_n 2) 1 164 := ⟨at_163, rfl⟩
theorem d0_164 : Dc code 164 (.sipush 255) 3 167 := ⟨at_164, rfl⟩
theorem d0_167 : Dc code 167 (.iand) 1 168 := ⟨at_167, rfl⟩
theorem d0_168 : Dj code 168 (.if_icmp .eq 5) 5 173 171 := ⟨at_168, by decide, by decide, rfl⟩
theorem d0_173 : Dc code 173 (.iload 5) 2 175 := ⟨at_173, rfl⟩
theorem d0_175 : Dj code 175 (.ifCond .le 45) 45 220 178 := ⟨at_175, by decide, by decide, rfl⟩
theorem d0_178 : Dc code 178 (.iload 5) 2 180 := ⟨at_178, rfl⟩
theorem d0_180 : Dc code 180 (.iconst 1) 1 181 := ⟨at_180, rfl⟩
theorem d0_181 : Dj code 181 (.if_icmp .ne 9) 9 190 184 := ⟨at_181, by decide, by decide, rfl⟩
theorem d0_184 : Dc code 184 (.iload 4) 2 186 := ⟨at_184, rfl⟩
theorem d0_186 : Dc code 186 (.i2b) 1 187 := ⟨at_186, rfl⟩
theorem d0_187 : Dj code 187 (.goto 5) 5 192 190 := ⟨at_187, by decide, by decide, rfl⟩
theorem d0_190 : Dc code 190 (.iload_n 3) 1 191 := ⟨at_190, rfl⟩
theorem d0_191 : Dc code 191 (.i2b) 1 192 := ⟨at_191, rfl⟩
theorem d0_192 : Dc code 192 (.istore 13) 2 194 := ⟨at_192, rfl⟩
theorem d0_194 : Dc code 194 (.aload 12) 2 196 := ⟨at_194, rfl⟩
theorem d0_196 : Dc code 196 (.iconst 0) 1 197 := ⟨at_196, rfl⟩
theorem d0_197 : Dc code 197 (.baload) 1 198 := ⟨at_197, rfl⟩
theorem d0_198 : Dc code 198 (.iload 13) 2 200 := ⟨at_198, rfl⟩
theorem d0_200 : Dj code 200 (.if_icmp .eq 5) 5 205 203 := ⟨at_200, by decide, by decide, rfl⟩
theorem d0_205 : Dc code 205 (.aload 12) 2 207 := ⟨at_205, rfl⟩
theorem d0_207 : Dc code 207 (.iload 5) 2 209 := ⟨at_207, rfl⟩
theorem d0_209 : Dc code 209 (.iconst 1) 1 210 := ⟨at_209, rfl⟩
theorem d0_210 : Dc code 210 (.isub) 1 211 := ⟨at_210, rfl⟩
theorem d0_211 : Dc code 211 (.baload) 1 212 := ⟨at_211, rfl⟩
theorem d0_212 : Dc code 212 (.iload 4) 2 214 := ⟨at_212, rfl⟩
theorem d0_214 : Dc code 214 (.i2b) 1 215 := ⟨at_214, rfl⟩
theorem d0_215 : Dj code 215 (.if_icmp .eq 5) 5 220 218 := ⟨at_215, by decide, by decide, rfl⟩
theorem d0_220 : Dc code 220 (.iconst 1) 1 221 := ⟨at_220, rfl⟩
theorem d0_221 : Dc code 221 (.ireturn) 1 222 := ⟨at_221, rfl⟩
theorem pn_0 : plainFor x = true := plainFor_of_name (by first | (simp [plainName, overriddenIn]; done) | decide +kernel)
theorem ef_0 (m : MethodId) (x0 : Int32) (x1 : Int32) (x2 : Int32) (x3 : Int32) (x4 : Int32) : entryFrame m #[(.int x0), (.int x1), (.int x2), (.int x3), (.int x4)] maxLocals = mkF m 0 #[.val (.int x0), .val (.int x1), .val (.int x2), .val (.int x3), .val (.int x4), .unset, .unset, .unset, .unset, .unset, .unset, .unset, .unset, .unset] [] := by first | (simp [entryFrame, mkF, argsToLocals, Value.category, maxLocals]; done) | rfl
theorem d1_0 : Dc prog_57_method_1_code 0 (.aload_n 0) 1 1 := ⟨by decide +kernel, rfl⟩
theorem d1_1 : Dc prog_57_method_1_code 1 (.invokespecial 1) 3 4 := ⟨by decide +kernel, rfl⟩
theorem d1_4 : Dc prog_57_method_1_code 4 (.aload_n 0) 1 5 := ⟨by decide +kernel, rfl⟩
theorem d1_5 : Dc prog_57_method_1_code 5 (.bipush 64) 2 7 := ⟨by decide +kernel, rfl⟩
theorem d1_7 : Dc prog_57_method_1_code 7 (.newarray .byte) 2 9 := ⟨by decide +kernel, rfl⟩
theorem d1_9 : Dc prog_57_method_1_code 9 (.putfield 9) 3 12 := ⟨by decide +kernel, rfl⟩
theorem d1_12 : Dc prog_57_method_1_code 12 (.return_) 1 13 := ⟨by decide +kernel, rfl⟩
theorem pn_1 : plainFor (⟨"com/example/queue_directory/queuedirectory/rpc/NdrWriter", "<init>", "()V"⟩ : MethodName) = true := plainFor_of_name (by first | (simp [plainName, overriddenIn]; done) | decide +kernel)
theorem ef_1 (m : MethodId) (x0 : Addr) : entryFrame m #[(.ref x0)] 1 = mkF m 0 #[.val (.ref x0)] [] := by first | (simp [entryFrame, mkF, argsToLocals, Value.category]; done) | rfl
theorem d3_0 : Dc prog_57_method_6_code 0 (.aload_n 0) 1 1 := ⟨by decide +kernel, rfl⟩
theorem d3_1 : Dc prog_57_method_6_code 1 (.aload_n 1) 1 2 := ⟨by decide +kernel, rfl⟩
theorem d3_2 : Dc prog_57_method_6_code 2 (.arraylength) 1 3 := ⟨by decide +kernel, rfl⟩
theorem d3_3 : Dc prog_57_method_6_code 3 (.invokevirtual 15) 3 6 := ⟨by decide +kernel, rfl⟩
theorem d3_6 : Dc prog_57_method_6_code 6 (.aload_n 1) 1 7 := ⟨by decide +kernel, rfl⟩
theorem d3_7 : Dc prog_57_method_6_code 7 (.iconst 0) 1 8 := ⟨by decide +kernel, rfl⟩
theorem d3_8 : Dc prog_57_method_6_code 8 (.aload_n 0) 1 9 := ⟨by decide +kernel, rfl⟩
theorem d3_9 : Dc prog_57_method_6_code 9 (.getfield 9) 3 12 := ⟨by decide +kernel, rfl⟩
theorem d3_12 : Dc prog_57_method_6_code 12 (.aload_n 0) 1 13 := ⟨by decide +kernel, rfl⟩
theorem d3_13 : Dc prog_57_method_6_code 13 (.getfield 19) 3 16 := ⟨by decide +kernel, rfl⟩
theorem d3_16 : Dc prog_57_method_6_code 16 (.aload_n 1) 1 17 := ⟨by decide +kernel, rfl⟩
theorem d3_17 : Dc prog_57_method_6_code 17 (.arraylength) 1 18 := ⟨by decide +kernel, rfl⟩
theorem d3_18 : Dc prog_57_method_6_code 18 (.invokestatic 49) 3 21 := ⟨by decide +kernel, rfl⟩
theorem d3_21 : Dc prog_57_method_6_code 21 (.aload_n 0) 1 22 := ⟨by decide +kernel, rfl⟩
theorem d3_22 : Dc prog_57_method_6_code 22 (.dup) 1 23 := ⟨by decide +kernel, rfl⟩
theorem d3_23 : Dc prog_57_method_6_code 23 (.getfield 19) 3 26 := ⟨by decide +kernel, rfl⟩
theorem d3_26 : Dc prog_57_method_6_code 26 (.aload_n 1) 1 27 := ⟨by decide +kernel, rfl⟩
theorem d3_27 : Dc prog_57_method_6_code 27 (.arraylength) 1 28 := ⟨by decide +kernel, rfl⟩
theorem d3_28 : Dc prog_57_method_6_code 28 (.iadd) 1 29 := ⟨by decide +kernel, rfl⟩
theorem d3_29 : Dc prog_57_method_6_code 29 (.putfield 19) 3 32 := ⟨by decide +kernel, rfl⟩
theorem d3_32 : Dc prog_57_method_6_code 32 (.aload_n 0) 1 33 := ⟨by decide +kernel, rfl⟩
theorem d3_33 : Dc prog_57_method_6_code 33 (.areturn) 1 34 := ⟨by decide +kernel, rfl⟩
theorem pn_3 : plainFor (⟨"com/example/queue_directory/queuedirectory/rpc/NdrWriter", "bytes", "([B)Lcom/example/queue_directory/queuedirectory/rpc/NdrWriter;"⟩ : MethodName) = true := plainFor_of_name (by first | (simp [plainName, overriddenIn]; done) | decide +kernel)
theorem ef_3 (m : MethodId) (x0 : Addr) (x1 : Addr) : entryFrame m #[(.ref x0), (.ref x1)] 2 = mkF m 0 #[.val (.ref x0), .val (.ref x1)] [] := by first | (simp [entryFrame, mkF, argsToLocals, Value.category]; done) | rfl
theorem d4_0 : Dc prog_57_method_10_code 0 (.aload_n 0) 1 1 := ⟨by decide +kernel, rfl⟩
theorem d4_1 : Dc prog_57_method_10_code 1 (.getfield 9) 3 4 := ⟨by decide +kernel, rfl⟩
theorem d4_4 : Dc prog_57_method_10_code 4 (.arraylength) 1 5 := ⟨by decide +kernel, rfl⟩
theorem d4_5 : Dc prog_57_method_10_code 5 (.aload_n 0) 1 6 := ⟨by decide +kernel, rfl⟩
theorem d4_6 : Dc prog_57_method_10_code 6 (.getfield 19) 3 9 := ⟨by decide +kernel, rfl⟩
theorem d4_9 : Dc prog_57_method_10_code 9 (.isub) 1 10 := ⟨by decide +kernel, rfl⟩
theorem d4_10 : Dc prog_57_method_10_code 10 (.iload_n 1) 1 11 := ⟨by decide +kernel, rfl⟩
theorem d4_11 : Dj prog_57_method_10_code 11 (.if_icmp .ge 30) 30 41 14 := ⟨by decide +kernel, by decide, by decide, rfl⟩
theorem d4_14 : Dc prog_57_method_10_code 14 (.aload_n 0) 1 15 := ⟨by decide +kernel, rfl⟩
theorem d4_15 : Dc prog_57_method_10_code 15 (.aload_n 0) 1 16 := ⟨by decide +kernel, rfl⟩
theorem d4_16 : Dc prog_57_method_10_code 16 (.getfield 9) 3 19 := ⟨by decide +kernel, rfl⟩
theorem d4_19 : Dc prog_57_method_10_code 19 (.aload_n 0) 1 20 := ⟨by decide +kernel, rfl⟩
theorem d4_20 : Dc prog_57_method_10_code 20 (.getfield 9) 3 23 := ⟨by decide +kernel, rfl⟩
theorem d4_23 : Dc prog_57_method_10_code 23 (.arraylength) 1 24 := ⟨by decide +kernel, rfl⟩
theorem d4_24 : Dc prog_57_method_10_code 24 (.iconst 2) 1 25 := ⟨by decide +kernel, rfl⟩
theorem d4_25 : Dc prog_57_method_10_code 25 (.imul) 1 26 := ⟨by decide +kernel, rfl⟩
theorem d4_26 : Dc prog_57_method_10_code 26 (.aload_n 0) 1 27 := ⟨by decide +kernel, rfl⟩
theorem d4_27 : Dc prog_57_method_10_code 27 (.getfield 19) 3 30 := ⟨by decide +kernel, rfl⟩
theorem d4_30 : Dc prog_57_method_10_code 30 (.iload_n 1) 1 31 := ⟨by decide +kernel, rfl⟩
theorem d4_31 : Dc prog_57_method_10_code 31 (.iadd) 1 32 := ⟨by decide +kernel, rfl⟩
theorem d4_32 : Dc prog_57_method_10_code 32 (.invokestatic 61) 3 35 := ⟨by decide +kernel, rfl⟩
theorem d4_35 : Dc prog_57_method_10_code 35 (.invokestatic 55) 3 38 := ⟨by decide +kernel, rfl⟩
theorem d4_38 : Dc prog_57_method_10_code 38 (.putfield 9) 3 41 := ⟨by decide +kernel, rfl⟩
theorem d4_41 : Dc prog_57_method_10_code 41 (.return_) 1 42 := ⟨by decide +kernel, rfl⟩
theorem pn_4 : plainFor (⟨"com/example/queue_directory/queuedirectory/rpc/NdrWriter", "room", "(I)V"⟩ : MethodName) = true := plainFor_of_name (by first | (simp [plainName, overriddenIn]; done) | decide +kernel)
theorem ef_4 (m : MethodId) (x0 : Addr) (x1 : Int32) : entryFrame m #[(.ref x0), (.int x1)] 2 = mkF m 0 #[.val (.ref x0), .val (.int x1)] [] := by first | (simp [entryFrame, mkF, argsToLocals, Value.category]; done) | rfl
theorem d5_0 : Dc prog_57_method_2_code 0 (.aload_n 0) 1 1 := ⟨by decide +kernel, rfl⟩
theorem d5_1 : Dc prog_57_method_2_code 1 (.iconst 1) 1 2 := ⟨by decide +kernel, rfl⟩
theorem d5_2 : Dc prog_57_method_2_code 2 (.invokevirtual 15) 3 5 := ⟨by decide +kernel, rfl⟩
theorem d5_5 : Dc prog_57_method_2_code 5 (.aload_n 0) 1 6 := ⟨by decide +kernel, rfl⟩
theorem d5_6 : Dc prog_57_method_2_code 6 (.getfield 9) 3 9 := ⟨by decide +kernel, rfl⟩
theorem d5_9 : Dc prog_57_method_2_code 9 (.aload_n 0) 1 10 := ⟨by decide +kernel, rfl⟩
theorem d5_10 : Dc prog_57_method_2_code 10 (.dup) 1 11 := ⟨by decide +kernel, rfl⟩
theorem d5_11 : Dc prog_57_method_2_code 11 (.getfield 19) 3 14 := ⟨by decide +kernel, rfl⟩
theorem d5_14 : Dc prog_57_method_2_code 14 (.dup_x1) 1 15 := ⟨by decide +kernel, rfl⟩
theorem d5_15 : Dc prog_57_method_2_code 15 (.iconst 1) 1 16 := ⟨by decide +kernel, rfl⟩
theorem d5_16 : Dc prog_57_method_2_code 16 (.iadd) 1 17 := ⟨by decide +kernel, rfl⟩
theorem d5_17 : Dc prog_57_method_2_code 17 (.putfield 19) 3 20 := ⟨by decide +kernel, rfl⟩
theorem d5_20 : Dc prog_57_method_2_code 20 (.iload_n 1) 1 21 := ⟨by decide +kernel, rfl⟩
theorem d5_21 : Dc prog_57_method_2_code 21 (.i2b) 1 22 := ⟨by decide +kernel, rfl⟩
theorem d5_22 : Dc prog_57_method_2_code 22 (.bastore) 1 23 := ⟨by decide +kernel, rfl⟩
theorem d5_23 : Dc prog_57_method_2_code 23 (.aload_n 0) 1 24 := ⟨by decide +kernel, rfl⟩
theorem d5_24 : Dc prog_57_method_2_code 24 (.areturn) 1 25 := ⟨by decide +kernel, rfl⟩
theorem pn_5 : plainFor (⟨"com/example/queue_directory/queuedirectory/rpc/NdrWriter", "u8", "(I)Lcom/example/queue_directory/queuedirectory/rpc/NdrWriter;"⟩ : MethodName) = true := plainFor_of_name (by first | (simp [plainName, overriddenIn]; done) | decide +kernel)
theorem ef_5 (m : MethodId) (x0 : Addr) (x1 : Int32) : entryFrame m #[(.ref x0), (.int x1)] 2 = mkF m 0 #[.val (.ref x0), .val (.int x1)] [] := by first | (simp [entryFrame, mkF, argsToLocals, Value.category]; done) | rfl
theorem d6_0 : Dc prog_57_method_8_code 0 (.aload_n 0) 1 1 := ⟨by decide +kernel, rfl⟩
theorem d6_1 : Dc prog_57_method_8_code 1 (.getfield 19) 3 4 := ⟨by decide +kernel, rfl⟩
theorem d6_4 : Dc prog_57_method_8_code 4 (.ireturn) 1 5 := ⟨by decide +kernel, rfl⟩
theorem pn_6 : plainFor (⟨"com/example/queue_directory/queuedirectory/rpc/NdrWriter", "length", "()I"⟩ : MethodName) = true := plainFor_of_name (by first | (simp [plainName, overriddenIn]; done) | decide +kernel)
theorem ef_6 (m : MethodId) (x0 : Addr) : entryFrame m #[(.ref x0)] 1 = mkF m 0 #[.val (.ref x0)] [] := by first | (simp [entryFrame, mkF, argsToLocals, Value.category]; done) | rfl
theorem d7_0 : Dc prog_57_method_9_code 0 (.aload_n 0) 1 1 := ⟨by decide +kernel, rfl⟩
theorem d7_1 : Dc prog_57_method_9_code 1 (.getfield 9) 3 4 := ⟨by decide +kernel, rfl⟩
theorem d7_4 : Dc prog_57_method_9_code 4 (.aload_n 0) 1 5 := ⟨by decide +kernel, rfl⟩
theorem d7_5 : Dc prog_57_method_9_code 5 (.getfield 19) 3 8 := ⟨by decide +kernel, rfl⟩
theorem d7_8 : Dc prog_57_method_9_code 8 (.invokestatic 55) 3 11 := ⟨by decide +kernel, rfl⟩
theorem d7_11 : Dc prog_57_method_9_code 11 (.areturn) 1 12 := ⟨by decide +kernel, rfl⟩
theorem pn_7 : plainFor (⟨"com/example/queue_directory/queuedirectory/rpc/NdrWriter", "toByteArray", "()[B"⟩ : MethodName) = true := plainFor_of_name (by first | (simp [plainName, overriddenIn]; done) | decide +kernel)
theorem ef_7 (m : MethodId) (x0 : Addr) : entryFrame m #[(.ref x0)] 1 = mkF m 0 #[.val (.ref x0)] [] := by first | (simp [entryFrame, mkF, argsToLocals, Value.category]; done) | rfl
theorem d8_0 : Dc jdk_65_method_121_code 0 (.iload_n 1) 1 1 := ⟨by decide +kernel, rfl⟩
theorem d8_1 : Dc jdk_65_method_121_code 1 (.aload_n 0) 1 2 := ⟨by decide +kernel, rfl⟩
theorem d8_2 : Dc jdk_65_method_121_code 2 (.arraylength) 1 3 := ⟨by decide +kernel, rfl⟩
theorem d8_3 : Dj jdk_65_method_121_code 3 (.if_icmp .ne 11) 11 14 6 := ⟨by decide +kernel, by decide, by decide, rfl⟩
theorem d8_6 : Dc jdk_65_method_121_code 6 (.aload_n 0) 1 7 := ⟨by decide +kernel, rfl⟩
theorem d8_7 : Dc jdk_65_method_121_code 7 (.invokevirtual 310) 3 10 := ⟨by decide +kernel, rfl⟩
theorem d8_10 : Dc jdk_65_method_121_code 10 (.checkcast 311) 3 13 := ⟨by decide +kernel, rfl⟩
theorem d8_13 : Dc jdk_65_method_121_code 13 (.areturn) 1 14 := ⟨by decide +kernel, rfl⟩
theorem d8_14 : Dc jdk_65_method_121_code 14 (.iload_n 1) 1 15 := ⟨by decide +kernel, rfl⟩
theorem d8_15 : Dc jdk_65_method_121_code 15 (.newarray .byte) 2 17 := ⟨by decide +kernel, rfl⟩
theorem d8_17 : Dc jdk_65_method_121_code 17 (.astore_n 2) 1 18 := ⟨by decide +kernel, rfl⟩
theorem d8_18 : Dc jdk_65_method_121_code 18 (.aload_n 0) 1 19 := ⟨by decide +kernel, rfl⟩
theorem d8_19 : Dc jdk_65_method_121_code 19 (.iconst 0) 1 20 := ⟨by decide +kernel, rfl⟩
theorem d8_20 : Dc jdk_65_method_121_code 20 (.aload_n 2) 1 21 := ⟨by decide +kernel, rfl⟩
theorem d8_21 : Dc jdk_65_method_121_code 21 (.iconst 0) 1 22 := ⟨by decide +kernel, rfl⟩
theorem d8_22 : Dc jdk_65_method_121_code 22 (.aload_n 0) 1 23 := ⟨by decide +kernel, rfl⟩
theorem d8_23 : Dc jdk_65_method_121_code 23 (.arraylength) 1 24 := ⟨by decide +kernel, rfl⟩
theorem d8_24 : Dc jdk_65_method_121_code 24 (.iload_n 1) 1 25 := ⟨by decide +kernel, rfl⟩
theorem d8_25 : Dc jdk_65_method_121_code 25 (.invokestatic 304) 3 28 := ⟨by decide +kernel, rfl⟩
theorem d8_28 : Dc jdk_65_method_121_code 28 (.invokestatic 150) 3 31 := ⟨by decide +kernel, rfl⟩
theorem d8_31 : Dc jdk_65_method_121_code 31 (.aload_n 2) 1 32 := ⟨by decide +kernel, rfl⟩
theorem d8_32 : Dc jdk_65_method_121_code 32 (.areturn) 1 33 := ⟨by decide +kernel, rfl⟩
theorem pn_8 : plainFor (⟨"java/util/Arrays", "copyOf", "([BI)[B"⟩ : MethodName) = true := plainFor_of_name (by first | (simp [plainName, overriddenIn]; done) | decide +kernel)
theorem ef_8 (m : MethodId) (x0 : Addr) (x1 : Int32) : entryFrame m #[(.ref x0), (.int x1)] 3 = mkF m 0 #[.val (.ref x0), .val (.int x1), .unset] [] := by first | (simp [entryFrame, mkF, argsToLocals, Value.category]; done) | rfl
theorem d9_0 : Dc jdk_29_method_69_code 0 (.iload_n 0) 1 1 := ⟨by decide +kernel, rfl⟩
theorem d9_1 : Dc jdk_29_method_69_code 1 (.iload_n 1) 1 2 := ⟨by decide +kernel, rfl⟩
theorem d9_2 : Dj jdk_29_method_69_code 2 (.if_icmp .gt 7) 7 9 5 := ⟨by decide +kernel, by decide, by decide, rfl⟩
theorem d9_5 : Dc jdk_29_method_69_code 5 (.iload_n 0) 1 6 := ⟨by decide +kernel, rfl⟩
theorem d9_6 : Dj jdk_29_method_69_code 6 (.goto 4) 4 10 9 := ⟨by decide +kernel, by decide, by decide, rfl⟩
theorem d9_9 : Dc jdk_29_method_69_code 9 (.iload_n 1) 1 10 := ⟨by decide +kernel, rfl⟩
theorem d9_10 : Dc jdk_29_method_69_code 10 (.ireturn) 1 11 := ⟨by decide +kernel, rfl⟩
theorem pn_9 : plainFor (⟨"java/lang/Math", "min", "(II)I"⟩ : MethodName) = true := Jvm.Free.JP.mathPlain rfl (by decide +kernel)
theorem ef_9 (m : MethodId) (x0 : Int32) (x1 : Int32) : entryFrame m #[(.int x0), (.int x1)] 2 = mkF m 0 #[.val (.int x0), .val (.int x1)] [] := by first | (simp [entryFrame, mkF, argsToLocals, Value.category]; done) | rfl
theorem d10_0 : Dc jdk_29_method_65_code 0 (.iload_n 0) 1 1 := ⟨by decide +kernel, rfl⟩
theorem d10_1 : Dc jdk_29_method_65_code 1 (.iload_n 1) 1 2 := ⟨by decide +kernel, rfl⟩
theorem d10_2 : Dj jdk_29_method_65_code 2 (.if_icmp .lt 7) 7 9 5 := ⟨by decide +kernel, by decide, by decide, rfl⟩
theorem d10_5 : Dc jdk_29_method_65_code 5 (.iload_n 0) 1 6 := ⟨by decide +kernel, rfl⟩
theorem d10_6 : Dj jdk_29_method_65_code 6 (.goto 4) 4 10 9 := ⟨by decide +kernel, by decide, by decide, rfl⟩
theorem d10_9 : Dc jdk_29_method_65_code 9 (.iload_n 1) 1 10 := ⟨by decide +kernel, rfl⟩
theorem d10_10 : Dc jdk_29_method_65_code 10 (.ireturn) 1 11 := ⟨by decide +kernel, rfl⟩
theorem pn_10 : plainFor (⟨"java/lang/Math", "max", "(II)I"⟩ : MethodName) = true := Jvm.Free.JP.mathPlain rfl (by decide +kernel)
theorem ef_10 (m : MethodId) (x0 : Int32) (x1 : Int32) : entryFrame m #[(.int x0), (.int x1)] 2 = mkF m 0 #[.val (.int x0), .val (.int x1)] [] := by first | (simp [entryFrame, mkF, argsToLocals, Value.category]; done) | rfl
theorem pd_0 : parseMethodDescriptor "(II)I" = some ⟨[.int, .int], some .int⟩ := by decide +kernel
theorem pd_1 : parseMethodDescriptor "([BI)[B" = some ⟨[(.array .byte), .int], some (.array .byte)⟩ := by decide +kernel
theorem pd_2 : parseMethodDescriptor "(I)V" = some ⟨[.int], none⟩ := by decide +kernel
theorem pd_3 : parseMethodDescriptor "()V" = some ⟨[], none⟩ := by decide +kernel
theorem pd_4 : parseMethodDescriptor "([B)Lcom/example/queue_directory/queuedirectory/rpc/NdrWriter;" = some ⟨[(.array .byte)], some (.object "com/example/queue_directory/queuedirectory/rpc/NdrWriter")⟩ := by decide +kernel
theorem pd_5 : parseMethodDescriptor "(I)Lcom/example/queue_directory/queuedirectory/rpc/NdrWriter;" = some ⟨[.int], some (.object "com/example/queue_directory/queuedirectory/rpc/NdrWriter")⟩ := by decide +kernel
theorem pd_6 : parseMethodDescriptor "()I" = some ⟨[], some .int⟩ := by decide +kernel
theorem pd_7 : parseMethodDescriptor "()[B" = some ⟨[], some (.array .byte)⟩ := by decide +kernel

theorem i2b_i2b (x : Int32) : x.toInt8.toInt32.toInt8.toInt32 = x.toInt8.toInt32 := i32_inj (by
  have h1 := i_i2b x.toInt8.toInt32; have h2 := i_i2b x
  rw [h1]; split at h2 <;> split <;> omega)
def minI (x y : Int32) : Int32 := if y.toInt < x.toInt then y else x
def maxI (x y : Int32) : Int32 := if x.toInt < y.toInt then y else x
theorem min_i (x y : Int32) : (minI x y).toInt = min x.toInt y.toInt := by unfold minI; split <;> omega
theorem max_i (x y : Int32) : (maxI x y).toInt = max x.toInt y.toInt := by unfold maxI; split <;> omega
def Byt (g : Nat → Int32) : Prop := ∀ j, (g j).toInt8.toInt32 = g j
def Zro (n : Nat) (g : Nat → Int32) : Prop := ∀ j, n ≤ j → g j = 0
theorem byt0 : Byt (fun _ => (0 : Int32)) := fun _ => rfl
theorem zro0 (n : Nat) : Zro n (fun _ => (0 : Int32)) := fun _ _ => rfl
theorem byt_upd {g : Nat → Int32} (h : Byt g) (i : Nat) (v : Int32) : Byt (upd g i v.toInt8.toInt32) := fun j => by
  by_cases q : j = i
  · subst q; rw [upd_at]; exact i2b_i2b v
  · rw [upd_ne _ _ q]; exact h j
theorem zro_upd {g : Nat → Int32} {n : Nat} (h : Zro n g) (v : Int32) : Zro (n + 1) (upd g n v) := fun j hj => by rw [upd_ne _ _ (by omega)]; exact h j (by omega)
theorem zro_mono {g : Nat → Int32} {n n' : Nat} (h : Zro n g) (q : n ≤ n') : Zro n' g := fun j hj => h j (by omega)
theorem byt_cpy {a b : Nat → Int32} (ha : Byt a) (hb : Byt b) (s d n : Nat) : Byt (cpy a b s d n) := fun j => by
  unfold cpy; split
  · exact ha _
  · exact hb _
theorem zro_cpy {a b : Nat → Int32} {d : Nat} (hb : Zro d b) (s n : Nat) : Zro (d + n) (cpy a b s d n) := fun j hj => by
  unfold cpy; rw [if_neg (by omega)]; exact hb j (by omega)
/-- an array's first n places, 0 behind -/
def ext0 (g : Nat → Int32) (n : Nat) : Nat → Int32 := fun j => if j < n then g j else 0
theorem byt_ext {g : Nat → Int32} (h : Byt g) (n : Nat) : Byt (ext0 g n) := fun j => by
  unfold ext0; split
  · exact h j
  · rfl
def capf (cap len cnt : Nat) : Nat := if len + cnt ≤ cap then cap else max (2 * cap) (len + cnt)
theorem capf_f {cap len cnt : Nat} (h : len + cnt ≤ cap) : capf cap len cnt = cap := if_pos h
theorem capf_g {cap len cnt : Nat} (h : ¬ len + cnt ≤ cap) : capf cap len cnt = max (2 * cap) (len + cnt) := if_neg h
theorem ne_keep {o ar ar' n : Nat} (h : o ≠ ar) (lt : o < n) (q : ar' = ar ∨ n ≤ ar') : o ≠ ar' := by
  rcases q with rfl | q
  · exact h
  · omega
theorem in_ws {x0 ar ar' n : Nat} (q : ar' = ar ∨ n ≤ ar') : ar' ∈ [x0, ar] ∨ n ≤ ar' := q.imp (fun e => by rw [e]; exact List.mem_cons_of_mem _ (List.mem_singleton.mpr rfl)) id

set_option maxRecDepth 65536 in
set_option maxHeartbeats 40000000 in
theorem ct9 (l : Launch) (Z : State) (a0 : Array Value) (hw : ∀ d ∈ tables_1, d.before a0 Z = true) (x0 : Int32) (x1 : Int32) (h0 : Heap)  :
    Ct l Z (⟨"java/lang/Math", "min", "(II)I"⟩ : MethodName) jdk_29_method_69_code 2 (some .int) ({ frames := 0, cells := 0, slots := 0, locals := 0 } : Room) #[(.int x0), (.int x1)] h0 (fun v h' L => v = some (.int (minI x0 x1)) ∧ h' = h0 ∧ L = []) := by
  refine Ct.body pn_9 ?_
  intro p e s m below meth c T X hx hby hml hown hnm hret hlk hZ eT
  rw [ef_9]

  refine w_iloadN X hx (dq hby d9_0) rfl ?_
  refine w_iloadN X hx (dq hby d9_1) rfl ?_
  refine w_icmp_gt X hx (dj hby d9_2) (fun hc2 => ?_) (fun hc2 => ?_)
  · refine w_iloadN X hx (dq hby d9_9) rfl ?_
    refine w_retI X hx hret hlk (dq hby d9_10) (by decide) (by decide) ?_
    exact ⟨by unfold minI; split <;> first | rfl | omega, eT, rfl⟩
  · refine w_iloadN X hx (dq hby d9_5) rfl ?_
    refine w_goto X hx (dj hby d9_6) ?_
    refine w_retI X hx hret hlk (dq hby d9_10) (by decide) (by decide) ?_
    exact ⟨by unfold minI; split <;> first | rfl | omega, eT, rfl⟩
set_option maxRecDepth 65536 in
set_option maxHeartbeats 40000000 in
theorem ct10 (l : Launch) (Z : State) (a0 : Array Value) (hw : ∀ d ∈ tables_1, d.before a0 Z = true) (x0 : Int32) (x1 : Int32) (h0 : Heap)  :
    Ct l Z (⟨"java/lang/Math", "max", "(II)I"⟩ : MethodName) jdk_29_method_65_code 2 (some .int) ({ frames := 0, cells := 0, slots := 0, locals := 0 } : Room) #[(.int x0), (.int x1)] h0 (fun v h' L => v = some (.int (maxI x0 x1)) ∧ h' = h0 ∧ L = []) := by
  refine Ct.body pn_10 ?_
  intro p e s m below meth c T X hx hby hml hown hnm hret hlk hZ eT
  rw [ef_10]

  refine w_iloadN X hx (dq hby d10_0) rfl ?_
  refine w_iloadN X hx (dq hby d10_1) rfl ?_
  refine w_icmp_lt X hx (dj hby d10_2) (fun hc2 => ?_) (fun hc2 => ?_)
  · refine w_iloadN X hx (dq hby d10_9) rfl ?_
    refine w_retI X hx hret hlk (dq hby d10_10) (by decide) (by decide) ?_
    exact ⟨by unfold maxI; split <;> first | rfl | omega, eT, rfl⟩
  · refine w_iloadN X hx (dq hby d10_5) rfl ?_
    refine w_goto X hx (dj hby d10_6) ?_
    refine w_retI X hx hret hlk (dq hby d10_10) (by decide) (by decide) ?_
    exact ⟨by unfold maxI; split <;> first | rfl | omega, eT, rfl⟩

theorem own_cp {g : Nat → Int32} {n mm j : Nat} (hj : j < mm) : cpy g (fun _ => (0 : Int32)) 0 0 (min n mm) j = ext0 g n j := by
  unfold cpy ext0
  by_cases q : j < n
  · rw [if_pos (by omega), if_pos q]; congr 1; omega
  · rw [if_neg (by omega), if_neg q]

set_option maxRecDepth 65536 in
set_option maxHeartbeats 40000000 in
theorem ct8 (l : Launch) (Z : State) (a0 : Array Value) (hw : ∀ d ∈ tables_1, d.before a0 Z = true) (x0 : Addr) (x1 : Int32) (n0 n mm : Nat) (g : Nat → Int32) (h0 : Heap) (Z0 : n0 ≤ h0.size) (A_x0 : AV Z h0 x0 .byte n (iF g)) (E_x0 : Exa Z h0 x0 "[B") (hY : Byt g) (hm : x1.toInt = (mm : Int)) (hsl : mm ≤ 256) :
    Ct l Z (⟨"java/util/Arrays", "copyOf", "([BI)[B"⟩ : MethodName) jdk_65_method_121_code 3 (some (.array .byte)) ({ frames := 1, cells := 1, slots := 256, locals := 40 } : Room) #[(.ref x0), (.int x1)] h0 (fun v h' L => ∃ b : Addr, v = some (.ref b) ∧ Fr n0 L ∧ Keep h0 h' [] ∧ h0.size ≤ b ∧ AV Z h' b .byte mm (iF (ext0 g n)) ∧ Exa Z h' b "[B") := by
  refine Ct.body pn_8 ?_
  intro p e s m below meth c T X hx hby hml hown hnm hret hlk hZ eT
  rw [ef_8]
  have N := Fr.nil n0
  have K := Keep.refl h0 []
  have hn2 := A_x0.1
  have hmin : (minI (Int32.ofNat n) x1).toInt = ((min n mm : Nat) : Int) := by rw [min_i, i_ofNat (by omega), hm]; omega
  refine w_iloadN X hx (dq hby d8_0) rfl ?_
  refine w_aloadN X hx (dq hby d8_1) rfl rfl ?_
  refine w_arrlen X hx hZ eT A_x0 (z := (Int32.ofNat n)) (i_ofNat (by omega)) (dq hby d8_2) ?_
  refine w_icmp_ne X hx (dj hby d8_3) (fun hc3 => ?_) (fun hc3 => ?_)
  · refine w_iloadN X hx (dq hby d8_14) rfl ?_
    refine w_newarrE X hx hZ eT (hw _ (List.mem_of_getElem? (i := 0) rfl)) (dq hby d8_15) (n := mm) (cap := 256) (hm) (hsl) (by decide) (by decide) (by decide) fun T h1 b15 hb_b15 X eT EX A_b15 E_b15 => ?_
    have ne_x0_b15 : x0 ≠ b15 := by rw [hb_b15]; exact Nat.ne_of_lt E_x0.lt
    have g_b15 : n0 ≤ b15 := by omega
    have ge_b15 : h0.size ≤ b15 := by have := K.1; omega
    replace E_x0 := Exa.ext EX E_x0
    replace A_x0 := AV.ext A_x0 EX
    replace Z0 := Nat.le_trans Z0 EX.1
    replace K := K.ext EX
    replace A_b15 : AV Z h1 b15 .byte mm (iF (fun _ => (0 : Int32))) := A_b15
    refine w_astoreN X hx (dq hby d8_17) rfl (Ls' := #[.val (.ref x0), .val (.int x1), .val (.ref b15)]) rfl ?_
    refine w_aloadN X hx (dq hby d8_18) rfl rfl ?_
    refine w_iconst X hx (dq hby d8_19) (z := 0) rfl ?_
    refine w_aloadN X hx (dq hby d8_20) rfl rfl ?_
    refine w_iconst X hx (dq hby d8_21) (z := 0) rfl ?_
    refine w_aloadN X hx (dq hby d8_22) rfl rfl ?_
    refine w_arrlen X hx hZ eT A_x0 (z := (Int32.ofNat n)) (i_ofNat (by omega)) (dq hby d8_23) ?_
    refine w_iloadN X hx (dq hby d8_24) rfl ?_
    refine w_callSP X hx hZ eT hml (by rfl) hown (hw _ (List.mem_of_getElem? (i := 46) rfl)) (hw _ (List.mem_of_getElem? (i := 47) rfl)) (hw _ (List.mem_of_getElem? (i := 48) rfl)) (hw _ (List.mem_of_getElem? (i := 49) rfl)) (by decide) (ct9 l Z a0 hw (Int32.ofNat n) x1 h1) (dq hby d8_25) pd_0 (argsL := [(.int (Int32.ofNat n)), (.int x1)]) (rest := [(.int (0 : Int32)), (.ref b15), (.int (0 : Int32)), (.ref x0)]) rfl rfl rfl (W := 4) rfl (by decide) (by decide) (by decide) (by decide) fun T X eT => ?_
    refine w_acopy X hx hZ eT hml (by rfl) hown (hw _ (List.mem_of_getElem? (i := 50) rfl)) (hw _ (List.mem_of_getElem? (i := 26) rfl)) (hw _ (List.mem_of_getElem? (i := 24) rfl)) (hw _ (List.mem_of_getElem? (i := 25) rfl)) A_x0 A_b15 hY byt0 (sp := 0) (dp := 0) (n := (min n mm)) rfl rfl hmin (by omega) (by omega) N g_b15 (dq hby d8_28) (by decide) (W := 0) rfl (by decide) fun T h2 locs X eT N K' A_b15' => ?_
    replace E_x0 := Exa.keep E_x0 K'
    replace A_x0 := AV.keep A_x0 K' (ninS ne_x0_b15 nin0)
    replace Z0 := Nat.le_trans Z0 K'.1
    replace K := K.trans K' (allS (Or.inr ge_b15) all0)
    replace A_b15 := A_b15'
    replace E_b15 := Exa.keep E_b15 K'
    refine w_aloadN X hx (dq hby d8_31) rfl rfl ?_
    refine w_retA X hx hret rfl rfl hlk (dq hby d8_32) (by decide) (by decide) ?_
    rw [eT]
    exact ⟨_, rfl, N, K, ge_b15, A_b15.congr fun j hj => congrArg Value.int (own_cp hj), E_b15⟩
  · refine w_aloadN X hx (dq hby d8_6) rfl rfl ?_
    refine w_clone X hx hZ eT hml (by rfl) hown (hw _ (List.mem_of_getElem? (i := 54) rfl)) (hw _ (List.mem_of_getElem? (i := 55) rfl)) (hw _ (List.mem_of_getElem? (i := 59) rfl)) (hw _ (List.mem_of_getElem? (i := 57) rfl)) (hw _ (List.mem_of_getElem? (i := 58) rfl)) (hw _ (List.mem_of_getElem? (i := 60) rfl)) A_x0 hY E_x0 (dq hby d8_7) (by decide) (W := 0) (cap := 256) rfl (by decide) (by have := congrArg Int32.toInt hc3; rw [i_ofNat (by omega)] at this; omega) (by decide) (by decide) fun T h3 b7 hb_b7 X eT EX A_b7 E_b7 => ?_
    have ne_x0_b7 : x0 ≠ b7 := by rw [hb_b7]; exact Nat.ne_of_lt E_x0.lt
    have g_b7 : n0 ≤ b7 := by omega
    have ge_b7 : h0.size ≤ b7 := by have := K.1; omega
    replace E_x0 := Exa.ext EX E_x0
    replace A_x0 := AV.ext A_x0 EX
    replace Z0 := Nat.le_trans Z0 EX.1
    replace K := K.ext EX
    refine w_cast X hx hZ eT hown (hw _ (List.mem_of_getElem? (i := 61) rfl)) E_b7 (dq hby d8_10) fun T X eT => ?_
    refine w_retA X hx hret rfl rfl hlk (dq hby d8_13) (by decide) (by decide) ?_
    have emn : mm = n := by have := congrArg Int32.toInt hc3; rw [i_ofNat (by omega)] at this; omega
    rw [eT]
    subst emn
    exact ⟨_, rfl, N, K, ge_b7, A_b7.congr fun j hj => congrArg Value.int (by rw [ext0, if_pos hj]), E_b7⟩
set_option maxRecDepth 65536 in
set_option maxHeartbeats 40000000 in
theorem ct1 (l : Launch) (Z : State) (a0 : Array Value) (hw : ∀ d ∈ tables_1, d.before a0 Z = true) (x0 : Addr) (n0 : Nat) (h0 : Heap) (Z0 : n0 ≤ h0.size) (g_x0 : n0 ≤ x0) (E_x0 : Exa Z h0 x0 "com/example/queue_directory/queuedirectory/rpc/NdrWriter") (F_bytes_x0 : Fld Z h0 x0 "com/example/queue_directory/queuedirectory/rpc/NdrWriter" "bytes" "[B" .null) (F_length_x0 : Fld Z h0 x0 "com/example/queue_directory/queuedirectory/rpc/NdrWriter" "length" "I" (.int 0)) :
    Ct l Z (⟨"com/example/queue_directory/queuedirectory/rpc/NdrWriter", "<init>", "()V"⟩ : MethodName) prog_57_method_1_code 1 none ({ frames := 1, cells := 1, slots := 64, locals := 14 } : Room) #[(.ref x0)] h0 (fun v h' L => v = none ∧ Fr n0 L ∧ Keep h0 h' [x0] ∧ Exa Z h' x0 "com/example/queue_directory/queuedirectory/rpc/NdrWriter" ∧ ∃ ar : Addr, n0 ≤ ar ∧ h0.size ≤ ar ∧ x0 ≠ ar ∧ Fld Z h' x0 "com/example/queue_directory/queuedirectory/rpc/NdrWriter" "bytes" "[B" (.ref ar) ∧ Fld Z h' x0 "com/example/queue_directory/queuedirectory/rpc/NdrWriter" "length" "I" (.int 0) ∧ AV Z h' ar .byte 64 (iF (fun _ => 0)) ∧ Exa Z h' ar "[B") := by
  refine Ct.body pn_1 ?_
  intro p e s m below meth c T X hx hby hml hown hnm hret hlk hZ eT
  rw [ef_1]
  have N := Fr.nil n0
  have K := Keep.refl h0 [x0]
  refine w_aloadN X hx (dq hby d1_0) rfl rfl ?_
  refine w_objinit X hx hZ eT hml (by rfl) hown (hw _ (List.mem_of_getElem? (i := 7) rfl)) (hw _ (List.mem_of_getElem? (i := 8) rfl)) (hw _ (List.mem_of_getElem? (i := 9) rfl)) (dq hby d1_1) (by decide) (W := 0) rfl (by decide) fun T X eT => ?_
  refine w_aloadN X hx (dq hby d1_4) rfl rfl ?_
  refine w_bipush X hx (dq hby d1_5) (z := 64) rfl ?_
  refine w_newarrE X hx hZ eT (hw _ (List.mem_of_getElem? (i := 0) rfl)) (dq hby d1_7) (n := 64) (cap := 64) (rfl) ((by decide)) (by decide) (by decide) (by decide) fun T h1 b7 hb_b7 X eT EX A_b7 E_b7 => ?_
  have ne_x0_b7 : x0 ≠ b7 := by rw [hb_b7]; exact Nat.ne_of_lt (Fld.lt F_bytes_x0)
  have g_b7 : n0 ≤ b7 := by omega
  have ge_b7 : h0.size ≤ b7 := by have := K.1; omega
  replace F_bytes_x0 := Fld.ext EX F_bytes_x0
  replace F_length_x0 := Fld.ext EX F_length_x0
  replace E_x0 := Exa.ext EX E_x0
  replace Z0 := Nat.le_trans Z0 EX.1
  replace K := K.ext EX
  replace A_b7 : AV Z h1 b7 .byte 64 (iF (fun _ => (0 : Int32))) := A_b7
  refine w_putf X hx hZ eT hown (hw _ (List.mem_of_getElem? (i := 10) rfl)) F_bytes_x0 E_x0 (Or.inl (hw _ (List.mem_of_getElem? (i := 11) rfl))) (hw _ (List.mem_of_getElem? (i := 2) rfl)) (ty := (.array .byte)) (by decide) rfl rfl (dq hby d1_9) fun T h2 X eT W => ?_
  replace F_length_x0 := Fld.other W F_length_x0 (Or.inr (slot_ne (Or.inl (hw _ (List.mem_of_getElem? (i := 22) rfl))) (Or.inl (hw _ (List.mem_of_getElem? (i := 11) rfl))) (by decide) (t := .int) (t' := (.array .byte)) (by decide) (by decide)))
  replace E_x0 := Exa.wr W E_x0
  replace E_b7 := Exa.wr W E_b7
  replace A_b7 := AV.other A_b7 W (Ne.symm ne_x0_b7)
  replace Z0 := Nat.le_trans Z0 (Nat.le_of_eq W.size.symm)
  replace K := K.wr W (Or.inl (List.mem_singleton.mpr rfl))
  replace N := Fr.snoc X N g_x0
  replace F_bytes_x0 := Fld.same W F_bytes_x0
  refine w_ret X hx hret hlk (dq hby d1_12) (by decide) (by decide) ?_
  rw [eT]
  exact ⟨rfl, N, K, E_x0, b7, g_b7, ge_b7, ne_x0_b7, F_bytes_x0, F_length_x0, A_b7, E_b7⟩
theorem own_ext {g : Nat → Int32} {len cap : Nat} (hz : Zro len g) (h : len ≤ cap) (j : Nat) : ext0 g cap j = g j := by
  unfold ext0; split
  · rfl
  · exact (hz j (by omega)).symm
set_option maxRecDepth 65536 in
set_option maxHeartbeats 40000000 in
theorem roomN (l : Launch) (Z : State) (a0 : Array Value) (hw : ∀ d ∈ tables_1, d.before a0 Z = true) (x0 : Addr) (x1 : Int32) (n0 : Nat) (ar : Addr) (lv : Int32) (cap len : Nat) (g : Nat → Int32) (cnt : Nat) (h0 : Heap) (Z0 : n0 ≤ h0.size) (g_x0 : n0 ≤ x0) (g_ar : n0 ≤ ar) (ne_x0_ar : x0 ≠ ar) (E_x0 : Exa Z h0 x0 "com/example/queue_directory/queuedirectory/rpc/NdrWriter") (F_bytes_x0 : Fld Z h0 x0 "com/example/queue_directory/queuedirectory/rpc/NdrWriter" "bytes" "[B" (.ref ar)) (F_length_x0 : Fld Z h0 x0 "com/example/queue_directory/queuedirectory/rpc/NdrWriter" "length" "I" (.int lv)) (A_ar : AV Z h0 ar .byte cap (iF g)) (E_ar : Exa Z h0 ar "[B") (hlv : lv.toInt = (len : Int)) (hlc : len ≤ cap) (hcap : 1 ≤ cap ∧ cap ≤ 1024) (hY : Byt g) (hz : Zro len g) (hc : x1.toInt = (cnt : Int)) (hc2 : cnt ≤ 1024) (hfit : len + cnt ≤ cap) :
    Ct l Z (⟨"com/example/queue_directory/queuedirectory/rpc/NdrWriter", "room", "(I)V"⟩ : MethodName) prog_57_method_10_code 2 none ({ frames := 0, cells := 0, slots := 0, locals := 0 } : Room) #[(.ref x0), (.int x1)] h0 (fun v h' L => v = none ∧ Fr n0 L ∧ Keep h0 h' [x0, ar] ∧ Exa Z h' x0 "com/example/queue_directory/queuedirectory/rpc/NdrWriter" ∧ ∃ (ar' : Addr) (cap' : Nat) (lv' : Int32), n0 ≤ ar' ∧ x0 ≠ ar' ∧ (ar' = ar ∨ h0.size ≤ ar') ∧ lv'.toInt = ((len : Nat) : Int) ∧ Fld Z h' x0 "com/example/queue_directory/queuedirectory/rpc/NdrWriter" "bytes" "[B" (.ref ar') ∧ Fld Z h' x0 "com/example/queue_directory/queuedirectory/rpc/NdrWriter" "length" "I" (.int lv') ∧ AV Z h' ar' .byte cap' (iF g) ∧ Exa Z h' ar' "[B" ∧ cap' = capf cap len cnt) := by
  refine Ct.body pn_4 ?_
  intro p e s m below meth c T X hx hby hml hown hnm hret hlk hZ eT
  rw [ef_4]
  have N := Fr.nil n0
  have K := Keep.refl h0 [x0, ar]
  have l2 : (2 : Int32).toInt = 2 := rfl
  have s1 : (Int32.ofNat cap - lv).toInt = (cap : Int) - len := by rw [Jvm.Kit.i32_sub] <;> rw [i_ofNat (by omega)] <;> omega
  have s2 : (Int32.ofNat cap * 2).toInt = 2 * (cap : Int) := by rw [Jvm.Kit.i32_mul] <;> rw [i_ofNat (by omega), l2] <;> omega
  have s3 : (lv + x1).toInt = (len : Int) + cnt := by rw [Jvm.Kit.i32_add] <;> omega
  refine w_aloadN X hx (dq hby d4_0) rfl rfl ?_
  refine w_getf X hx hZ eT hown (hw _ (List.mem_of_getElem? (i := 10) rfl)) F_bytes_x0 (dq hby d4_1) fun T X eT => ?_
  refine w_arrlen X hx hZ eT A_ar (z := (Int32.ofNat cap)) (i_ofNat (by omega)) (dq hby d4_4) ?_
  refine w_aloadN X hx (dq hby d4_5) rfl rfl ?_
  refine w_getf X hx hZ eT hown (hw _ (List.mem_of_getElem? (i := 21) rfl)) F_length_x0 (dq hby d4_6) fun T X eT => ?_
  refine w_isub X hx (dq hby d4_9) ?_
  refine w_iloadN X hx (dq hby d4_10) rfl ?_
  refine w_icmp_ge X hx (dj hby d4_11) (fun hc11 => ?_) (fun hc11 => (?_ : False).elim)
  rotate_left
  · omega
  refine w_ret X hx hret hlk (dq hby d4_41) (by decide) (by decide) ?_
  rw [eT]
  exact ⟨rfl, N, K, E_x0, ar, cap, lv, g_ar, ne_x0_ar, Or.inl rfl, hlv, F_bytes_x0, F_length_x0, A_ar, E_ar, (capf_f (by omega)).symm⟩
set_option maxRecDepth 65536 in
set_option maxHeartbeats 40000000 in
theorem roomG (l : Launch) (Z : State) (a0 : Array Value) (hw : ∀ d ∈ tables_1, d.before a0 Z = true) (x0 : Addr) (x1 : Int32) (n0 : Nat) (ar : Addr) (lv : Int32) (cap len : Nat) (g : Nat → Int32) (cnt : Nat) (h0 : Heap) (Z0 : n0 ≤ h0.size) (g_x0 : n0 ≤ x0) (g_ar : n0 ≤ ar) (ne_x0_ar : x0 ≠ ar) (E_x0 : Exa Z h0 x0 "com/example/queue_directory/queuedirectory/rpc/NdrWriter") (F_bytes_x0 : Fld Z h0 x0 "com/example/queue_directory/queuedirectory/rpc/NdrWriter" "bytes" "[B" (.ref ar)) (F_length_x0 : Fld Z h0 x0 "com/example/queue_directory/queuedirectory/rpc/NdrWriter" "length" "I" (.int lv)) (A_ar : AV Z h0 ar .byte cap (iF g)) (E_ar : Exa Z h0 ar "[B") (hlv : lv.toInt = (len : Int)) (hlc : len ≤ cap) (hcap : 1 ≤ cap ∧ cap ≤ 1024) (hY : Byt g) (hz : Zro len g) (hc : x1.toInt = (cnt : Int)) (hc2 : cnt ≤ 1024) (hfit : len + cnt ≤ cap ∨ max (2 * cap) (len + cnt) ≤ 256) :
    Ct l Z (⟨"com/example/queue_directory/queuedirectory/rpc/NdrWriter", "room", "(I)V"⟩ : MethodName) prog_57_method_10_code 2 none ({ frames := 2, cells := 1, slots := 256, locals := 62 } : Room) #[(.ref x0), (.int x1)] h0 (fun v h' L => v = none ∧ Fr n0 L ∧ Keep h0 h' [x0, ar] ∧ Exa Z h' x0 "com/example/queue_directory/queuedirectory/rpc/NdrWriter" ∧ ∃ (ar' : Addr) (cap' : Nat) (lv' : Int32), n0 ≤ ar' ∧ x0 ≠ ar' ∧ (ar' = ar ∨ h0.size ≤ ar') ∧ lv'.toInt = ((len : Nat) : Int) ∧ Fld Z h' x0 "com/example/queue_directory/queuedirectory/rpc/NdrWriter" "bytes" "[B" (.ref ar') ∧ Fld Z h' x0 "com/example/queue_directory/queuedirectory/rpc/NdrWriter" "length" "I" (.int lv') ∧ AV Z h' ar' .byte cap' (iF g) ∧ Exa Z h' ar' "[B" ∧ cap' = capf cap len cnt) := by
  refine Ct.body pn_4 ?_
  intro p e s m below meth c T X hx hby hml hown hnm hret hlk hZ eT
  rw [ef_4]
  have N := Fr.nil n0
  have K := Keep.refl h0 [x0, ar]
  have l2 : (2 : Int32).toInt = 2 := rfl
  have s1 : (Int32.ofNat cap - lv).toInt = (cap : Int) - len := by rw [Jvm.Kit.i32_sub] <;> rw [i_ofNat (by omega)] <;> omega
  have s2 : (Int32.ofNat cap * 2).toInt = 2 * (cap : Int) := by rw [Jvm.Kit.i32_mul] <;> rw [i_ofNat (by omega), l2] <;> omega
  have s3 : (lv + x1).toInt = (len : Int) + cnt := by rw [Jvm.Kit.i32_add] <;> omega
  refine w_aloadN X hx (dq hby d4_0) rfl rfl ?_
  refine w_getf X hx hZ eT hown (hw _ (List.mem_of_getElem? (i := 10) rfl)) F_bytes_x0 (dq hby d4_1) fun T X eT => ?_
  refine w_arrlen X hx hZ eT A_ar (z := (Int32.ofNat cap)) (i_ofNat (by omega)) (dq hby d4_4) ?_
  refine w_aloadN X hx (dq hby d4_5) rfl rfl ?_
  refine w_getf X hx hZ eT hown (hw _ (List.mem_of_getElem? (i := 21) rfl)) F_length_x0 (dq hby d4_6) fun T X eT => ?_
  refine w_isub X hx (dq hby d4_9) ?_
  refine w_iloadN X hx (dq hby d4_10) rfl ?_
  refine w_icmp_ge X hx (dj hby d4_11) (fun hc11 => ?_) (fun hc11 => ?_)
  · refine w_ret X hx hret hlk (dq hby d4_41) (by decide) (by decide) ?_
    rw [eT]
    exact ⟨rfl, N, K, E_x0, ar, cap, lv, g_ar, ne_x0_ar, Or.inl rfl, hlv, F_bytes_x0, F_length_x0, A_ar, E_ar, (capf_f (by omega)).symm⟩
  · refine w_aloadN X hx (dq hby d4_14) rfl rfl ?_
    refine w_aloadN X hx (dq hby d4_15) rfl rfl ?_
    refine w_getf X hx hZ eT hown (hw _ (List.mem_of_getElem? (i := 10) rfl)) F_bytes_x0 (dq hby d4_16) fun T X eT => ?_
    refine w_aloadN X hx (dq hby d4_19) rfl rfl ?_
    refine w_getf X hx hZ eT hown (hw _ (List.mem_of_getElem? (i := 10) rfl)) F_bytes_x0 (dq hby d4_20) fun T X eT => ?_
    refine w_arrlen X hx hZ eT A_ar (z := (Int32.ofNat cap)) (i_ofNat (by omega)) (dq hby d4_23) ?_
    refine w_iconst X hx (dq hby d4_24) (z := 2) rfl ?_
    refine w_imul X hx (dq hby d4_25) ?_
    refine w_aloadN X hx (dq hby d4_26) rfl rfl ?_
    refine w_getf X hx hZ eT hown (hw _ (List.mem_of_getElem? (i := 21) rfl)) F_length_x0 (dq hby d4_27) fun T X eT => ?_
    refine w_iloadN X hx (dq hby d4_30) rfl ?_
    refine w_iadd X hx (dq hby d4_31) ?_
    refine w_callSP X hx hZ eT hml (by rfl) hown (hw _ (List.mem_of_getElem? (i := 51) rfl)) (hw _ (List.mem_of_getElem? (i := 52) rfl)) (hw _ (List.mem_of_getElem? (i := 48) rfl)) (hw _ (List.mem_of_getElem? (i := 53) rfl)) (by decide) (ct10 l Z a0 hw ((Int32.ofNat cap) * (2 : Int32)) (lv + x1) h0) (dq hby d4_32) pd_0 (argsL := [(.int ((Int32.ofNat cap) * (2 : Int32))), (.int (lv + x1))]) (rest := [(.ref ar), (.ref x0)]) rfl rfl rfl (W := 2) rfl (by decide) (by decide) (by decide) (by decide) fun T X eT => ?_
    refine w_callS X hx hZ eT hml (by rfl) hown (hw _ (List.mem_of_getElem? (i := 42) rfl)) (hw _ (List.mem_of_getElem? (i := 43) rfl)) (hw _ (List.mem_of_getElem? (i := 44) rfl)) (hw _ (List.mem_of_getElem? (i := 45) rfl)) (by decide) (ct8 l Z a0 hw ar (maxI ((Int32.ofNat cap) * (2 : Int32)) (lv + x1)) n0 cap (max (2 * cap) (len + cnt)) g h0 Z0 A_ar E_ar hY (by rw [max_i, s2, s3]; omega) (by omega) ) (dq hby d4_35) pd_1 (argsL := [(.ref ar), (.int (maxI ((Int32.ofNat cap) * (2 : Int32)) (lv + x1)))]) (rest := [(.ref x0)]) rfl rfl rfl (W := 1) rfl (by decide) (by decide) (by decide) (by decide) fun v T L X hQ => ?_
    have lt_x0 := E_x0.lt
    have lt_ar := A_ar.lt
    generalize eT : T.heap = h1 at hQ
    obtain ⟨bc, rfl, N', K', ge_bc', A_bc, E_bc⟩ := hQ
    have g_bc : n0 ≤ bc := Nat.le_trans Z0 ge_bc'
    have ge_bc : h0.size ≤ bc := Nat.le_trans K.1 ge_bc'
    have ne_x0_bc : x0 ≠ bc := Nat.ne_of_lt (Nat.lt_of_lt_of_le lt_x0 ge_bc')
    have ne_ar_bc : ar ≠ bc := Nat.ne_of_lt (Nat.lt_of_lt_of_le lt_ar ge_bc')
    replace F_bytes_x0 := Fld.keep F_bytes_x0 K' nin0
    replace F_length_x0 := Fld.keep F_length_x0 K' nin0
    replace E_x0 := Exa.keep E_x0 K'
    replace E_ar := Exa.keep E_ar K'
    replace A_ar := AV.keep A_ar K' nin0
    replace Z0 := Nat.le_trans Z0 K'.1
    replace K := K.trans K' all0
    replace N := Fr.app N N'
    refine w_putf X hx hZ eT hown (hw _ (List.mem_of_getElem? (i := 10) rfl)) F_bytes_x0 E_x0 (Or.inl (hw _ (List.mem_of_getElem? (i := 11) rfl))) (hw _ (List.mem_of_getElem? (i := 2) rfl)) (ty := (.array .byte)) (by decide) rfl rfl (dq hby d4_38) fun T h2 X eT W => ?_
    replace F_length_x0 := Fld.other W F_length_x0 (Or.inr (slot_ne (Or.inl (hw _ (List.mem_of_getElem? (i := 22) rfl))) (Or.inl (hw _ (List.mem_of_getElem? (i := 11) rfl))) (by decide) (t := .int) (t' := (.array .byte)) (by decide) (by decide)))
    replace E_x0 := Exa.wr W E_x0
    replace E_ar := Exa.wr W E_ar
    replace E_bc := Exa.wr W E_bc
    replace A_ar := AV.other A_ar W (Ne.symm ne_x0_ar)
    replace A_bc := AV.other A_bc W (Ne.symm ne_x0_bc)
    replace Z0 := Nat.le_trans Z0 (Nat.le_of_eq W.size.symm)
    replace K := K.wr W (Or.inl (List.mem_cons_self ..))
    replace N := Fr.snoc X N g_x0
    replace F_bytes_x0 := Fld.same W F_bytes_x0
    refine w_ret X hx hret hlk (dq hby d4_41) (by decide) (by decide) ?_
    rw [eT]
    exact ⟨rfl, N, K, E_x0, bc, _, lv, g_bc, ne_x0_bc, Or.inr ge_bc, hlv, F_bytes_x0, F_length_x0, A_bc.congr fun j hj => congrArg Value.int (own_ext hz hlc j), E_bc, (capf_g (by omega)).symm⟩
set_option maxRecDepth 65536 in
set_option maxHeartbeats 40000000 in
theorem ct6 (l : Launch) (Z : State) (a0 : Array Value) (hw : ∀ d ∈ tables_1, d.before a0 Z = true) (x0 : Addr) (vv : Int32) (h0 : Heap) (F_length_x0 : Fld Z h0 x0 "com/example/queue_directory/queuedirectory/rpc/NdrWriter" "length" "I" (.int vv)) :
    Ct l Z (⟨"com/example/queue_directory/queuedirectory/rpc/NdrWriter", "length", "()I"⟩ : MethodName) prog_57_method_8_code 1 (some .int) ({ frames := 0, cells := 0, slots := 0, locals := 0 } : Room) #[(.ref x0)] h0 (fun v h' L => v = some (.int vv) ∧ h' = h0 ∧ L = []) := by
  refine Ct.body pn_6 ?_
  intro p e s m below meth c T X hx hby hml hown hnm hret hlk hZ eT
  rw [ef_6]

  refine w_aloadN X hx (dq hby d6_0) rfl rfl ?_
  refine w_getf X hx hZ eT hown (hw _ (List.mem_of_getElem? (i := 21) rfl)) F_length_x0 (dq hby d6_1) fun T X eT => ?_
  refine w_retI X hx hret hlk (dq hby d6_4) (by decide) (by decide) ?_
  exact ⟨rfl, eT, rfl⟩
set_option maxRecDepth 65536 in
set_option maxHeartbeats 40000000 in
theorem ct7 (l : Launch) (Z : State) (a0 : Array Value) (hw : ∀ d ∈ tables_1, d.before a0 Z = true) (x0 : Addr) (n0 : Nat) (ar : Addr) (lv : Int32) (cap len : Nat) (g : Nat → Int32) (h0 : Heap) (Z0 : n0 ≤ h0.size) (g_x0 : n0 ≤ x0) (g_ar : n0 ≤ ar) (ne_x0_ar : x0 ≠ ar) (E_x0 : Exa Z h0 x0 "com/example/queue_directory/queuedirectory/rpc/NdrWriter") (F_bytes_x0 : Fld Z h0 x0 "com/example/queue_directory/queuedirectory/rpc/NdrWriter" "bytes" "[B" (.ref ar)) (F_length_x0 : Fld Z h0 x0 "com/example/queue_directory/queuedirectory/rpc/NdrWriter" "length" "I" (.int lv)) (A_ar : AV Z h0 ar .byte cap (iF g)) (E_ar : Exa Z h0 ar "[B") (hlv : lv.toInt = (len : Int)) (hlc : len ≤ cap) (hcap : 1 ≤ cap ∧ cap ≤ 1024) (hY : Byt g) (hz : Zro len g) (hsl : len ≤ 256) :
    Ct l Z (⟨"com/example/queue_directory/queuedirectory/rpc/NdrWriter", "toByteArray", "()[B"⟩ : MethodName) prog_57_method_9_code 1 (some (.array .byte)) ({ frames := 2, cells := 1, slots := 256, locals := 62 } : Room) #[(.ref x0)] h0 (fun v h' L => ∃ b : Addr, v = some (.ref b) ∧ Fr n0 L ∧ Keep h0 h' [] ∧ h0.size ≤ b ∧ AV Z h' b .byte len (iF g)) := by
  refine Ct.body pn_7 ?_
  intro p e s m below meth c T X hx hby hml hown hnm hret hlk hZ eT
  rw [ef_7]
  have N := Fr.nil n0
  have K := Keep.refl h0 []
  refine w_aloadN X hx (dq hby d7_0) rfl rfl ?_
  refine w_getf X hx hZ eT hown (hw _ (List.mem_of_getElem? (i := 10) rfl)) F_bytes_x0 (dq hby d7_1) fun T X eT => ?_
  refine w_aloadN X hx (dq hby d7_4) rfl rfl ?_
  refine w_getf X hx hZ eT hown (hw _ (List.mem_of_getElem? (i := 21) rfl)) F_length_x0 (dq hby d7_5) fun T X eT => ?_
  refine w_callS X hx hZ eT hml (by rfl) hown (hw _ (List.mem_of_getElem? (i := 42) rfl)) (hw _ (List.mem_of_getElem? (i := 43) rfl)) (hw _ (List.mem_of_getElem? (i := 44) rfl)) (hw _ (List.mem_of_getElem? (i := 45) rfl)) (by decide) (ct8 l Z a0 hw ar lv n0 cap len g h0 Z0 A_ar E_ar hY hlv hsl ) (dq hby d7_8) pd_1 (argsL := [(.ref ar), (.int lv)]) (rest := []) rfl rfl rfl (W := 0) rfl (by decide) (by decide) (by decide) (by decide) fun v T L X hQ => ?_
  have lt_x0 := E_x0.lt
  have lt_ar := A_ar.lt
  generalize eT : T.heap = h1 at hQ
  obtain ⟨bc, rfl, N', K', ge_bc', A_bc, E_bc⟩ := hQ
  have g_bc : n0 ≤ bc := Nat.le_trans Z0 ge_bc'
  have ge_bc : h0.size ≤ bc := Nat.le_trans K.1 ge_bc'
  have ne_x0_bc : x0 ≠ bc := Nat.ne_of_lt (Nat.lt_of_lt_of_le lt_x0 ge_bc')
  have ne_ar_bc : ar ≠ bc := Nat.ne_of_lt (Nat.lt_of_lt_of_le lt_ar ge_bc')
  replace F_bytes_x0 := Fld.keep F_bytes_x0 K' nin0
  replace F_length_x0 := Fld.keep F_length_x0 K' nin0
  replace E_x0 := Exa.keep E_x0 K'
  replace E_ar := Exa.keep E_ar K'
  replace A_ar := AV.keep A_ar K' nin0
  replace Z0 := Nat.le_trans Z0 K'.1
  replace K := K.trans K' all0
  replace N := Fr.app N N'
  refine w_retA X hx hret rfl rfl hlk (dq hby d7_11) (by decide) (by decide) ?_
  rw [eT]
  exact ⟨bc, rfl, N, K, ge_bc, A_bc.congr fun j hj => congrArg Value.int (own_ext hz hlc j)⟩
set_option maxRecDepth 65536 in
set_option maxHeartbeats 40000000 in
theorem u8G (l : Launch) (Z : State) (a0 : Array Value) (hw : ∀ d ∈ tables_1, d.before a0 Z = true) (x0 : Addr) (x1 : Int32) (n0 : Nat) (ar : Addr) (lv : Int32) (cap len : Nat) (g : Nat → Int32) (h0 : Heap) (Z0 : n0 ≤ h0.size) (g_x0 : n0 ≤ x0) (g_ar : n0 ≤ ar) (ne_x0_ar : x0 ≠ ar) (E_x0 : Exa Z h0 x0 "com/example/queue_directory/queuedirectory/rpc/NdrWriter") (F_bytes_x0 : Fld Z h0 x0 "com/example/queue_directory/queuedirectory/rpc/NdrWriter" "bytes" "[B" (.ref ar)) (F_length_x0 : Fld Z h0 x0 "com/example/queue_directory/queuedirectory/rpc/NdrWriter" "length" "I" (.int lv)) (A_ar : AV Z h0 ar .byte cap (iF g)) (E_ar : Exa Z h0 ar "[B") (hlv : lv.toInt = (len : Int)) (hlc : len ≤ cap) (hcap : 1 ≤ cap ∧ cap ≤ 1024) (hY : Byt g) (hz : Zro len g) (hfit : len + 1 ≤ cap ∨ max (2 * cap) (len + 1) ≤ 256) :
    Ct l Z (⟨"com/example/queue_directory/queuedirectory/rpc/NdrWriter", "u8", "(I)Lcom/example/queue_directory/queuedirectory/rpc/NdrWriter;"⟩ : MethodName) prog_57_method_2_code 2 (some (.object "com/example/queue_directory/queuedirectory/rpc/NdrWriter")) ({ frames := 3, cells := 1, slots := 256, locals := 76 } : Room) #[(.ref x0), (.int x1)] h0 (fun v h' L => v = some (.ref x0) ∧ Fr n0 L ∧ Keep h0 h' [x0, ar] ∧ Exa Z h' x0 "com/example/queue_directory/queuedirectory/rpc/NdrWriter" ∧ ∃ (ar' : Addr) (cap' : Nat) (lv' : Int32), n0 ≤ ar' ∧ x0 ≠ ar' ∧ (ar' = ar ∨ h0.size ≤ ar') ∧ lv'.toInt = (((len + 1) : Nat) : Int) ∧ Fld Z h' x0 "com/example/queue_directory/queuedirectory/rpc/NdrWriter" "bytes" "[B" (.ref ar') ∧ Fld Z h' x0 "com/example/queue_directory/queuedirectory/rpc/NdrWriter" "length" "I" (.int lv') ∧ AV Z h' ar' .byte cap' (iF (upd g len x1.toInt8.toInt32)) ∧ Exa Z h' ar' "[B" ∧ cap' = capf cap len 1) := by
  refine Ct.body pn_5 ?_
  intro p e s m below meth c T X hx hby hml hown hnm hret hlk hZ eT
  rw [ef_5]
  have N := Fr.nil n0
  have K := Keep.refl h0 [x0, ar]
  refine w_aloadN X hx (dq hby d5_0) rfl rfl ?_
  refine w_iconst X hx (dq hby d5_1) (z := 1) rfl ?_
  refine w_callP X hx hZ eT hml (by rfl) hown (hw _ (List.mem_of_getElem? (i := 17) rfl)) (hw _ (List.mem_of_getElem? (i := 18) rfl)) (hw _ (List.mem_of_getElem? (i := 2) rfl)) (hw _ (List.mem_of_getElem? (i := 19) rfl)) (hw _ (List.mem_of_getElem? (i := 3) rfl)) (hw _ (List.mem_of_getElem? (i := 20) rfl)) (by decide) (roomG l Z a0 hw x0 (1 : Int32) n0 ar lv cap len g 1 h0 Z0 g_x0 g_ar ne_x0_ar E_x0 F_bytes_x0 F_length_x0 A_ar E_ar hlv (by omega) (by omega) hY hz rfl (by omega) (by omega)) E_x0 (dq hby d5_2) pd_2 (argsL := [(.int (1 : Int32))]) (rest := []) rfl rfl rfl (W := 0) rfl (by decide) (by decide) (by decide) (by decide) fun v T L X hQ => ?_
  generalize eT : T.heap = h1 at hQ
  obtain ⟨rfl, N', K', E_x0, arR, capR, lvR, g_arR, ne_x0_arR, qqR, hlvR, F_bytes_x0, F_length_x0, A_arR, E_arR, hcapR⟩ := hQ
  replace Z0 := Nat.le_trans Z0 K'.1
  replace K := K.trans K' (allS (Or.inl (List.mem_cons_self ..)) (allS (Or.inl (List.mem_cons_of_mem _ (List.mem_singleton.mpr rfl))) all0))
  replace N := Fr.app N N'
  have cge : len + 1 ≤ capR := by rw [hcapR]; unfold capf; split <;> omega
  refine w_aloadN X hx (dq hby d5_5) rfl rfl ?_
  refine w_getf X hx hZ eT hown (hw _ (List.mem_of_getElem? (i := 10) rfl)) F_bytes_x0 (dq hby d5_6) fun T X eT => ?_
  refine w_aloadN X hx (dq hby d5_9) rfl rfl ?_
  refine w_dup X hx (dq hby d5_10) rfl ?_
  refine w_getf X hx hZ eT hown (hw _ (List.mem_of_getElem? (i := 21) rfl)) F_length_x0 (dq hby d5_11) fun T X eT => ?_
  refine w_dupx1 X hx (dq hby d5_14) rfl rfl ?_
  refine w_iconst X hx (dq hby d5_15) (z := 1) rfl ?_
  refine w_iadd X hx (dq hby d5_16) ?_
  obtain ⟨f5_17, hf5_17⟩ : ∃ z : Int32, z = (lvR + (1 : Int32)) := ⟨_, rfl⟩
  rw [← hf5_17]
  refine w_putf X hx hZ eT hown (hw _ (List.mem_of_getElem? (i := 21) rfl)) F_length_x0 E_x0 (Or.inl (hw _ (List.mem_of_getElem? (i := 22) rfl))) (hw _ (List.mem_of_getElem? (i := 2) rfl)) (ty := .int) (by decide) rfl rfl (dq hby d5_17) fun T h2 X eT W => ?_
  replace F_bytes_x0 := Fld.other W F_bytes_x0 (Or.inr (slot_ne (Or.inl (hw _ (List.mem_of_getElem? (i := 11) rfl))) (Or.inl (hw _ (List.mem_of_getElem? (i := 22) rfl))) (by decide) (t := (.array .byte)) (t' := .int) (by decide) (by decide)))
  replace E_x0 := Exa.wr W E_x0
  replace E_arR := Exa.wr W E_arR
  replace A_arR := AV.other A_arR W (Ne.symm ne_x0_arR)
  replace Z0 := Nat.le_trans Z0 (Nat.le_of_eq W.size.symm)
  replace K := K.wr W (Or.inl (List.mem_cons_self ..))
  replace N := Fr.snoc X N g_x0
  replace F_length_x0 := Fld.same W F_length_x0
  refine w_iloadN X hx (dq hby d5_20) rfl ?_
  refine w_i2b X hx (dq hby d5_21) ?_
  refine w_bastore X hx hZ eT A_arR (i := len) (hlvR) (by omega) (dq hby d5_22) fun T h3 X eT W A' => ?_
  replace F_bytes_x0 := Fld.other W F_bytes_x0 (Or.inl ne_x0_arR)
  replace F_length_x0 := Fld.other W F_length_x0 (Or.inl ne_x0_arR)
  replace E_x0 := Exa.wr W E_x0
  replace E_arR := Exa.wr W E_arR
  replace Z0 := Nat.le_trans Z0 (Nat.le_of_eq W.size.symm)
  replace K := K.wr W (in_ws qqR)
  replace N := Fr.snoc X N g_arR
  replace A_arR := A'
  refine w_aloadN X hx (dq hby d5_23) rfl rfl ?_
  refine w_retA X hx hret rfl rfl hlk (dq hby d5_24) (by decide) (by decide) ?_
  have q1 : f5_17.toInt = ((len + 1 : Nat) : Int) := by rw [hf5_17, Jvm.Kit.i32_add] <;> (have : (1 : Int32).toInt = 1 := rfl) <;> omega
  rw [i2b_i2b] at A_arR
  rw [eT]
  exact ⟨rfl, N, K, E_x0, arR, capR, f5_17, g_arR, ne_x0_arR, qqR, q1, F_bytes_x0, F_length_x0, A_arR, E_arR, hcapR⟩
set_option maxRecDepth 65536 in
set_option maxHeartbeats 40000000 in
theorem bytesG (l : Launch) (Z : State) (a0 : Array Value) (hw : ∀ d ∈ tables_1, d.before a0 Z = true) (x0 x1 : Addr) (n0 : Nat) (ar : Addr) (lv : Int32) (cap len : Nat) (g : Nat → Int32) (mm : Nat) (pa : Nat → Int32) (h0 : Heap) (Z0 : n0 ≤ h0.size) (g_x0 : n0 ≤ x0) (g_ar : n0 ≤ ar) (ne_x0_ar : x0 ≠ ar) (E_x0 : Exa Z h0 x0 "com/example/queue_directory/queuedirectory/rpc/NdrWriter") (F_bytes_x0 : Fld Z h0 x0 "com/example/queue_directory/queuedirectory/rpc/NdrWriter" "bytes" "[B" (.ref ar)) (F_length_x0 : Fld Z h0 x0 "com/example/queue_directory/queuedirectory/rpc/NdrWriter" "length" "I" (.int lv)) (A_ar : AV Z h0 ar .byte cap (iF g)) (E_ar : Exa Z h0 ar "[B") (hlv : lv.toInt = (len : Int)) (hlc : len ≤ cap) (hcap : 1 ≤ cap ∧ cap ≤ 1024) (hY : Byt g) (hz : Zro len g) (ne_x0_x1 : x0 ≠ x1) (ne_ar_x1 : ar ≠ x1) (A_x1 : AV Z h0 x1 .byte mm (iF pa)) (hYp : Byt pa) (hmm : mm ≤ 1024) (hfit : len + mm ≤ cap ∨ max (2 * cap) (len + mm) ≤ 256) :
    Ct l Z (⟨"com/example/queue_directory/queuedirectory/rpc/NdrWriter", "bytes", "([B)Lcom/example/queue_directory/queuedirectory/rpc/NdrWriter;"⟩ : MethodName) prog_57_method_6_code 2 (some (.object "com/example/queue_directory/queuedirectory/rpc/NdrWriter")) ({ frames := 3, cells := 1, slots := 256, locals := 76 } : Room) #[(.ref x0), (.ref x1)] h0 (fun v h' L => v = some (.ref x0) ∧ Fr n0 L ∧ Keep h0 h' [x0, ar] ∧ Exa Z h' x0 "com/example/queue_directory/queuedirectory/rpc/NdrWriter" ∧ ∃ (ar' : Addr) (cap' : Nat) (lv' : Int32), n0 ≤ ar' ∧ x0 ≠ ar' ∧ (ar' = ar ∨ h0.size ≤ ar') ∧ lv'.toInt = (((len + mm) : Nat) : Int) ∧ Fld Z h' x0 "com/example/queue_directory/queuedirectory/rpc/NdrWriter" "bytes" "[B" (.ref ar') ∧ Fld Z h' x0 "com/example/queue_directory/queuedirectory/rpc/NdrWriter" "length" "I" (.int lv') ∧ AV Z h' ar' .byte cap' (iF (cpy pa g 0 len mm)) ∧ Exa Z h' ar' "[B" ∧ cap' = capf cap len mm) := by
  refine Ct.body pn_3 ?_
  intro p e s m below meth c T X hx hby hml hown hnm hret hlk hZ eT
  rw [ef_3]
  have N := Fr.nil n0
  have K := Keep.refl h0 [x0, ar]
  refine w_aloadN X hx (dq hby d3_0) rfl rfl ?_
  refine w_aloadN X hx (dq hby d3_1) rfl rfl ?_
  refine w_arrlen X hx hZ eT A_x1 (z := (Int32.ofNat mm)) (i_ofNat (by omega)) (dq hby d3_2) ?_
  refine w_callP X hx hZ eT hml (by rfl) hown (hw _ (List.mem_of_getElem? (i := 17) rfl)) (hw _ (List.mem_of_getElem? (i := 18) rfl)) (hw _ (List.mem_of_getElem? (i := 2) rfl)) (hw _ (List.mem_of_getElem? (i := 19) rfl)) (hw _ (List.mem_of_getElem? (i := 3) rfl)) (hw _ (List.mem_of_getElem? (i := 20) rfl)) (by decide) (roomG l Z a0 hw x0 (Int32.ofNat mm) n0 ar lv cap len g mm h0 Z0 g_x0 g_ar ne_x0_ar E_x0 F_bytes_x0 F_length_x0 A_ar E_ar hlv (by omega) (by omega) hY hz (i_ofNat (by omega)) (by omega) (by omega)) E_x0 (dq hby d3_3) pd_2 (argsL := [(.int (Int32.ofNat mm))]) (rest := []) rfl rfl rfl (W := 0) rfl (by decide) (by decide) (by decide) (by decide) fun v T L X hQ => ?_
  have lt_x1 := A_x1.lt
  generalize eT : T.heap = h1 at hQ
  obtain ⟨rfl, N', K', E_x0, arR, capR, lvR, g_arR, ne_x0_arR, qqR, hlvR, F_bytes_x0, F_length_x0, A_arR, E_arR, hcapR⟩ := hQ
  have ne_x1_arR : x1 ≠ arR := ne_keep (Ne.symm ne_ar_x1) lt_x1 qqR
  replace A_x1 := AV.keep A_x1 K' (ninS (Ne.symm ne_x0_x1) (ninS (Ne.symm ne_ar_x1) nin0))
  replace Z0 := Nat.le_trans Z0 K'.1
  replace K := K.trans K' (allS (Or.inl (List.mem_cons_self ..)) (allS (Or.inl (List.mem_cons_of_mem _ (List.mem_singleton.mpr rfl))) all0))
  replace N := Fr.app N N'
  have cge : len + mm ≤ capR := by rw [hcapR]; unfold capf; split <;> omega
  refine w_aloadN X hx (dq hby d3_6) rfl rfl ?_
  refine w_iconst X hx (dq hby d3_7) (z := 0) rfl ?_
  refine w_aloadN X hx (dq hby d3_8) rfl rfl ?_
  refine w_getf X hx hZ eT hown (hw _ (List.mem_of_getElem? (i := 10) rfl)) F_bytes_x0 (dq hby d3_9) fun T X eT => ?_
  refine w_aloadN X hx (dq hby d3_12) rfl rfl ?_
  refine w_getf X hx hZ eT hown (hw _ (List.mem_of_getElem? (i := 21) rfl)) F_length_x0 (dq hby d3_13) fun T X eT => ?_
  refine w_aloadN X hx (dq hby d3_16) rfl rfl ?_
  refine w_arrlen X hx hZ eT A_x1 (z := (Int32.ofNat mm)) (i_ofNat (by omega)) (dq hby d3_17) ?_
  refine w_acopy X hx hZ eT hml (by rfl) hown (hw _ (List.mem_of_getElem? (i := 23) rfl)) (hw _ (List.mem_of_getElem? (i := 26) rfl)) (hw _ (List.mem_of_getElem? (i := 24) rfl)) (hw _ (List.mem_of_getElem? (i := 25) rfl)) A_x1 A_arR hYp hY (sp := 0) (dp := len) (n := mm) rfl hlvR (i_ofNat (by omega)) (by omega) cge N g_arR (dq hby d3_18) (by decide) (W := 0) rfl (by decide) fun T h2 locs X eT N K' A_arR' => ?_
  replace F_bytes_x0 := Fld.keep F_bytes_x0 K' (ninS ne_x0_arR nin0)
  replace F_length_x0 := Fld.keep F_length_x0 K' (ninS ne_x0_arR nin0)
  replace E_x0 := Exa.keep E_x0 K'
  replace A_x1 := AV.keep A_x1 K' (ninS ne_x1_arR nin0)
  replace Z0 := Nat.le_trans Z0 K'.1
  replace K := K.trans K' (allS (in_ws qqR) all0)
  replace A_arR := A_arR'
  replace E_arR := Exa.keep E_arR K'
  refine w_aloadN X hx (dq hby d3_21) rfl rfl ?_
  refine w_dup X hx (dq hby d3_22) rfl ?_
  refine w_getf X hx hZ eT hown (hw _ (List.mem_of_getElem? (i := 21) rfl)) F_length_x0 (dq hby d3_23) fun T X eT => ?_
  refine w_aloadN X hx (dq hby d3_26) rfl rfl ?_
  refine w_arrlen X hx hZ eT A_x1 (z := (Int32.ofNat mm)) (i_ofNat (by omega)) (dq hby d3_27) ?_
  refine w_iadd X hx (dq hby d3_28) ?_
  obtain ⟨f3_29, hf3_29⟩ : ∃ z : Int32, z = (lvR + (Int32.ofNat mm)) := ⟨_, rfl⟩
  rw [← hf3_29]
  refine w_putf X hx hZ eT hown (hw _ (List.mem_of_getElem? (i := 21) rfl)) F_length_x0 E_x0 (Or.inl (hw _ (List.mem_of_getElem? (i := 22) rfl))) (hw _ (List.mem_of_getElem? (i := 2) rfl)) (ty := .int) (by decide) rfl rfl (dq hby d3_29) fun T h3 X eT W => ?_
  replace F_bytes_x0 := Fld.other W F_bytes_x0 (Or.inr (slot_ne (Or.inl (hw _ (List.mem_of_getElem? (i := 11) rfl))) (Or.inl (hw _ (List.mem_of_getElem? (i := 22) rfl))) (by decide) (t := (.array .byte)) (t' := .int) (by decide) (by decide)))
  replace E_x0 := Exa.wr W E_x0
  replace E_arR := Exa.wr W E_arR
  replace A_x1 := AV.other A_x1 W (Ne.symm ne_x0_x1)
  replace A_arR := AV.other A_arR W (Ne.symm ne_x0_arR)
  replace Z0 := Nat.le_trans Z0 (Nat.le_of_eq W.size.symm)
  replace K := K.wr W (Or.inl (List.mem_cons_self ..))
  replace N := Fr.snoc X N g_x0
  replace F_length_x0 := Fld.same W F_length_x0
  refine w_aloadN X hx (dq hby d3_32) rfl rfl ?_
  refine w_retA X hx hret rfl rfl hlk (dq hby d3_33) (by decide) (by decide) ?_
  have q1 : f3_29.toInt = ((len + mm : Nat) : Int) := by rw [hf3_29, Jvm.Kit.i32_add] <;> rw [i_ofNat (by omega)] <;> omega
  rw [eT]
  exact ⟨rfl, N, K, E_x0, arR, capR, f3_29, g_arR, ne_x0_arR, qqR, q1, F_bytes_x0, F_length_x0, A_arR, E_arR, hcapR⟩

theorem own_m (x : Int32) : x.toInt8.toInt32 &&& 255 = x &&& 255 := u32_inj (by
  have e1 : u32 (x.toInt8.toInt32 &&& 255) = u32 x.toInt8.toInt32 % 2 ^ 8 := u32_and _ _ (by decide)
  have e2 : u32 (x &&& 255) = u32 x % 2 ^ 8 := u32_and _ _ (by decide)
  have e3 := u_i2b x
  omega)
theorem own_out {pa : Nat → Int32} {n j : Nat} (a b : Int32) (hj : j < n) : upd (upd (cpy pa (fun _ => (0 : Int32)) 0 0 n) (0 + n) a) (0 + n + 1) b j = pa j := by
  rw [upd_ne _ _ (by omega), upd_ne _ _ (by omega), cpy, if_pos (by omega)]; congr 1; omega
theorem own_a {f : Nat → Int32} {n : Nat} (a b : Int32) : upd (upd f (0 + n) a) (0 + n + 1) b n = a := by
  rw [upd_ne _ _ (by omega), show 0 + n = n by omega, upd_at]
theorem own_b {f : Nat → Int32} {n : Nat} (a b : Int32) : upd (upd f (0 + n) a) (0 + n + 1) b (n + 1) = b := by
  rw [show 0 + n + 1 = n + 1 by omega, upd_at]

def Q0 (n0 : Nat) (v : Option Value) (h : Heap) (L : List Loc) : Prop := v = some (.int (1 : Int32)) ∧ Fr n0 L
set_option maxRecDepth 65536 in
set_option maxHeartbeats 40000000 in
theorem rm0 (l : Launch) (Z : State) (a0 : Array Value) (hw : ∀ d ∈ tables_1, d.before a0 Z = true) (ws : List Jvm.Cond) (i0 : Int32) (i1 : Int32) (i2 : Int32) (i3 : Int32) (i4 : Int32) (h0 : Heap) (n0 : Nat) (Z0 : n0 ≤ h0.size) :
    MetFree l x (head1 (Jvm.Cond.code x code maxLocals ret :: ws) room_1) (fun a U => a = #[(.int i0), (.int i1), (.int i2), (.int i3), (.int i4)] ∧ Z.Warmed39 U.vm ∧ U.heap = h0) (fun _ _ _ _ _ => True) (fun _ U o U' => ∃ v L, o = .returned v ∧ Q0 n0 v U'.heap L ∧ FrameEnd U o U' L 24 1536) := by
  refine w_body pn_0 ?_
  intro p e s m below meth c T X hx hby hml hown hnm hret hlk hZ eT
  rw [ef_0]
  have N := Fr.nil n0
  refine w_iloadN X hx (dq hby d0_0) rfl ?_
  refine w_bipush X hx (dq hby d0_1) (z := 127) rfl ?_
  refine w_iand X hx (dq hby d0_3) ?_
  obtain ⟨v5_4, hv5_4⟩ : ∃ z : Int32, z = (i0 &&& (127 : Int32)) := ⟨_, rfl⟩
  refine w_istore X hx (dq hby d0_4) (z := v5_4) hv5_4 (Ls' := #[.val (.int i0), .val (.int i1), .val (.int i2), .val (.int i3), .val (.int i4), .val (.int v5_4), .unset, .unset, .unset, .unset, .unset, .unset, .unset, .unset]) rfl ?_
  have m7 : v5_4.toInt = i0.toInt % 2 ^ 7 := by rw [hv5_4]; exact Jvm.Kit.i32_mask i0 127 (by decide) (by decide)
  obtain ⟨n, hn0⟩ : ∃ n : Nat, n = v5_4.toInt.toNat := ⟨_, rfl⟩
  have hn : v5_4.toInt = (n : Int) := by omega
  have hn7 : n ≤ 127 := by omega
  have l1 : (1 : Int32).toInt = 1 := rfl
  have l2 : (2 : Int32).toInt = 2 := rfl
  have e1 : (v5_4 + 1).toInt = ((n + 1 : Nat) : Int) := by rw [Jvm.Kit.i32_add] <;> rw [l1] <;> omega
  have e2 : (v5_4 + 2).toInt = ((0 + n + 1 + 1 : Nat) : Int) := by rw [Jvm.Kit.i32_add] <;> rw [l2] <;> omega
  have em : 0 < n → (v5_4 - 1).toInt = ((n - 1 : Nat) : Int) := fun q => by rw [Jvm.Kit.i32_sub] <;> rw [l1] <;> omega
  refine w_iload X hx (dq hby d0_6) rfl ?_
  refine w_newarrE X hx hZ eT (hw _ (List.mem_of_getElem? (i := 0) rfl)) (dq hby d0_8) (n := n) (cap := 127) (hn) (hn7) (by decide) (by decide) (by decide) fun T h1 b8 hb_b8 X eT EX A_b8 E_b8 => ?_
  have g_b8 : n0 ≤ b8 := by omega
  replace Z0 := Nat.le_trans Z0 EX.1
  replace A_b8 : AV Z h1 b8 .byte n (iF (fun _ => (0 : Int32))) := A_b8
  refine w_astore X hx (dq hby d0_10) rfl (Ls' := #[.val (.int i0), .val (.int i1), .val (.int i2), .val (.int i3), .val (.int i4), .val (.int v5_4), .val (.ref b8), .unset, .unset, .unset, .unset, .unset, .unset, .unset]) rfl ?_
  refine w_iload X hx (dq hby d0_12) rfl ?_
  refine w_if_le X hx (dj hby d0_14) (fun hc14 => ?_) (fun hc14 => ?_)
  · have yp : Byt (fun _ => (0 : Int32)) := byt0
    refine w_new X hx hZ eT hown (hw _ (List.mem_of_getElem? (i := 1) rfl)) (hw _ (List.mem_of_getElem? (i := 2) rfl)) (hw _ (List.mem_of_getElem? (i := 3) rfl)) (dq hby d0_33) (by decide) (by decide) fun T h2 b33 hb_b33 X eT EX E_b33 D_b33 => ?_
    have ne_b8_b33 : b8 ≠ b33 := by rw [hb_b33]; exact Nat.ne_of_lt E_b8.lt
    have g_b33 : n0 ≤ b33 := by omega
    replace E_b8 := Exa.ext EX E_b8
    replace A_b8 := AV.ext A_b8 EX
    replace Z0 := Nat.le_trans Z0 EX.1
    have F_bytes_b33 : Fld Z h2 b33 "com/example/queue_directory/queuedirectory/rpc/NdrWriter" "bytes" "[B" .null := D_b33 (Or.inl (hw _ (List.mem_of_getElem? (i := 11) rfl))) (ty := (.array .byte)) (by decide)
    have F_length_b33 : Fld Z h2 b33 "com/example/queue_directory/queuedirectory/rpc/NdrWriter" "length" "I" (.int (0 : Int32)) := D_b33 (Or.inl (hw _ (List.mem_of_getElem? (i := 22) rfl))) (ty := .int) (by decide)
    refine w_dup X hx (dq hby d0_36) rfl ?_
    refine w_callI X hx hZ eT hml (by rfl) hown rfl (hw _ (List.mem_of_getElem? (i := 4) rfl)) (hw _ (List.mem_of_getElem? (i := 5) rfl)) (hw _ (List.mem_of_getElem? (i := 3) rfl)) (hw _ (List.mem_of_getElem? (i := 6) rfl)) (by decide) (ct1 l Z a0 hw b33 n0 h2 Z0 g_b33 E_b33 F_bytes_b33 F_length_b33) (b := b33) (dq hby d0_37) pd_3 (argsL := []) (rest := [(.ref b33)]) rfl rfl rfl (W := 1) rfl (by decide) (by decide) (by decide) (by decide) fun v T L X hQ => ?_
    have lt_b8 := A_b8.lt
    generalize eT : T.heap = h3 at hQ
    obtain ⟨rfl, N', K', E_b33, ar0, g_ar0, ge_ar0', ne_b33_ar0, F_bytes_b33, F_length_b33, A_ar0, E_ar0⟩ := hQ
    have ne_b8_ar0 : b8 ≠ ar0 := Nat.ne_of_lt (Nat.lt_of_lt_of_le lt_b8 ge_ar0')
    replace E_b8 := Exa.keep E_b8 K'
    replace A_b8 := AV.keep A_b8 K' (ninS ne_b8_b33 nin0)
    replace Z0 := Nat.le_trans Z0 K'.1
    replace N := Fr.app N N'
    refine w_astore X hx (dq hby d0_40) rfl (Ls' := #[.val (.int i0), .val (.int i1), .val (.int i2), .val (.int i3), .val (.int i4), .val (.int v5_4), .val (.ref b8), .val (.ref b33), .unset, .unset, .unset, .unset, .unset, .unset]) rfl ?_
    refine w_aload X hx (dq hby d0_42) rfl rfl ?_
    refine w_aload X hx (dq hby d0_44) rfl rfl ?_
    refine w_callV X hx hZ eT hml (by rfl) hown (hw _ (List.mem_of_getElem? (i := 12) rfl)) (hw _ (List.mem_of_getElem? (i := 13) rfl)) (hw _ (List.mem_of_getElem? (i := 15) rfl)) (hw _ (List.mem_of_getElem? (i := 14) rfl)) (hw _ (List.mem_of_getElem? (i := 3) rfl)) (hw _ (List.mem_of_getElem? (i := 16) rfl)) (by decide) (bytesG l Z a0 hw b33 b8 n0 ar0 (0 : Int32) 64 0 (fun _ => (0 : Int32)) n (fun _ => (0 : Int32)) h3 Z0 g_b33 g_ar0 ne_b33_ar0 E_b33 F_bytes_b33 F_length_b33 A_ar0 E_ar0 rfl (by decide) (by decide) byt0 (zro0 0) (Ne.symm ne_b8_b33) (Ne.symm ne_b8_ar0) A_b8 yp (by omega) (by omega)) E_b33 (dq hby d0_46) pd_4 (argsL := [(.ref b8)]) (rest := []) rfl rfl rfl (W := 0) rfl (by decide) (by decide) (by decide) (by decide) fun v T L X hQ => ?_
    have lt_b8 := A_b8.lt
    generalize eT : T.heap = h4 at hQ
    obtain ⟨rfl, N', K', E_b33, ar1, cap1, lv1, g_ar1, ne_b33_ar1, qq1, hlv1, F_bytes_b33, F_length_b33, A_ar1, E_ar1, hcap1⟩ := hQ
    have ne_b8_ar1 : b8 ≠ ar1 := ne_keep ne_b8_ar0 lt_b8 qq1
    replace E_b8 := Exa.keep E_b8 K'
    replace A_b8 := AV.keep A_b8 K' (ninS ne_b8_b33 (ninS ne_b8_ar0 nin0))
    replace Z0 := Nat.le_trans Z0 K'.1
    replace N := Fr.app N N'
    have hY1 : Byt (cpy (fun _ => (0 : Int32)) (fun _ => (0 : Int32)) 0 0 n) := byt_cpy yp byt0 _ _ _
    have hz1 : Zro (0 + n) (cpy (fun _ => (0 : Int32)) (fun _ => (0 : Int32)) 0 0 n) := zro_cpy (zro0 0) _ _
    have hc1 : cap1 = 64 ∧ n ≤ 64 ∨ cap1 = 128 := by rw [hcap1]; unfold capf; split <;> omega
    refine w_pop X hx (dq hby d0_49) rfl ?_
    refine w_aload X hx (dq hby d0_50) rfl rfl ?_
    refine w_iloadN X hx (dq hby d0_52) rfl ?_
    refine w_callV X hx hZ eT hml (by rfl) hown (hw _ (List.mem_of_getElem? (i := 27) rfl)) (hw _ (List.mem_of_getElem? (i := 28) rfl)) (hw _ (List.mem_of_getElem? (i := 30) rfl)) (hw _ (List.mem_of_getElem? (i := 29) rfl)) (hw _ (List.mem_of_getElem? (i := 3) rfl)) (hw _ (List.mem_of_getElem? (i := 31) rfl)) (by decide) (u8G l Z a0 hw b33 i1 n0 ar1 lv1 cap1 (0 + n) (cpy (fun _ => (0 : Int32)) (fun _ => (0 : Int32)) 0 0 n) h4 Z0 g_b33 g_ar1 ne_b33_ar1 E_b33 F_bytes_b33 F_length_b33 A_ar1 E_ar1 hlv1 (by omega) (by omega) hY1 hz1 (by omega)) E_b33 (dq hby d0_53) pd_5 (argsL := [(.int i1)]) (rest := []) rfl rfl rfl (W := 0) rfl (by decide) (by decide) (by decide) (by decide) fun v T L X hQ => ?_
    have lt_b8 := A_b8.lt
    generalize eT : T.heap = h5 at hQ
    obtain ⟨rfl, N', K', E_b33, ar2, cap2, lv2, g_ar2, ne_b33_ar2, qq2, hlv2, F_bytes_b33, F_length_b33, A_ar2, E_ar2, hcap2⟩ := hQ
    have ne_b8_ar2 : b8 ≠ ar2 := ne_keep ne_b8_ar1 lt_b8 qq2
    replace E_b8 := Exa.keep E_b8 K'
    replace A_b8 := AV.keep A_b8 K' (ninS ne_b8_b33 (ninS ne_b8_ar1 nin0))
    replace Z0 := Nat.le_trans Z0 K'.1
    replace N := Fr.app N N'
    have hY2 := byt_upd hY1 (0 + n) i1
    have hz2 := zro_upd hz1 i1.toInt8.toInt32
    have hc2 : cap2 = 64 ∧ n + 1 ≤ 64 ∨ cap2 = 128 := by rw [hcap2]; unfold capf; split <;> omega
    refine w_astore X hx (dq hby d0_56) rfl (Ls' := #[.val (.int i0), .val (.int i1), .val (.int i2), .val (.int i3), .val (.int i4), .val (.int v5_4), .val (.ref b8), .val (.ref b33), .val (.ref b33), .unset, .unset, .unset, .unset, .unset]) rfl ?_
    refine w_aload X hx (dq hby d0_58) rfl rfl ?_
    refine w_callVP X hx hZ eT hml (by rfl) hown (hw _ (List.mem_of_getElem? (i := 32) rfl)) (hw _ (List.mem_of_getElem? (i := 33) rfl)) (hw _ (List.mem_of_getElem? (i := 35) rfl)) (hw _ (List.mem_of_getElem? (i := 34) rfl)) (hw _ (List.mem_of_getElem? (i := 3) rfl)) (hw _ (List.mem_of_getElem? (i := 36) rfl)) (by decide) (ct6 l Z a0 hw b33 lv2 h5 F_length_b33) E_b33 (dq hby d0_60) pd_6 (argsL := []) (rest := []) rfl rfl rfl (W := 0) rfl (by decide) (by decide) (by decide) (by decide) fun T X eT => ?_
    refine w_istore X hx (dq hby d0_63) (z := lv2) rfl (Ls' := #[.val (.int i0), .val (.int i1), .val (.int i2), .val (.int i3), .val (.int i4), .val (.int v5_4), .val (.ref b8), .val (.ref b33), .val (.ref b33), .val (.int lv2), .unset, .unset, .unset, .unset]) rfl ?_
    refine w_aload X hx (dq hby d0_65) rfl rfl ?_
    refine w_iloadN X hx (dq hby d0_67) rfl ?_
    refine w_callV X hx hZ eT hml (by rfl) hown (hw _ (List.mem_of_getElem? (i := 27) rfl)) (hw _ (List.mem_of_getElem? (i := 28) rfl)) (hw _ (List.mem_of_getElem? (i := 30) rfl)) (hw _ (List.mem_of_getElem? (i := 29) rfl)) (hw _ (List.mem_of_getElem? (i := 3) rfl)) (hw _ (List.mem_of_getElem? (i := 31) rfl)) (by decide) (u8G l Z a0 hw b33 i2 n0 ar2 lv2 cap2 (0 + n + 1) (upd (cpy (fun _ => (0 : Int32)) (fun _ => (0 : Int32)) 0 0 n) (0 + n) i1.toInt8.toInt32) h5 Z0 g_b33 g_ar2 ne_b33_ar2 E_b33 F_bytes_b33 F_length_b33 A_ar2 E_ar2 hlv2 (by omega) (by omega) hY2 hz2 (by omega)) E_b33 (dq hby d0_68) pd_5 (argsL := [(.int i2)]) (rest := []) rfl rfl rfl (W := 0) rfl (by decide) (by decide) (by decide) (by decide) fun v T L X hQ => ?_
    have lt_b8 := A_b8.lt
    generalize eT : T.heap = h6 at hQ
    obtain ⟨rfl, N', K', E_b33, ar3, cap3, lv3, g_ar3, ne_b33_ar3, qq3, hlv3, F_bytes_b33, F_length_b33, A_ar3, E_ar3, hcap3⟩ := hQ
    have ne_b8_ar3 : b8 ≠ ar3 := ne_keep ne_b8_ar2 lt_b8 qq3
    replace E_b8 := Exa.keep E_b8 K'
    replace A_b8 := AV.keep A_b8 K' (ninS ne_b8_b33 (ninS ne_b8_ar2 nin0))
    replace Z0 := Nat.le_trans Z0 K'.1
    replace N := Fr.app N N'
    have hY3 := byt_upd hY2 (0 + n + 1) i2
    have hz3 := zro_upd hz2 i2.toInt8.toInt32
    have hc3 : n + 2 ≤ cap3 ∧ cap3 ≤ 256 := by rw [hcap3]; unfold capf; split <;> omega
    refine w_astore X hx (dq hby d0_71) rfl (Ls' := #[.val (.int i0), .val (.int i1), .val (.int i2), .val (.int i3), .val (.int i4), .val (.int v5_4), .val (.ref b8), .val (.ref b33), .val (.ref b33), .val (.int lv2), .val (.ref b33), .unset, .unset, .unset]) rfl ?_
    refine w_aload X hx (dq hby d0_73) rfl rfl ?_
    refine w_callVP X hx hZ eT hml (by rfl) hown (hw _ (List.mem_of_getElem? (i := 32) rfl)) (hw _ (List.mem_of_getElem? (i := 33) rfl)) (hw _ (List.mem_of_getElem? (i := 35) rfl)) (hw _ (List.mem_of_getElem? (i := 34) rfl)) (hw _ (List.mem_of_getElem? (i := 3) rfl)) (hw _ (List.mem_of_getElem? (i := 36) rfl)) (by decide) (ct6 l Z a0 hw b33 lv3 h6 F_length_b33) E_b33 (dq hby d0_75) pd_6 (argsL := []) (rest := []) rfl rfl rfl (W := 0) rfl (by decide) (by decide) (by decide) (by decide) fun T X eT => ?_
    refine w_istore X hx (dq hby d0_78) (z := lv3) rfl (Ls' := #[.val (.int i0), .val (.int i1), .val (.int i2), .val (.int i3), .val (.int i4), .val (.int v5_4), .val (.ref b8), .val (.ref b33), .val (.ref b33), .val (.int lv2), .val (.ref b33), .val (.int lv3), .unset, .unset]) rfl ?_
    refine w_aload X hx (dq hby d0_80) rfl rfl ?_
    refine w_callV X hx hZ eT hml (by rfl) hown (hw _ (List.mem_of_getElem? (i := 37) rfl)) (hw _ (List.mem_of_getElem? (i := 38) rfl)) (hw _ (List.mem_of_getElem? (i := 40) rfl)) (hw _ (List.mem_of_getElem? (i := 39) rfl)) (hw _ (List.mem_of_getElem? (i := 3) rfl)) (hw _ (List.mem_of_getElem? (i := 41) rfl)) (by decide) (ct7 l Z a0 hw b33 n0 ar3 lv3 cap3 (0 + n + 1 + 1) (upd (upd (cpy (fun _ => (0 : Int32)) (fun _ => (0 : Int32)) 0 0 n) (0 + n) i1.toInt8.toInt32) (0 + n + 1) i2.toInt8.toInt32) h6 Z0 g_b33 g_ar3 ne_b33_ar3 E_b33 F_bytes_b33 F_length_b33 A_ar3 E_ar3 hlv3 (by omega) (by omega) hY3 hz3 (by omega)) E_b33 (dq hby d0_82) pd_7 (argsL := []) (rest := []) rfl rfl rfl (W := 0) rfl (by decide) (by decide) (by decide) (by decide) fun v T L X hQ => ?_
    have lt_b8 := A_b8.lt
    have lt_ar3 := A_ar3.lt
    have lt_b33 := E_b33.lt
    generalize eT : T.heap = h7 at hQ
    obtain ⟨btX, rfl, N', K', ge_btX', A_btX⟩ := hQ
    have g_btX : n0 ≤ btX := Nat.le_trans Z0 ge_btX'
    have ne_b8_btX : b8 ≠ btX := Nat.ne_of_lt (Nat.lt_of_lt_of_le lt_b8 ge_btX')
    have ne_ar3_btX : ar3 ≠ btX := Nat.ne_of_lt (Nat.lt_of_lt_of_le lt_ar3 ge_btX')
    have ne_b33_btX : b33 ≠ btX := Nat.ne_of_lt (Nat.lt_of_lt_of_le lt_b33 ge_btX')
    replace F_bytes_b33 := Fld.keep F_bytes_b33 K' nin0
    replace F_length_b33 := Fld.keep F_length_b33 K' nin0
    replace E_b8 := Exa.keep E_b8 K'
    replace E_b33 := Exa.keep E_b33 K'
    replace E_ar3 := Exa.keep E_ar3 K'
    replace A_b8 := AV.keep A_b8 K' nin0
    replace A_ar3 := AV.keep A_ar3 K' nin0
    replace Z0 := Nat.le_trans Z0 K'.1
    replace N := Fr.app N N'
    refine w_astore X hx (dq hby d0_85) rfl (Ls' := #[.val (.int i0), .val (.int i1), .val (.int i2), .val (.int i3), .val (.int i4), .val (.int v5_4), .val (.ref b8), .val (.ref b33), .val (.ref b33), .val (.int lv2), .val (.ref b33), .val (.int lv3), .val (.ref btX), .unset]) rfl ?_
    refine w_aload X hx (dq hby d0_87) rfl rfl ?_
    refine w_aload X hx (dq hby d0_89) rfl rfl ?_
    refine w_acmpN X hx (dj hby d0_91) ?_
    refine w_aload X hx (dq hby d0_94) rfl rfl ?_
    refine w_aload X hx (dq hby d0_96) rfl rfl ?_
    refine w_acmpE X hx (dj hby d0_98) ?_
    refine w_iload X hx (dq hby d0_103) rfl ?_
    refine w_iload X hx (dq hby d0_105) rfl ?_
    refine w_iconst X hx (dq hby d0_107) (z := 1) rfl ?_
    refine w_iadd X hx (dq hby d0_108) ?_
    refine w_icmp_ne X hx (dj hby d0_109) (fun hc109 => (?_ : False).elim) (fun hc109 => ?_)
    · exact hc109 (i32_inj (by rw [hlv2, e1]; omega))
    refine w_iload X hx (dq hby d0_112) rfl ?_
    refine w_iload X hx (dq hby d0_114) rfl ?_
    refine w_iconst X hx (dq hby d0_116) (z := 2) rfl ?_
    refine w_iadd X hx (dq hby d0_117) ?_
    refine w_icmp_ne X hx (dj hby d0_118) (fun hc118 => (?_ : False).elim) (fun hc118 => ?_)
    · exact hc118 (i32_inj (by rw [hlv3, e2]))
    refine w_aload X hx (dq hby d0_121) rfl rfl ?_
    refine w_arrlen X hx hZ eT A_btX (z := (v5_4 + (2 : Int32))) (e2) (dq hby d0_123) ?_
    refine w_iload X hx (dq hby d0_124) rfl ?_
    refine w_iconst X hx (dq hby d0_126) (z := 2) rfl ?_
    refine w_iadd X hx (dq hby d0_127) ?_
    refine w_icmp_eq X hx (dj hby d0_128) (fun hc128 => ?_) (fun hc128 => (?_ : False).elim)
    rotate_left
    · exact hc128 rfl
    refine w_aload X hx (dq hby d0_133) rfl rfl ?_
    refine w_iload X hx (dq hby d0_135) rfl ?_
    refine w_baload X hx hZ eT A_btX (i := n) (hn) (by omega) (z := (i1.toInt8.toInt32)) (own_a _ _) (dq hby d0_137) ?_
    refine w_sipush X hx (dq hby d0_138) (z := 255) rfl ?_
    refine w_iand X hx (dq hby d0_141) ?_
    refine w_iloadN X hx (dq hby d0_142) rfl ?_
    refine w_sipush X hx (dq hby d0_143) (z := 255) rfl ?_
    refine w_iand X hx (dq hby d0_146) ?_
    refine w_icmp_eq X hx (dj hby d0_147) (fun hc147 => ?_) (fun hc147 => (?_ : False).elim)
    rotate_left
    · exact hc147 (own_m i1)
    refine w_aload X hx (dq hby d0_152) rfl rfl ?_
    refine w_iload X hx (dq hby d0_154) rfl ?_
    refine w_iconst X hx (dq hby d0_156) (z := 1) rfl ?_
    refine w_iadd X hx (dq hby d0_157) ?_
    refine w_baload X hx hZ eT A_btX (i := (n + 1)) (e1) (by omega) (z := (i2.toInt8.toInt32)) (own_b _ _) (dq hby d0_158) ?_
    refine w_sipush X hx (dq hby d0_159) (z := 255) rfl ?_
    refine w_iand X hx (dq hby d0_162) ?_
    refine w_iloadN X hx (dq hby d0_163) rfl ?_
    refine w_sipush X hx (dq hby d0_164) (z := 255) rfl ?_
    refine w_iand X hx (dq hby d0_167) ?_
    refine w_icmp_eq X hx (dj hby d0_168) (fun hc168 => ?_) (fun hc168 => (?_ : False).elim)
    rotate_left
    · exact hc168 (own_m i2)
    refine w_iload X hx (dq hby d0_173) rfl ?_
    refine w_if_le X hx (dj hby d0_175) (fun hc175 => ?_) (fun hc175 => (?_ : False).elim)
    rotate_left
    · omega
    refine w_iconst X hx (dq hby d0_220) (z := 1) rfl ?_
    refine w_retN X hx hret (by simp) hlk (dq hby d0_221) (by decide) (by decide) ?_
    exact ⟨by simp [nar], N⟩
  · refine w_aload X hx (dq hby d0_17) rfl rfl ?_
    refine w_iconst X hx (dq hby d0_19) (z := 0) rfl ?_
    refine w_iloadN X hx (dq hby d0_20) rfl ?_
    refine w_i2b X hx (dq hby d0_21) ?_
    refine w_bastore X hx hZ eT A_b8 (i := 0) (rfl) (by omega) (dq hby d0_22) fun T h8 X eT W A' => ?_
    replace E_b8 := Exa.wr W E_b8
    replace Z0 := Nat.le_trans Z0 (Nat.le_of_eq W.size.symm)
    replace N := Fr.snoc X N g_b8
    replace A_b8 := A'
    obtain ⟨g0_22, hg0_22⟩ : ∃ gg, gg = (upd (fun _ => (0 : Int32)) 0 (((i3.toInt8.toInt32)).toInt8.toInt32)) := ⟨_, rfl⟩
    rw [← hg0_22] at A_b8
    refine w_aload X hx (dq hby d0_23) rfl rfl ?_
    refine w_iload X hx (dq hby d0_25) rfl ?_
    refine w_iconst X hx (dq hby d0_27) (z := 1) rfl ?_
    refine w_isub X hx (dq hby d0_28) ?_
    refine w_iload X hx (dq hby d0_29) rfl ?_
    refine w_i2b X hx (dq hby d0_31) ?_
    refine w_bastore X hx hZ eT A_b8 (i := (n - 1)) (em (by omega)) (by omega) (dq hby d0_32) fun T h9 X eT W A' => ?_
    replace E_b8 := Exa.wr W E_b8
    replace Z0 := Nat.le_trans Z0 (Nat.le_of_eq W.size.symm)
    replace N := Fr.snoc X N g_b8
    replace A_b8 := A'
    obtain ⟨g0_32, hg0_32⟩ : ∃ gg, gg = (upd g0_22 (n - 1) (((i4.toInt8.toInt32)).toInt8.toInt32)) := ⟨_, rfl⟩
    rw [← hg0_32] at A_b8
    have yp : Byt g0_32 := by rw [hg0_32, hg0_22]; exact byt_upd (byt_upd byt0 _ _) _ _
    have p9 : g0_32 (n - 1) = i4.toInt8.toInt32 := by rw [hg0_32, upd_at, i2b_i2b]
    have p0 : n ≠ 1 → g0_32 0 = i3.toInt8.toInt32 := fun q => by rw [hg0_32, upd_ne _ _ (by omega), hg0_22, upd_at, i2b_i2b]
    refine w_new X hx hZ eT hown (hw _ (List.mem_of_getElem? (i := 1) rfl)) (hw _ (List.mem_of_getElem? (i := 2) rfl)) (hw _ (List.mem_of_getElem? (i := 3) rfl)) (dq hby d0_33) (by decide) (by decide) fun T h10 b33 hb_b33 X eT EX E_b33 D_b33 => ?_
    have ne_b8_b33 : b8 ≠ b33 := by rw [hb_b33]; exact Nat.ne_of_lt E_b8.lt
    have g_b33 : n0 ≤ b33 := by omega
    replace E_b8 := Exa.ext EX E_b8
    replace A_b8 := AV.ext A_b8 EX
    replace Z0 := Nat.le_trans Z0 EX.1
    have F_bytes_b33 : Fld Z h10 b33 "com/example/queue_directory/queuedirectory/rpc/NdrWriter" "bytes" "[B" .null := D_b33 (Or.inl (hw _ (List.mem_of_getElem? (i := 11) rfl))) (ty := (.array .byte)) (by decide)
    have F_length_b33 : Fld Z h10 b33 "com/example/queue_directory/queuedirectory/rpc/NdrWriter" "length" "I" (.int (0 : Int32)) := D_b33 (Or.inl (hw _ (List.mem_of_getElem? (i := 22) rfl))) (ty := .int) (by decide)
    refine w_dup X hx (dq hby d0_36) rfl ?_
    refine w_callI X hx hZ eT hml (by rfl) hown rfl (hw _ (List.mem_of_getElem? (i := 4) rfl)) (hw _ (List.mem_of_getElem? (i := 5) rfl)) (hw _ (List.mem_of_getElem? (i := 3) rfl)) (hw _ (List.mem_of_getElem? (i := 6) rfl)) (by decide) (ct1 l Z a0 hw b33 n0 h10 Z0 g_b33 E_b33 F_bytes_b33 F_length_b33) (b := b33) (dq hby d0_37) pd_3 (argsL := []) (rest := [(.ref b33)]) rfl rfl rfl (W := 1) rfl (by decide) (by decide) (by decide) (by decide) fun v T L X hQ => ?_
    have lt_b8 := A_b8.lt
    generalize eT : T.heap = h11 at hQ
    obtain ⟨rfl, N', K', E_b33, ar0, g_ar0, ge_ar0', ne_b33_ar0, F_bytes_b33, F_length_b33, A_ar0, E_ar0⟩ := hQ
    have ne_b8_ar0 : b8 ≠ ar0 := Nat.ne_of_lt (Nat.lt_of_lt_of_le lt_b8 ge_ar0')
    replace E_b8 := Exa.keep E_b8 K'
    replace A_b8 := AV.keep A_b8 K' (ninS ne_b8_b33 nin0)
    replace Z0 := Nat.le_trans Z0 K'.1
    replace N := Fr.app N N'
    refine w_astore X hx (dq hby d0_40) rfl (Ls' := #[.val (.int i0), .val (.int i1), .val (.int i2), .val (.int i3), .val (.int i4), .val (.int v5_4), .val (.ref b8), .val (.ref b33), .unset, .unset, .unset, .unset, .unset, .unset]) rfl ?_
    refine w_aload X hx (dq hby d0_42) rfl rfl ?_
    refine w_aload X hx (dq hby d0_44) rfl rfl ?_
    refine w_callV X hx hZ eT hml (by rfl) hown (hw _ (List.mem_of_getElem? (i := 12) rfl)) (hw _ (List.mem_of_getElem? (i := 13) rfl)) (hw _ (List.mem_of_getElem? (i := 15) rfl)) (hw _ (List.mem_of_getElem? (i := 14) rfl)) (hw _ (List.mem_of_getElem? (i := 3) rfl)) (hw _ (List.mem_of_getElem? (i := 16) rfl)) (by decide) (bytesG l Z a0 hw b33 b8 n0 ar0 (0 : Int32) 64 0 (fun _ => (0 : Int32)) n g0_32 h11 Z0 g_b33 g_ar0 ne_b33_ar0 E_b33 F_bytes_b33 F_length_b33 A_ar0 E_ar0 rfl (by decide) (by decide) byt0 (zro0 0) (Ne.symm ne_b8_b33) (Ne.symm ne_b8_ar0) A_b8 yp (by omega) (by omega)) E_b33 (dq hby d0_46) pd_4 (argsL := [(.ref b8)]) (rest := []) rfl rfl rfl (W := 0) rfl (by decide) (by decide) (by decide) (by decide) fun v T L X hQ => ?_
    have lt_b8 := A_b8.lt
    generalize eT : T.heap = h12 at hQ
    obtain ⟨rfl, N', K', E_b33, ar1, cap1, lv1, g_ar1, ne_b33_ar1, qq1, hlv1, F_bytes_b33, F_length_b33, A_ar1, E_ar1, hcap1⟩ := hQ
    have ne_b8_ar1 : b8 ≠ ar1 := ne_keep ne_b8_ar0 lt_b8 qq1
    replace E_b8 := Exa.keep E_b8 K'
    replace A_b8 := AV.keep A_b8 K' (ninS ne_b8_b33 (ninS ne_b8_ar0 nin0))
    replace Z0 := Nat.le_trans Z0 K'.1
    replace N := Fr.app N N'
    have hY1 : Byt (cpy g0_32 (fun _ => (0 : Int32)) 0 0 n) := byt_cpy yp byt0 _ _ _
    have hz1 : Zro (0 + n) (cpy g0_32 (fun _ => (0 : Int32)) 0 0 n) := zro_cpy (zro0 0) _ _
    have hc1 : cap1 = 64 ∧ n ≤ 64 ∨ cap1 = 128 := by rw [hcap1]; unfold capf; split <;> omega
    refine w_pop X hx (dq hby d0_49) rfl ?_
    refine w_aload X hx (dq hby d0_50) rfl rfl ?_
    refine w_iloadN X hx (dq hby d0_52) rfl ?_
    refine w_callV X hx hZ eT hml (by rfl) hown (hw _ (List.mem_of_getElem? (i := 27) rfl)) (hw _ (List.mem_of_getElem? (i := 28) rfl)) (hw _ (List.mem_of_getElem? (i := 30) rfl)) (hw _ (List.mem_of_getElem? (i := 29) rfl)) (hw _ (List.mem_of_getElem? (i := 3) rfl)) (hw _ (List.mem_of_getElem? (i := 31) rfl)) (by decide) (u8G l Z a0 hw b33 i1 n0 ar1 lv1 cap1 (0 + n) (cpy g0_32 (fun _ => (0 : Int32)) 0 0 n) h12 Z0 g_b33 g_ar1 ne_b33_ar1 E_b33 F_bytes_b33 F_length_b33 A_ar1 E_ar1 hlv1 (by omega) (by omega) hY1 hz1 (by omega)) E_b33 (dq hby d0_53) pd_5 (argsL := [(.int i1)]) (rest := []) rfl rfl rfl (W := 0) rfl (by decide) (by decide) (by decide) (by decide) fun v T L X hQ => ?_
    have lt_b8 := A_b8.lt
    generalize eT : T.heap = h13 at hQ
    obtain ⟨rfl, N', K', E_b33, ar2, cap2, lv2, g_ar2, ne_b33_ar2, qq2, hlv2, F_bytes_b33, F_length_b33, A_ar2, E_ar2, hcap2⟩ := hQ
    have ne_b8_ar2 : b8 ≠ ar2 := ne_keep ne_b8_ar1 lt_b8 qq2
    replace E_b8 := Exa.keep E_b8 K'
    replace A_b8 := AV.keep A_b8 K' (ninS ne_b8_b33 (ninS ne_b8_ar1 nin0))
    replace Z0 := Nat.le_trans Z0 K'.1
    replace N := Fr.app N N'
    have hY2 := byt_upd hY1 (0 + n) i1
    have hz2 := zro_upd hz1 i1.toInt8.toInt32
    have hc2 : cap2 = 64 ∧ n + 1 ≤ 64 ∨ cap2 = 128 := by rw [hcap2]; unfold capf; split <;> omega
    refine w_astore X hx (dq hby d0_56) rfl (Ls' := #[.val (.int i0), .val (.int i1), .val (.int i2), .val (.int i3), .val (.int i4), .val (.int v5_4), .val (.ref b8), .val (.ref b33), .val (.ref b33), .unset, .unset, .unset, .unset, .unset]) rfl ?_
    refine w_aload X hx (dq hby d0_58) rfl rfl ?_
    refine w_callVP X hx hZ eT hml (by rfl) hown (hw _ (List.mem_of_getElem? (i := 32) rfl)) (hw _ (List.mem_of_getElem? (i := 33) rfl)) (hw _ (List.mem_of_getElem? (i := 35) rfl)) (hw _ (List.mem_of_getElem? (i := 34) rfl)) (hw _ (List.mem_of_getElem? (i := 3) rfl)) (hw _ (List.mem_of_getElem? (i := 36) rfl)) (by decide) (ct6 l Z a0 hw b33 lv2 h13 F_length_b33) E_b33 (dq hby d0_60) pd_6 (argsL := []) (rest := []) rfl rfl rfl (W := 0) rfl (by decide) (by decide) (by decide) (by decide) fun T X eT => ?_
    refine w_istore X hx (dq hby d0_63) (z := lv2) rfl (Ls' := #[.val (.int i0), .val (.int i1), .val (.int i2), .val (.int i3), .val (.int i4), .val (.int v5_4), .val (.ref b8), .val (.ref b33), .val (.ref b33), .val (.int lv2), .unset, .unset, .unset, .unset]) rfl ?_
    refine w_aload X hx (dq hby d0_65) rfl rfl ?_
    refine w_iloadN X hx (dq hby d0_67) rfl ?_
    refine w_callV X hx hZ eT hml (by rfl) hown (hw _ (List.mem_of_getElem? (i := 27) rfl)) (hw _ (List.mem_of_getElem? (i := 28) rfl)) (hw _ (List.mem_of_getElem? (i := 30) rfl)) (hw _ (List.mem_of_getElem? (i := 29) rfl)) (hw _ (List.mem_of_getElem? (i := 3) rfl)) (hw _ (List.mem_of_getElem? (i := 31) rfl)) (by decide) (u8G l Z a0 hw b33 i2 n0 ar2 lv2 cap2 (0 + n + 1) (upd (cpy g0_32 (fun _ => (0 : Int32)) 0 0 n) (0 + n) i1.toInt8.toInt32) h13 Z0 g_b33 g_ar2 ne_b33_ar2 E_b33 F_bytes_b33 F_length_b33 A_ar2 E_ar2 hlv2 (by omega) (by omega) hY2 hz2 (by omega)) E_b33 (dq hby d0_68) pd_5 (argsL := [(.int i2)]) (rest := []) rfl rfl rfl (W := 0) rfl (by decide) (by decide) (by decide) (by decide) fun v T L X hQ => ?_
    have lt_b8 := A_b8.lt
    generalize eT : T.heap = h14 at hQ
    obtain ⟨rfl, N', K', E_b33, ar3, cap3, lv3, g_ar3, ne_b33_ar3, qq3, hlv3, F_bytes_b33, F_length_b33, A_ar3, E_ar3, hcap3⟩ := hQ
    have ne_b8_ar3 : b8 ≠ ar3 := ne_keep ne_b8_ar2 lt_b8 qq3
    replace E_b8 := Exa.keep E_b8 K'
    replace A_b8 := AV.keep A_b8 K' (ninS ne_b8_b33 (ninS ne_b8_ar2 nin0))
    replace Z0 := Nat.le_trans Z0 K'.1
    replace N := Fr.app N N'
    have hY3 := byt_upd hY2 (0 + n + 1) i2
    have hz3 := zro_upd hz2 i2.toInt8.toInt32
    have hc3 : n + 2 ≤ cap3 ∧ cap3 ≤ 256 := by rw [hcap3]; unfold capf; split <;> omega
    refine w_astore X hx (dq hby d0_71) rfl (Ls' := #[.val (.int i0), .val (.int i1), .val (.int i2), .val (.int i3), .val (.int i4), .val (.int v5_4), .val (.ref b8), .val (.ref b33), .val (.ref b33), .val (.int lv2), .val (.ref b33), .unset, .unset, .unset]) rfl ?_
    refine w_aload X hx (dq hby d0_73) rfl rfl ?_
    refine w_callVP X hx hZ eT hml (by rfl) hown (hw _ (List.mem_of_getElem? (i := 32) rfl)) (hw _ (List.mem_of_getElem? (i := 33) rfl)) (hw _ (List.mem_of_getElem? (i := 35) rfl)) (hw _ (List.mem_of_getElem? (i := 34) rfl)) (hw _ (List.mem_of_getElem? (i := 3) rfl)) (hw _ (List.mem_of_getElem? (i := 36) rfl)) (by decide) (ct6 l Z a0 hw b33 lv3 h14 F_length_b33) E_b33 (dq hby d0_75) pd_6 (argsL := []) (rest := []) rfl rfl rfl (W := 0) rfl (by decide) (by decide) (by decide) (by decide) fun T X eT => ?_
    refine w_istore X hx (dq hby d0_78) (z := lv3) rfl (Ls' := #[.val (.int i0), .val (.int i1), .val (.int i2), .val (.int i3), .val (.int i4), .val (.int v5_4), .val (.ref b8), .val (.ref b33), .val (.ref b33), .val (.int lv2), .val (.ref b33), .val (.int lv3), .unset, .unset]) rfl ?_
    refine w_aload X hx (dq hby d0_80) rfl rfl ?_
    refine w_callV X hx hZ eT hml (by rfl) hown (hw _ (List.mem_of_getElem? (i := 37) rfl)) (hw _ (List.mem_of_getElem? (i := 38) rfl)) (hw _ (List.mem_of_getElem? (i := 40) rfl)) (hw _ (List.mem_of_getElem? (i := 39) rfl)) (hw _ (List.mem_of_getElem? (i := 3) rfl)) (hw _ (List.mem_of_getElem? (i := 41) rfl)) (by decide) (ct7 l Z a0 hw b33 n0 ar3 lv3 cap3 (0 + n + 1 + 1) (upd (upd (cpy g0_32 (fun _ => (0 : Int32)) 0 0 n) (0 + n) i1.toInt8.toInt32) (0 + n + 1) i2.toInt8.toInt32) h14 Z0 g_b33 g_ar3 ne_b33_ar3 E_b33 F_bytes_b33 F_length_b33 A_ar3 E_ar3 hlv3 (by omega) (by omega) hY3 hz3 (by omega)) E_b33 (dq hby d0_82) pd_7 (argsL := []) (rest := []) rfl rfl rfl (W := 0) rfl (by decide) (by decide) (by decide) (by decide) fun v T L X hQ => ?_
    have lt_b8 := A_b8.lt
    have lt_ar3 := A_ar3.lt
    have lt_b33 := E_b33.lt
    generalize eT : T.heap = h15 at hQ
    obtain ⟨btX, rfl, N', K', ge_btX', A_btX⟩ := hQ
    have g_btX : n0 ≤ btX := Nat.le_trans Z0 ge_btX'
    have ne_b8_btX : b8 ≠ btX := Nat.ne_of_lt (Nat.lt_of_lt_of_le lt_b8 ge_btX')
    have ne_ar3_btX : ar3 ≠ btX := Nat.ne_of_lt (Nat.lt_of_lt_of_le lt_ar3 ge_btX')
    have ne_b33_btX : b33 ≠ btX := Nat.ne_of_lt (Nat.lt_of_lt_of_le lt_b33 ge_btX')
    replace F_bytes_b33 := Fld.keep F_bytes_b33 K' nin0
    replace F_length_b33 := Fld.keep F_length_b33 K' nin0
    replace E_b8 := Exa.keep E_b8 K'
    replace E_b33 := Exa.keep E_b33 K'
    replace E_ar3 := Exa.keep E_ar3 K'
    replace A_b8 := AV.keep A_b8 K' nin0
    replace A_ar3 := AV.keep A_ar3 K' nin0
    replace Z0 := Nat.le_trans Z0 K'.1
    replace N := Fr.app N N'
    refine w_astore X hx (dq hby d0_85) rfl (Ls' := #[.val (.int i0), .val (.int i1), .val (.int i2), .val (.int i3), .val (.int i4), .val (.int v5_4), .val (.ref b8), .val (.ref b33), .val (.ref b33), .val (.int lv2), .val (.ref b33), .val (.int lv3), .val (.ref btX), .unset]) rfl ?_
    refine w_aload X hx (dq hby d0_87) rfl rfl ?_
    refine w_aload X hx (dq hby d0_89) rfl rfl ?_
    refine w_acmpN X hx (dj hby d0_91) ?_
    refine w_aload X hx (dq hby d0_94) rfl rfl ?_
    refine w_aload X hx (dq hby d0_96) rfl rfl ?_
    refine w_acmpE X hx (dj hby d0_98) ?_
    refine w_iload X hx (dq hby d0_103) rfl ?_
    refine w_iload X hx (dq hby d0_105) rfl ?_
    refine w_iconst X hx (dq hby d0_107) (z := 1) rfl ?_
    refine w_iadd X hx (dq hby d0_108) ?_
    refine w_icmp_ne X hx (dj hby d0_109) (fun hc109 => (?_ : False).elim) (fun hc109 => ?_)
    · exact hc109 (i32_inj (by rw [hlv2, e1]; omega))
    refine w_iload X hx (dq hby d0_112) rfl ?_
    refine w_iload X hx (dq hby d0_114) rfl ?_
    refine w_iconst X hx (dq hby d0_116) (z := 2) rfl ?_
    refine w_iadd X hx (dq hby d0_117) ?_
    refine w_icmp_ne X hx (dj hby d0_118) (fun hc118 => (?_ : False).elim) (fun hc118 => ?_)
    · exact hc118 (i32_inj (by rw [hlv3, e2]))
    refine w_aload X hx (dq hby d0_121) rfl rfl ?_
    refine w_arrlen X hx hZ eT A_btX (z := (v5_4 + (2 : Int32))) (e2) (dq hby d0_123) ?_
    refine w_iload X hx (dq hby d0_124) rfl ?_
    refine w_iconst X hx (dq hby d0_126) (z := 2) rfl ?_
    refine w_iadd X hx (dq hby d0_127) ?_
    refine w_icmp_eq X hx (dj hby d0_128) (fun hc128 => ?_) (fun hc128 => (?_ : False).elim)
    rotate_left
    · exact hc128 rfl
    refine w_aload X hx (dq hby d0_133) rfl rfl ?_
    refine w_iload X hx (dq hby d0_135) rfl ?_
    refine w_baload X hx hZ eT A_btX (i := n) (hn) (by omega) (z := (i1.toInt8.toInt32)) (own_a _ _) (dq hby d0_137) ?_
    refine w_sipush X hx (dq hby d0_138) (z := 255) rfl ?_
    refine w_iand X hx (dq hby d0_141) ?_
    refine w_iloadN X hx (dq hby d0_142) rfl ?_
    refine w_sipush X hx (dq hby d0_143) (z := 255) rfl ?_
    refine w_iand X hx (dq hby d0_146) ?_
    refine w_icmp_eq X hx (dj hby d0_147) (fun hc147 => ?_) (fun hc147 => (?_ : False).elim)
    rotate_left
    · exact hc147 (own_m i1)
    refine w_aload X hx (dq hby d0_152) rfl rfl ?_
    refine w_iload X hx (dq hby d0_154) rfl ?_
    refine w_iconst X hx (dq hby d0_156) (z := 1) rfl ?_
    refine w_iadd X hx (dq hby d0_157) ?_
    refine w_baload X hx hZ eT A_btX (i := (n + 1)) (e1) (by omega) (z := (i2.toInt8.toInt32)) (own_b _ _) (dq hby d0_158) ?_
    refine w_sipush X hx (dq hby d0_159) (z := 255) rfl ?_
    refine w_iand X hx (dq hby d0_162) ?_
    refine w_iloadN X hx (dq hby d0_163) rfl ?_
    refine w_sipush X hx (dq hby d0_164) (z := 255) rfl ?_
    refine w_iand X hx (dq hby d0_167) ?_
    refine w_icmp_eq X hx (dj hby d0_168) (fun hc168 => ?_) (fun hc168 => (?_ : False).elim)
    rotate_left
    · exact hc168 (own_m i2)
    refine w_iload X hx (dq hby d0_173) rfl ?_
    refine w_if_le X hx (dj hby d0_175) (fun hc175 => (?_ : False).elim) (fun hc175 => ?_)
    · omega
    refine w_iload X hx (dq hby d0_178) rfl ?_
    refine w_iconst X hx (dq hby d0_180) (z := 1) rfl ?_
    refine w_icmp_ne X hx (dj hby d0_181) (fun hc181 => ?_) (fun hc181 => ?_)
    · have h1n : n ≠ 1 := fun q => hc181 (i32_inj (by omega))
      refine w_iloadN X hx (dq hby d0_190) rfl ?_
      refine w_i2b X hx (dq hby d0_191) ?_
      obtain ⟨v13_192, hv13_192⟩ : ∃ z : Int32, z = (i3.toInt8.toInt32) := ⟨_, rfl⟩
      refine w_istore X hx (dq hby d0_192) (z := v13_192) hv13_192 (Ls' := #[.val (.int i0), .val (.int i1), .val (.int i2), .val (.int i3), .val (.int i4), .val (.int v5_4), .val (.ref b8), .val (.ref b33), .val (.ref b33), .val (.int lv2), .val (.ref b33), .val (.int lv3), .val (.ref btX), .val (.int v13_192)]) rfl ?_
      refine w_aload X hx (dq hby d0_194) rfl rfl ?_
      refine w_iconst X hx (dq hby d0_196) (z := 0) rfl ?_
      refine w_baload X hx hZ eT A_btX (i := 0) (rfl) (by omega) (z := (i3.toInt8.toInt32)) ((own_out _ _ (by omega)).trans (p0 (by omega))) (dq hby d0_197) ?_
      refine w_iload X hx (dq hby d0_198) rfl ?_
      refine w_icmp_eq X hx (dj hby d0_200) (fun hc200 => ?_) (fun hc200 => (?_ : False).elim)
      rotate_left
      · exact hc200 hv13_192.symm
      refine w_aload X hx (dq hby d0_205) rfl rfl ?_
      refine w_iload X hx (dq hby d0_207) rfl ?_
      refine w_iconst X hx (dq hby d0_209) (z := 1) rfl ?_
      refine w_isub X hx (dq hby d0_210) ?_
      refine w_baload X hx hZ eT A_btX (i := (n - 1)) (em (by omega)) (by omega) (z := (i4.toInt8.toInt32)) ((own_out _ _ (by omega)).trans p9) (dq hby d0_211) ?_
      refine w_iload X hx (dq hby d0_212) rfl ?_
      refine w_i2b X hx (dq hby d0_214) ?_
      refine w_icmp_eq X hx (dj hby d0_215) (fun hc215 => ?_) (fun hc215 => (?_ : False).elim)
      rotate_left
      · exact hc215 rfl
      refine w_iconst X hx (dq hby d0_220) (z := 1) rfl ?_
      refine w_retN X hx hret (by simp) hlk (dq hby d0_221) (by decide) (by decide) ?_
      exact ⟨by simp [nar], N⟩
    · have h1n : n = 1 := by have := congrArg Int32.toInt hc181; omega
      refine w_iload X hx (dq hby d0_184) rfl ?_
      refine w_i2b X hx (dq hby d0_186) ?_
      refine w_goto X hx (dj hby d0_187) ?_
      obtain ⟨v13_192, hv13_192⟩ : ∃ z : Int32, z = (i4.toInt8.toInt32) := ⟨_, rfl⟩
      refine w_istore X hx (dq hby d0_192) (z := v13_192) hv13_192 (Ls' := #[.val (.int i0), .val (.int i1), .val (.int i2), .val (.int i3), .val (.int i4), .val (.int v5_4), .val (.ref b8), .val (.ref b33), .val (.ref b33), .val (.int lv2), .val (.ref b33), .val (.int lv3), .val (.ref btX), .val (.int v13_192)]) rfl ?_
      refine w_aload X hx (dq hby d0_194) rfl rfl ?_
      refine w_iconst X hx (dq hby d0_196) (z := 0) rfl ?_
      refine w_baload X hx hZ eT A_btX (i := 0) (rfl) (by omega) (z := (i4.toInt8.toInt32)) ((own_out _ _ (by omega)).trans ((congrArg g0_32 (show 0 = n - 1 by omega)).trans p9)) (dq hby d0_197) ?_
      refine w_iload X hx (dq hby d0_198) rfl ?_
      refine w_icmp_eq X hx (dj hby d0_200) (fun hc200 => ?_) (fun hc200 => (?_ : False).elim)
      rotate_left
      · exact hc200 hv13_192.symm
      refine w_aload X hx (dq hby d0_205) rfl rfl ?_
      refine w_iload X hx (dq hby d0_207) rfl ?_
      refine w_iconst X hx (dq hby d0_209) (z := 1) rfl ?_
      refine w_isub X hx (dq hby d0_210) ?_
      refine w_baload X hx hZ eT A_btX (i := (n - 1)) (em (by omega)) (by omega) (z := (i4.toInt8.toInt32)) ((own_out _ _ (by omega)).trans p9) (dq hby d0_211) ?_
      refine w_iload X hx (dq hby d0_212) rfl ?_
      refine w_i2b X hx (dq hby d0_214) ?_
      refine w_icmp_eq X hx (dj hby d0_215) (fun hc215 => ?_) (fun hc215 => (?_ : False).elim)
      rotate_left
      · exact hc215 rfl
      refine w_iconst X hx (dq hby d0_220) (z := 1) rfl ?_
      refine w_retN X hx hret (by simp) hlk (dq hby d0_221) (by decide) (by decide) ?_
      exact ⟨by simp [nar], N⟩
set_option maxRecDepth 65536 in
set_option maxHeartbeats 40000000 in
theorem comes_1 {Post : Tables → Env → Array Value → State → Outcome → State → Prop} (hpost : ∀ tb e args s v u, (limb_1_1.after args s (.returned v) u = true ∧ limb_1_2.after args s (.returned v) u = true) → FrameEnd s (.returned v) u (Jvm.fieldLocs frame_1_writes args s ++ Jvm.arrayLocs frame_1_arrays args s ++ Jvm.staticLocs frame_1_statics s) 24 1536 → Post tb e args s (.returned v) u) :
    ArmFor flags0 classFile x code maxLocals ret World_1 tables_1 room_1 Calls_1 rest_1 Pre_1 Post := by
  intro l hfl _ _ p e ha hc hk s m args below hf hA hF happ hP
  obtain ⟨hcalls, hrest, hpre⟩ := hP
  obtain ⟨-, -, -, hnamed, -, -, -, hat⟩ := (Spec.applies_iff hf).mp happ
  obtain ⟨hg, hn⟩ := and_e (Cond.before_iff.mp (show (Jvm.Cond.and given_1 narrow_1).before args s = true from hpre))
  obtain ⟨g0, k0⟩ := and_e hg
  obtain ⟨g1, k1⟩ := and_e k0
  obtain ⟨g2, k2⟩ := and_e k1
  obtain ⟨g3, k3⟩ := and_e k2
  obtain ⟨g4, k4⟩ := and_e k3
  obtain ⟨w0, w1, w2, w3, w4, rfl⟩ : ∃ w0 w1 w2 w3 w4 : Value, args = #[w0, w1, w2, w3, w4] := by
    have hs : args.size = 5 := by simpa [Cond.value, given_1] using g0
    obtain ⟨L⟩ := args
    match L, hs with
    | [w0, w1, w2, w3, w4], _ => exact ⟨w0, w1, w2, w3, w4, rfl⟩
  have hw := fun d (hd : d ∈ tables_1) => atoms_spec (ws := Jvm.Cond.code x code maxLocals ret :: tables_1) hat d (List.mem_cons_of_mem _ hd)
  obtain ⟨i0, ei0⟩ := is_v g1
  obtain rfl : w0 = (.int i0) := Option.some.inj ei0
  obtain ⟨i1, ei1⟩ := is_v g2
  obtain rfl : w1 = (.int i1) := Option.some.inj ei1
  obtain ⟨i2, ei2⟩ := is_v g3
  obtain rfl : w2 = (.int i2) := Option.some.inj ei2
  obtain ⟨i3, ei3⟩ := is_v g4
  obtain rfl : w3 = (.int i3) := Option.some.inj ei3
  obtain ⟨i4, ei4⟩ := is_v k4
  obtain rfl : w4 = (.int i4) := Option.some.inj ei4
  obtain ⟨n, o, h1, h2, h3, _, L, rfl, ⟨rfl, N⟩, hq⟩ := rm0 l s _ hw tables_1 i0 i1 i2 i3 i4 s.heap s.heap.size (Nat.le_refl _) p e ha hc hk s m _ below hf ((Spec.applies_iff_loose hf).mp happ).1 ⟨rfl, State.Warmed39.refl s, rfl⟩ trivial
  exact ⟨n, _, h1, h2, h3, hpost _ _ _ _ _ _ ⟨Cond.after_iff.mpr rfl, Cond.after_iff.mpr (eq_i res_at (Term.int_eval (1)) rfl)⟩ ⟨hq.1, hq.2.1, hq.2.2.sift fun y hy => Or.inr (N y hy)⟩⟩
theorem main_1_1 : Claimed_1_1 := comes_1 fun _ _ _ _ _ _ h hF => ⟨h.1, hF⟩
theorem main_1_2 : Claimed_1_2 := comes_1 fun _ _ _ _ _ _ h hF => ⟨h.2, hF⟩

end Jvm.Pilot.@@N@@
namespace Jvm.Pilot.@@N@@
open Jvm Jvm.ClassFile Sem Op Lib Jvm.Free Jvm.Stand Jvm.Pilot.@@N@@.Jvm.D
/-! MADE BY PROGRAM (witnessworld.py) out of the Statement's table words and the real class files: 12 classes; the members and pool entries that the words name. The judged class is class 1, her method 1. -/
namespace start1
open Jvm.ClassFile
def u (s : String) : CpInfo := .utf8 (stringToUtf16 s)
/-- a pool by its gaps: so many unusable entries, then the entry; so many at the end -/
def gap : Nat → List CpInfo → List CpInfo
  | 0, r => r
  | n + 1, r => .unusable :: gap n r
def poolList (es : List (Nat × CpInfo)) (last : Nat) : List CpInfo := es.foldr (fun e r => gap e.1 (e.2 :: r)) (gap last [])
def pool (es : List (Nat × CpInfo)) (last : Nat) : Array CpInfo := ⟨poolList es last⟩
def fileOf (pool : Array CpInfo) (this : Nat) (attrs : Array Attribute := #[]) (ms : Array MethodInfo := #[]) (fl : Nat := 33) (sup : Nat := 0) (ifs : Array Nat := #[]) (fds : Array FieldInfo := #[]) : ClassFile where
  minorVersion := 0
  majorVersion := 65
  constantPool := pool
  accessFlags := fl
  thisClass := this
  superClass := sup
  interfaces := ifs
  fields := fds
  methods := ms
  attributes := attrs
def plain (name : String) (sup : Option ClassId) : Class where
  name := name
  kind := .ordinary
  loader := none
  accessFlags := 33
  super := sup
  interfaces := #[]
  cf := none
  fields := #[]
  methods := #[]
  instanceTypes := #[]
  staticTypes := #[]
  resolved := #[]
  callSites := []
  init := .initialized
  statics := none
  mirror := none

def pool0 : Array CpInfo := pool [(5, u "<init>"), (0, u "()V"), (1, .class_ 10), (1, u "java/lang/Object"), (85, u "clone"), (0, u "()Ljava/lang/Object;")] 26

def k0c0 : Code := { maxStack := 0, maxLocals := 1, code := object_method_1_code, exceptionTable := #[], attributes := #[] }
def k0m0 : Method := { name := "<init>", desc := "()V", sig := { parameters := [], returnType := none }, accessFlags := 1, code := some k0c0 }
def k0m1 : Method := { name := "clone", desc := "()Ljava/lang/Object;", sig := { parameters := [], returnType := some (.object "java/lang/Object") }, accessFlags := 260, code := none }
/-- java/lang/Object -/
def k0 : Class := { plain "java/lang/Object" none with
  accessFlags := 33
  interfaces := #[]
  cf := some (fileOf pool0 8 #[] #[{ accessFlags := 1, nameIndex := 5, descriptorIndex := 6, attributes := #[] }, { accessFlags := 260, nameIndex := 96, descriptorIndex := 97, attributes := #[] }] 33 0 #[] #[])
  fields := #[]
  methods := #[k0m0, k0m1]
  instanceTypes := #[]
  staticTypes := #[]
  resolved := Array.replicate 124 none
  statics := none }

def pool1 : Array CpInfo := pool [(2, .class_ 4), (0, .nameAndType 5 6), (0, u "java/lang/Object"), (0, u "<init>"), (0, u "()V"), (0, .class_ 8), (0, u "com/example/queue_directory/queuedirectory/rpc/NdrWriter"), (0, .methodref 7 3), (0, .methodref 7 11), (0, .nameAndType 12 13), (0, u "bytes"), (0, u "([B)Lcom/example/queue_directory/queuedirectory/rpc/NdrWriter;"), (0, .methodref 7 15), (0, .nameAndType 16 17), (0, u "u8"), (0, u "(I)Lcom/example/queue_directory/queuedirectory/rpc/NdrWriter;"), (0, .methodref 7 19), (0, .nameAndType 20 21), (0, u "length"), (0, u "()I"), (0, .methodref 7 23), (0, .nameAndType 24 25), (0, u "toByteArray"), (0, u "()[B"), (0, .class_ 27), (0, u "com/example/queue_directory/queuedirectory/rpc/NdrWriterU8PinLaw"), (2, u "law"), (0, u "(IIIII)Z")] 5

def k1m0 : Method := { name := "<init>", desc := "()V", sig := { parameters := [], returnType := none }, accessFlags := 1, code := none }
def k1c1 : Code := { maxStack := 3, maxLocals := 14, code := code, exceptionTable := #[], attributes := #[] }
def k1m1 : Method := { name := "law", desc := "(IIIII)Z", sig := { parameters := [.int, .int, .int, .int, .int], returnType := some .boolean }, accessFlags := 9, code := some k1c1 }
/-- com/example/queue_directory/queuedirectory/rpc/NdrWriterU8PinLaw -/
def k1 : Class := { plain "com/example/queue_directory/queuedirectory/rpc/NdrWriterU8PinLaw" (some 0) with
  accessFlags := 49
  interfaces := #[]
  cf := some (fileOf pool1 26 #[] #[{ accessFlags := 1, nameIndex := 5, descriptorIndex := 6, attributes := #[] }, { accessFlags := 9, nameIndex := 30, descriptorIndex := 31, attributes := #[] }] 49 2 #[] #[])
  fields := #[]
  methods := #[k1m0, k1m1]
  instanceTypes := #[]
  staticTypes := #[]
  resolved := Array.replicate 37 none
  statics := none }

def pool2 : Array CpInfo := pool [(1, .methodref 2 3), (0, .class_ 4), (0, .nameAndType 5 6), (0, u "java/lang/Object"), (0, u "<init>"), (0, u "()V"), (0, .class_ 8), (0, u "com/example/queue_directory/queuedirectory/rpc/NdrWriter"), (0, .fieldref 7 10), (0, .nameAndType 11 12), (0, u "bytes"), (0, u "[B"), (2, .methodref 7 16), (0, .nameAndType 17 18), (0, u "room"), (0, u "(I)V"), (0, .fieldref 7 20), (0, .nameAndType 21 22), (0, u "length"), (0, u "I"), (5, u "(I)Lcom/example/queue_directory/queuedirectory/rpc/NdrWriter;"), (2, u "u8"), (17, .methodref 50 51), (0, .class_ 52), (0, .nameAndType 53 54), (0, u "java/lang/System"), (0, u "arraycopy"), (0, u "(Ljava/lang/Object;ILjava/lang/Object;II)V"), (0, .methodref 56 57), (0, .class_ 58), (0, .nameAndType 59 60), (0, u "java/util/Arrays"), (0, u "copyOf"), (0, u "([BI)[B"), (0, .methodref 62 63), (0, .class_ 64), (0, .nameAndType 65 66), (0, u "java/lang/Math"), (0, u "max"), (0, u "(II)I"), (0, u "FIRST_CAPACITY"), (7, u "([B)Lcom/example/queue_directory/queuedirectory/rpc/NdrWriter;"), (0, u "()I"), (0, u "toByteArray"), (0, u "()[B")] 3

def k2c0 : Code := { maxStack := 2, maxLocals := 1, code := prog_57_method_1_code, exceptionTable := #[], attributes := #[] }
def k2m0 : Method := { name := "<init>", desc := "()V", sig := { parameters := [], returnType := none }, accessFlags := 1, code := some k2c0 }
def k2c1 : Code := { maxStack := 5, maxLocals := 2, code := prog_57_method_2_code, exceptionTable := #[], attributes := #[] }
def k2m1 : Method := { name := "u8", desc := "(I)Lcom/example/queue_directory/queuedirectory/rpc/NdrWriter;", sig := { parameters := [.int], returnType := some (.object "com/example/queue_directory/queuedirectory/rpc/NdrWriter") }, accessFlags := 1, code := some k2c1 }
def k2c2 : Code := { maxStack := 5, maxLocals := 2, code := prog_57_method_6_code, exceptionTable := #[], attributes := #[] }
def k2m2 : Method := { name := "bytes", desc := "([B)Lcom/example/queue_directory/queuedirectory/rpc/NdrWriter;", sig := { parameters := [(.array .byte)], returnType := some (.object "com/example/queue_directory/queuedirectory/rpc/NdrWriter") }, accessFlags := 1, code := some k2c2 }
def k2c3 : Code := { maxStack := 1, maxLocals := 1, code := prog_57_method_8_code, exceptionTable := #[], attributes := #[] }
def k2m3 : Method := { name := "length", desc := "()I", sig := { parameters := [], returnType := some .int }, accessFlags := 1, code := some k2c3 }
def k2c4 : Code := { maxStack := 2, maxLocals := 1, code := prog_57_method_9_code, exceptionTable := #[], attributes := #[] }
def k2m4 : Method := { name := "toByteArray", desc := "()[B", sig := { parameters := [], returnType := some (.array .byte) }, accessFlags := 1, code := some k2c4 }
def k2c5 : Code := { maxStack := 5, maxLocals := 2, code := prog_57_method_10_code, exceptionTable := #[], attributes := #[] }
def k2m5 : Method := { name := "room", desc := "(I)V", sig := { parameters := [.int], returnType := none }, accessFlags := 2, code := some k2c5 }
/-- com/example/queue_directory/queuedirectory/rpc/NdrWriter -/
def k2 : Class := { plain "com/example/queue_directory/queuedirectory/rpc/NdrWriter" (some 0) with
  accessFlags := 33
  interfaces := #[]
  cf := some (fileOf pool2 7 #[] #[{ accessFlags := 1, nameIndex := 5, descriptorIndex := 6, attributes := #[] }, { accessFlags := 1, nameIndex := 31, descriptorIndex := 28, attributes := #[] }, { accessFlags := 1, nameIndex := 11, descriptorIndex := 75, attributes := #[] }, { accessFlags := 1, nameIndex := 21, descriptorIndex := 76, attributes := #[] }, { accessFlags := 1, nameIndex := 77, descriptorIndex := 78, attributes := #[] }, { accessFlags := 2, nameIndex := 17, descriptorIndex := 18, attributes := #[] }] 33 2 #[] #[{ accessFlags := 26, nameIndex := 67, descriptorIndex := 22, attributes := #[] }, { accessFlags := 2, nameIndex := 11, descriptorIndex := 12, attributes := #[] }, { accessFlags := 2, nameIndex := 21, descriptorIndex := 22, attributes := #[] }])
  fields := #[{ name := "FIRST_CAPACITY", type := .int, accessFlags := 26, slot := 0, constantValue := 0 }, { name := "bytes", type := (.array .byte), accessFlags := 2, slot := 0, constantValue := 0 }, { name := "length", type := .int, accessFlags := 2, slot := 1, constantValue := 0 }]
  methods := #[k2m0, k2m1, k2m2, k2m3, k2m4, k2m5]
  instanceTypes := #[(.array .byte), .int]
  staticTypes := #[.int]
  resolved := Array.replicate 82 none
  statics := none }

def pool3 : Array CpInfo := pool [(2, .class_ 4), (1, u "java/lang/Object"), (0, u "<init>"), (0, u "()V"), (1, .class_ 10), (1, u "java/lang/System"), (0, u "allowSecurityManager"), (0, u "I"), (16, u "cons"), (0, u "Ljava/io/Console;"), (77, .class_ 110), (1, u "java/lang/System$CallersHolder"), (43, u "initialErrStream"), (0, u "Ljava/io/PrintStream;"), (19, u "security"), (0, u "Ljava/lang/SecurityManager;"), (31, .class_ 209), (0, u "java/lang/System$1"), (7, u "props"), (0, u "Ljava/util/Properties;"), (2, u "lineSeparator"), (0, u "Ljava/lang/String;"), (96, .class_ 321), (1, u "java/lang/System$LoggerFinder"), (5, .class_ 328), (0, u "java/lang/System$Logger"), (67, u "err"), (2, u "out"), (91, u "notSupportedJnuEncoding"), (15, u "in"), (17, u "initialIn"), (0, u "Ljava/io/InputStream;"), (35, u "bootLayer"), (0, u "Ljava/lang/ModuleLayer;"), (99, .class_ 664), (0, u "java/lang/System$2"), (9, u "NEVER"), (2, u "MAYBE"), (49, u "arraycopy"), (0, u "(Ljava/lang/Object;ILjava/lang/Object;II)V"), (72, .class_ 802), (0, u "java/lang/System$Logger$Level")] 31

def k3m0 : Method := { name := "<init>", desc := "()V", sig := { parameters := [], returnType := none }, accessFlags := 2, code := none }
def k3m1 : Method := { name := "arraycopy", desc := "(Ljava/lang/Object;ILjava/lang/Object;II)V", sig := { parameters := [(.object "java/lang/Object"), .int, (.object "java/lang/Object"), .int, .int], returnType := none }, accessFlags := 265, code := none }
/-- java/lang/System -/
def k3 : Class := { plain "java/lang/System" (some 0) with
  accessFlags := 49
  interfaces := #[]
  cf := some (fileOf pool3 8 #[.nestMembers #[319, 327, 801, 108, 663, 208]] #[{ accessFlags := 2, nameIndex := 5, descriptorIndex := 6, attributes := #[] }, { accessFlags := 265, nameIndex := 727, descriptorIndex := 728, attributes := #[] }] 49 2 #[] #[{ accessFlags := 25, nameIndex := 507, descriptorIndex := 526, attributes := #[] }, { accessFlags := 25, nameIndex := 399, descriptorIndex := 155, attributes := #[] }, { accessFlags := 25, nameIndex := 396, descriptorIndex := 155, attributes := #[] }, { accessFlags := 10, nameIndex := 525, descriptorIndex := 526, attributes := #[] }, { accessFlags := 26, nameIndex := 674, descriptorIndex := 12, attributes := #[] }, { accessFlags := 26, nameIndex := 677, descriptorIndex := 12, attributes := #[] }, { accessFlags := 10, nameIndex := 11, descriptorIndex := 12, attributes := #[] }, { accessFlags := 74, nameIndex := 175, descriptorIndex := 176, attributes := #[] }, { accessFlags := 10, nameIndex := 491, descriptorIndex := 222, attributes := #[] }, { accessFlags := 74, nameIndex := 29, descriptorIndex := 30, attributes := #[] }, { accessFlags := 74, nameIndex := 154, descriptorIndex := 155, attributes := #[] }, { accessFlags := 10, nameIndex := 217, descriptorIndex := 218, attributes := #[] }, { accessFlags := 10, nameIndex := 221, descriptorIndex := 222, attributes := #[] }, { accessFlags := 8, nameIndex := 562, descriptorIndex := 563, attributes := #[] }])
  fields := #[{ name := "in", type := (.object "java/io/InputStream"), accessFlags := 25, slot := 0, constantValue := 0 }, { name := "out", type := (.object "java/io/PrintStream"), accessFlags := 25, slot := 1, constantValue := 0 }, { name := "err", type := (.object "java/io/PrintStream"), accessFlags := 25, slot := 2, constantValue := 0 }, { name := "initialIn", type := (.object "java/io/InputStream"), accessFlags := 10, slot := 3, constantValue := 0 }, { name := "NEVER", type := .int, accessFlags := 26, slot := 4, constantValue := 0 }, { name := "MAYBE", type := .int, accessFlags := 26, slot := 5, constantValue := 0 }, { name := "allowSecurityManager", type := .int, accessFlags := 10, slot := 6, constantValue := 0 }, { name := "security", type := (.object "java/lang/SecurityManager"), accessFlags := 74, slot := 7, constantValue := 0 }, { name := "notSupportedJnuEncoding", type := (.object "java/lang/String"), accessFlags := 10, slot := 8, constantValue := 0 }, { name := "cons", type := (.object "java/io/Console"), accessFlags := 74, slot := 9, constantValue := 0 }, { name := "initialErrStream", type := (.object "java/io/PrintStream"), accessFlags := 74, slot := 10, constantValue := 0 }, { name := "props", type := (.object "java/util/Properties"), accessFlags := 10, slot := 11, constantValue := 0 }, { name := "lineSeparator", type := (.object "java/lang/String"), accessFlags := 10, slot := 12, constantValue := 0 }, { name := "bootLayer", type := (.object "java/lang/ModuleLayer"), accessFlags := 8, slot := 13, constantValue := 0 }]
  methods := #[k3m0, k3m1]
  instanceTypes := #[]
  staticTypes := #[(.object "java/io/InputStream"), (.object "java/io/PrintStream"), (.object "java/io/PrintStream"), (.object "java/io/InputStream"), .int, .int, .int, (.object "java/lang/SecurityManager"), (.object "java/lang/String"), (.object "java/io/Console"), (.object "java/io/PrintStream"), (.object "java/util/Properties"), (.object "java/lang/String"), (.object "java/lang/ModuleLayer")]
  resolved := Array.replicate 834 none
  statics := none }

def pool4 : Array CpInfo := pool [(2, .class_ 4), (1, u "java/lang/Object"), (0, u "<init>"), (0, u "()V"), (7, .class_ 16), (1, u "java/util/Arrays"), (57, .class_ 76), (1, u "java/util/Arrays$NaturalOrder"), (32, u "()Ljava/lang/Object;"), (3, .class_ 115), (1, u "java/util/Arrays$LegacyMergeSort"), (1, u "Z"), (10, .nameAndType 129 109), (0, u "clone"), (20, .methodref 151 152), (0, .class_ 153), (0, .nameAndType 154 155), (0, u "java/lang/System"), (0, u "arraycopy"), (0, u "(Ljava/lang/Object;ILjava/lang/Object;II)V"), (146, u "copyOf"), (1, .methodref 305 306), (0, .class_ 307), (0, .nameAndType 308 309), (0, u "java/lang/Math"), (0, u "min"), (0, u "(II)I"), (0, .methodref 311 128), (0, .class_ 312), (0, u "[B"), (62, .class_ 376), (0, u "java/util/Arrays$ArrayList"), (68, u "$assertionsDisabled"), (269, u "MIN_ARRAY_SORT_GRAN"), (0, u "I"), (2, u "INSERTIONSORT_THRESHOLD"), (149, u "([BI)[B"), (105, .class_ 976), (0, u "java/util/Arrays$ArrayItr")] 52

def k4m0 : Method := { name := "<init>", desc := "()V", sig := { parameters := [], returnType := none }, accessFlags := 2, code := none }
def k4c1 : Code := { maxStack := 6, maxLocals := 3, code := jdk_65_method_121_code, exceptionTable := #[], attributes := #[] }
def k4m1 : Method := { name := "copyOf", desc := "([BI)[B", sig := { parameters := [(.array .byte), .int], returnType := some (.array .byte) }, accessFlags := 9, code := some k4c1 }
/-- java/util/Arrays -/
def k4 : Class := { plain "java/util/Arrays" (some 0) with
  accessFlags := 49
  interfaces := #[]
  cf := some (fileOf pool4 14 #[.nestMembers #[975, 375, 113, 74]] #[{ accessFlags := 2, nameIndex := 5, descriptorIndex := 6, attributes := #[] }, { accessFlags := 9, nameIndex := 302, descriptorIndex := 869, attributes := #[] }] 49 2 #[] #[{ accessFlags := 26, nameIndex := 715, descriptorIndex := 716, attributes := #[] }, { accessFlags := 26, nameIndex := 719, descriptorIndex := 716, attributes := #[] }, { accessFlags := 4120, nameIndex := 445, descriptorIndex := 117, attributes := #[] }])
  fields := #[{ name := "MIN_ARRAY_SORT_GRAN", type := .int, accessFlags := 26, slot := 0, constantValue := 0 }, { name := "INSERTIONSORT_THRESHOLD", type := .int, accessFlags := 26, slot := 1, constantValue := 0 }, { name := "$assertionsDisabled", type := .boolean, accessFlags := 4120, slot := 2, constantValue := 0 }]
  methods := #[k4m0, k4m1]
  instanceTypes := #[]
  staticTypes := #[.int, .int, .boolean]
  resolved := Array.replicate 1029 none
  statics := none }

def pool5 : Array CpInfo := pool [(1, .class_ 2), (0, u "java/lang/Math"), (1, .class_ 6), (1, u "java/lang/Object"), (0, u "<init>"), (0, u "()V"), (89, .class_ 100), (1, u "java/lang/Math$RandomNumberGeneratorHolder"), (71, u "negativeZeroFloatBits"), (0, u "J"), (2, u "negativeZeroDoubleBits"), (21, u "max"), (2, u "min"), (43, u "$assertionsDisabled"), (0, u "Z"), (88, u "(II)I"), (2, u "twoToTheDoubleScaleDown"), (0, u "D"), (4, u "twoToTheDoubleScaleUp"), (9, u "E"), (3, u "PI"), (2, u "TAU"), (2, u "DEGREES_TO_RADIANS"), (0, u "RADIANS_TO_DEGREES")] 94

def k5m0 : Method := { name := "<init>", desc := "()V", sig := { parameters := [], returnType := none }, accessFlags := 2, code := none }
def k5c1 : Code := { maxStack := 2, maxLocals := 2, code := jdk_29_method_65_code, exceptionTable := #[], attributes := #[] }
def k5m1 : Method := { name := "max", desc := "(II)I", sig := { parameters := [.int, .int], returnType := some .int }, accessFlags := 9, code := some k5c1 }
def k5c2 : Code := { maxStack := 2, maxLocals := 2, code := jdk_29_method_69_code, exceptionTable := #[], attributes := #[] }
def k5m2 : Method := { name := "min", desc := "(II)I", sig := { parameters := [.int, .int], returnType := some .int }, accessFlags := 9, code := some k5c2 }
/-- java/lang/Math -/
def k5 : Class := { plain "java/lang/Math" (some 0) with
  accessFlags := 49
  interfaces := #[]
  cf := some (fileOf pool5 1 #[.nestMembers #[98]] #[{ accessFlags := 2, nameIndex := 7, descriptorIndex := 8, attributes := #[] }, { accessFlags := 9, nameIndex := 198, descriptorIndex := 335, attributes := #[] }, { accessFlags := 9, nameIndex := 201, descriptorIndex := 335, attributes := #[] }] 49 4 #[] #[{ accessFlags := 25, nameIndex := 354, descriptorIndex := 339, attributes := #[] }, { accessFlags := 25, nameIndex := 358, descriptorIndex := 339, attributes := #[] }, { accessFlags := 25, nameIndex := 361, descriptorIndex := 339, attributes := #[] }, { accessFlags := 26, nameIndex := 364, descriptorIndex := 339, attributes := #[] }, { accessFlags := 26, nameIndex := 365, descriptorIndex := 339, attributes := #[] }, { accessFlags := 26, nameIndex := 172, descriptorIndex := 173, attributes := #[] }, { accessFlags := 26, nameIndex := 176, descriptorIndex := 173, attributes := #[] }, { accessFlags := 8, nameIndex := 344, descriptorIndex := 339, attributes := #[] }, { accessFlags := 8, nameIndex := 338, descriptorIndex := 339, attributes := #[] }, { accessFlags := 4120, nameIndex := 245, descriptorIndex := 246, attributes := #[] }])
  fields := #[{ name := "E", type := .double, accessFlags := 25, slot := 0, constantValue := 0 }, { name := "PI", type := .double, accessFlags := 25, slot := 1, constantValue := 0 }, { name := "TAU", type := .double, accessFlags := 25, slot := 2, constantValue := 0 }, { name := "DEGREES_TO_RADIANS", type := .double, accessFlags := 26, slot := 3, constantValue := 0 }, { name := "RADIANS_TO_DEGREES", type := .double, accessFlags := 26, slot := 4, constantValue := 0 }, { name := "negativeZeroFloatBits", type := .long, accessFlags := 26, slot := 5, constantValue := 0 }, { name := "negativeZeroDoubleBits", type := .long, accessFlags := 26, slot := 6, constantValue := 0 }, { name := "twoToTheDoubleScaleUp", type := .double, accessFlags := 8, slot := 7, constantValue := 0 }, { name := "twoToTheDoubleScaleDown", type := .double, accessFlags := 8, slot := 8, constantValue := 0 }, { name := "$assertionsDisabled", type := .boolean, accessFlags := 4120, slot := 9, constantValue := 0 }]
  methods := #[k5m0, k5m1, k5m2]
  instanceTypes := #[]
  staticTypes := #[.double, .double, .double, .double, .double, .long, .long, .double, .double, .boolean]
  resolved := Array.replicate 460 none
  statics := none }

def pool6 : Array CpInfo := pool [(1, .class_ 2), (0, u "java/lang/Cloneable"), (0, .class_ 4), (0, u "java/lang/Object")] 2

/-- java/lang/Cloneable -/
def k6 : Class := { plain "java/lang/Cloneable" (some 0) with
  accessFlags := 1537
  interfaces := #[]
  cf := some (fileOf pool6 1 #[] #[] 1537 3 #[] #[])
  fields := #[]
  methods := #[]
  instanceTypes := #[]
  staticTypes := #[]
  resolved := Array.replicate 7 none
  statics := none }

def pool7 : Array CpInfo := pool [(1, u "java/io/Serializable"), (0, .class_ 1), (0, u "java/lang/Object"), (0, .class_ 3)] 3

/-- java/io/Serializable -/
def k7 : Class := { plain "java/io/Serializable" (some 0) with
  accessFlags := 1537
  interfaces := #[]
  cf := some (fileOf pool7 2 #[] #[] 1537 4 #[] #[])
  fields := #[]
  methods := #[]
  instanceTypes := #[]
  staticTypes := #[]
  resolved := Array.replicate 8 none
  statics := none }

/-- the primitive byte -/
def k8 : Class := { plain "byte" none with kind := .primitive 'B', accessFlags := 0x411 }
/-- [B -/
def k9 : Class := { plain "[B" (some 0) with kind := .array 8 .byte, interfaces := #[6, 7], accessFlags := 1041 }

/-- the primitive int -/
def k10 : Class := { plain "int" none with kind := .primitive 'I', accessFlags := 0x411 }
/-- [I -/
def k11 : Class := { plain "[I" (some 0) with kind := .array 10 .int, interfaces := #[6, 7], accessFlags := 1041 }

def heap : Heap := #[]
def classes : Array Class := #[k0, k1, k2, k3, k4, k5, k6, k7, k8, k9, k10, k11]
def interned : List (Array UInt16 × Addr) := []
def slotsUsed : Nat := 0
def theMethod : MethodId := ⟨1, 1⟩
def args0 : Array Value := #[.int 5, .int 7, .int 1, .int 2, .int 3]
def aboutOver (below : List Frame) : State where
  vm := { classes := classes, interned := interned.toArray }
  heap := heap
  slotsUsed := slotsUsed
  threads := #[{ frames := .invoking theMethod args0 :: below }]
def below0 : List Frame := [.native { method := ⟨0, 0⟩, args := #[] }]
def about1 : State := aboutOver below0
def p0 : Program := .bare "" "" ""
def e0 : Env := launch0.env 0 0 0
theorem w_frames : about1.frames = Frame.invoking theMethod args0 :: below0 := rfl
set_option maxRecDepth 65536 in
theorem w_args : argsFit about1.vm theMethod args0 = true := by decide +kernel
set_option maxRecDepth 65536 in
theorem w_heap : heapFits about1 = true := by decide +kernel
set_option maxRecDepth 65536 in
theorem w_runnable : about1.curStatus? = some .runnable := by decide +kernel
set_option maxRecDepth 65536 in
theorem w_alone : about1.alone = true := by decide +kernel
set_option maxRecDepth 65536 in
theorem w_named : about1.methodNamed? x = some theMethod := by decide +kernel
set_option maxRecDepth 65536 in
theorem w_hears : about1.hears theMethod below0 = true := by decide +kernel
set_option maxRecDepth 65536 in
theorem w_ripe : about1.ripe theMethod args0 below0 = true := by decide +kernel
theorem w_running : about1.status = .running := rfl
set_option maxRecDepth 65536 in
theorem w_room : about1.hasRoom e0.platform room_1 = true :=
  launch0.hasRoom_least _ room_1 (by decide +kernel) (by decide +kernel) (by decide +kernel) (by decide +kernel) (by decide +kernel) (by decide +kernel)
theorem allAtoms_all (ts : List Jvm.Cond) (a : Array Jvm.Value) (st : Jvm.State) : (allAtoms ts).before a st = ts.all (fun c => c.before a st) := by
  induction ts with
  | nil => rfl
  | cons c t ih =>
    show (Jvm.Cond.and c (allAtoms t)).before a st = _
    rw [Jvm.Cond.before_and, ih, List.all_cons]
def words1 : List Jvm.Cond := Jvm.Cond.code x code maxLocals ret :: tables_1
/-- a 'code' word, met by the world's own term for the bytes: nothing is compared byte by byte -/
theorem code_word {y : MethodName} {bytes : ByteArray} {mx : Nat} {rt : Option FieldType} {a : Array Value} {s : State} {m : MethodId} {meth : Method} {c : Code} (h1 : s.methodNamed? y = some m) (h2 : s.vm.method? m = some meth) (h3 : meth.code = some c) (h4 : c.code = bytes)
    (h5 : (c.maxLocals == mx && c.exceptionTable.isEmpty && decide (c.maxStack ≤ mostOperands) && decide (meth.sig.returnType = rt) && !meth.locks && decide (parseMethodDescriptor y.desc = some meth.sig)) = true) : (Jvm.Cond.code y bytes mx rt).before a s = true := by
  simp only [Bool.and_eq_true, beq_iff_eq, Bool.not_eq_true', decide_eq_true_eq] at h5
  obtain ⟨⟨⟨⟨⟨g1, g2⟩, g3⟩, g4⟩, g5⟩, g6⟩ := h5
  simp [Cond.before, Cond.holds, Cond.value, h1, h2, h3, h4, g1, g2, g3, g4, g5, g6]
def isCode : Jvm.Cond → Bool
  | .code _ _ _ _ => true
  | _ => false
theorem all_split {L : List Jvm.Cond} {P : Jvm.Cond → Bool} (h1 : L.all (fun c => isCode c || P c) = true) (h2 : ∀ c ∈ L.filter isCode, P c = true) : L.all P = true := by
  refine List.all_eq_true.mpr fun c hc => ?_
  have h := List.all_eq_true.mp h1 c hc
  rcases Bool.eq_false_or_eq_true (isCode c) with hi | hi
  · exact h2 c (List.mem_filter.mpr ⟨hc, hi⟩)
  · simpa [hi] using h
set_option maxRecDepth 65536 in
theorem w_c0 : (Jvm.Cond.code x code maxLocals ret).before args0 about1 = true := code_word (m := ⟨1, 1⟩) (meth := k1m1) (c := k1c1) (by decide +kernel) rfl rfl rfl (by decide +kernel)
set_option maxRecDepth 65536 in
theorem w_c1 : (Jvm.Cond.code ({ cls := "com/example/queue_directory/queuedirectory/rpc/NdrWriter", name := "<init>", desc := "()V" } : Jvm.MethodName) prog_57_method_1_code (1 : Nat) (Option.none : Option Jvm.ClassFile.FieldType)).before args0 about1 = true := code_word (m := ⟨2, 0⟩) (meth := k2m0) (c := k2c0) (by decide +kernel) rfl rfl rfl (by decide +kernel)
set_option maxRecDepth 65536 in
theorem w_c2 : (Jvm.Cond.code ({ cls := "java/lang/Object", name := "<init>", desc := "()V" } : Jvm.MethodName) object_method_1_code (1 : Nat) (Option.none : Option Jvm.ClassFile.FieldType)).before args0 about1 = true := code_word (m := ⟨0, 0⟩) (meth := k0m0) (c := k0c0) (by decide +kernel) rfl rfl rfl (by decide +kernel)
set_option maxRecDepth 65536 in
theorem w_c3 : (Jvm.Cond.code ({ cls := "com/example/queue_directory/queuedirectory/rpc/NdrWriter", name := "bytes", desc := "([B)Lcom/example/queue_directory/queuedirectory/rpc/NdrWriter;" } : Jvm.MethodName) prog_57_method_6_code (2 : Nat) (Option.some (Jvm.ClassFile.FieldType.object "com/example/queue_directory/queuedirectory/rpc/NdrWriter"))).before args0 about1 = true := code_word (m := ⟨2, 2⟩) (meth := k2m2) (c := k2c2) (by decide +kernel) rfl rfl rfl (by decide +kernel)
set_option maxRecDepth 65536 in
theorem w_c4 : (Jvm.Cond.code ({ cls := "com/example/queue_directory/queuedirectory/rpc/NdrWriter", name := "room", desc := "(I)V" } : Jvm.MethodName) prog_57_method_10_code (2 : Nat) (Option.none : Option Jvm.ClassFile.FieldType)).before args0 about1 = true := code_word (m := ⟨2, 5⟩) (meth := k2m5) (c := k2c5) (by decide +kernel) rfl rfl rfl (by decide +kernel)
set_option maxRecDepth 65536 in
theorem w_c5 : (Jvm.Cond.code ({ cls := "com/example/queue_directory/queuedirectory/rpc/NdrWriter", name := "u8", desc := "(I)Lcom/example/queue_directory/queuedirectory/rpc/NdrWriter;" } : Jvm.MethodName) prog_57_method_2_code (2 : Nat) (Option.some (Jvm.ClassFile.FieldType.object "com/example/queue_directory/queuedirectory/rpc/NdrWriter"))).before args0 about1 = true := code_word (m := ⟨2, 1⟩) (meth := k2m1) (c := k2c1) (by decide +kernel) rfl rfl rfl (by decide +kernel)
set_option maxRecDepth 65536 in
theorem w_c6 : (Jvm.Cond.code ({ cls := "com/example/queue_directory/queuedirectory/rpc/NdrWriter", name := "length", desc := "()I" } : Jvm.MethodName) prog_57_method_8_code (1 : Nat) (Option.some Jvm.ClassFile.FieldType.int)).before args0 about1 = true := code_word (m := ⟨2, 3⟩) (meth := k2m3) (c := k2c3) (by decide +kernel) rfl rfl rfl (by decide +kernel)
set_option maxRecDepth 65536 in
theorem w_c7 : (Jvm.Cond.code ({ cls := "com/example/queue_directory/queuedirectory/rpc/NdrWriter", name := "toByteArray", desc := "()[B" } : Jvm.MethodName) prog_57_method_9_code (1 : Nat) (Option.some (Jvm.ClassFile.FieldType.array Jvm.ClassFile.FieldType.byte))).before args0 about1 = true := code_word (m := ⟨2, 4⟩) (meth := k2m4) (c := k2c4) (by decide +kernel) rfl rfl rfl (by decide +kernel)
set_option maxRecDepth 65536 in
theorem w_c8 : (Jvm.Cond.code ({ cls := "java/util/Arrays", name := "copyOf", desc := "([BI)[B" } : Jvm.MethodName) jdk_65_method_121_code (3 : Nat) (Option.some (Jvm.ClassFile.FieldType.array Jvm.ClassFile.FieldType.byte))).before args0 about1 = true := code_word (m := ⟨4, 1⟩) (meth := k4m1) (c := k4c1) (by decide +kernel) rfl rfl rfl (by decide +kernel)
set_option maxRecDepth 65536 in
theorem w_c9 : (Jvm.Cond.code ({ cls := "java/lang/Math", name := "min", desc := "(II)I" } : Jvm.MethodName) jdk_29_method_69_code (2 : Nat) (Option.some Jvm.ClassFile.FieldType.int)).before args0 about1 = true := code_word (m := ⟨5, 2⟩) (meth := k5m2) (c := k5c2) (by decide +kernel) rfl rfl rfl (by decide +kernel)
set_option maxRecDepth 65536 in
theorem w_c10 : (Jvm.Cond.code ({ cls := "java/lang/Math", name := "max", desc := "(II)I" } : Jvm.MethodName) jdk_29_method_65_code (2 : Nat) (Option.some Jvm.ClassFile.FieldType.int)).before args0 about1 = true := code_word (m := ⟨5, 1⟩) (meth := k5m1) (c := k5c1) (by decide +kernel) rfl rfl rfl (by decide +kernel)
def codes1 : List Jvm.Cond := [Jvm.Cond.code x code maxLocals ret, Jvm.Cond.code ({ cls := "com/example/queue_directory/queuedirectory/rpc/NdrWriter", name := "<init>", desc := "()V" } : Jvm.MethodName) prog_57_method_1_code (1 : Nat) (Option.none : Option Jvm.ClassFile.FieldType), Jvm.Cond.code ({ cls := "java/lang/Object", name := "<init>", desc := "()V" } : Jvm.MethodName) object_method_1_code (1 : Nat) (Option.none : Option Jvm.ClassFile.FieldType), Jvm.Cond.code ({ cls := "com/example/queue_directory/queuedirectory/rpc/NdrWriter", name := "bytes", desc := "([B)Lcom/example/queue_directory/queuedirectory/rpc/NdrWriter;" } : Jvm.MethodName) prog_57_method_6_code (2 : Nat) (Option.some (Jvm.ClassFile.FieldType.object "com/example/queue_directory/queuedirectory/rpc/NdrWriter")), Jvm.Cond.code ({ cls := "com/example/queue_directory/queuedirectory/rpc/NdrWriter", name := "room", desc := "(I)V" } : Jvm.MethodName) prog_57_method_10_code (2 : Nat) (Option.none : Option Jvm.ClassFile.FieldType), Jvm.Cond.code ({ cls := "com/example/queue_directory/queuedirectory/rpc/NdrWriter", name := "u8", desc := "(I)Lcom/example/queue_directory/queuedirectory/rpc/NdrWriter;" } : Jvm.MethodName) prog_57_method_2_code (2 : Nat) (Option.some (Jvm.ClassFile.FieldType.object "com/example/queue_directory/queuedirectory/rpc/NdrWriter")), Jvm.Cond.code ({ cls := "com/example/queue_directory/queuedirectory/rpc/NdrWriter", name := "length", desc := "()I" } : Jvm.MethodName) prog_57_method_8_code (1 : Nat) (Option.some Jvm.ClassFile.FieldType.int), Jvm.Cond.code ({ cls := "com/example/queue_directory/queuedirectory/rpc/NdrWriter", name := "toByteArray", desc := "()[B" } : Jvm.MethodName) prog_57_method_9_code (1 : Nat) (Option.some (Jvm.ClassFile.FieldType.array Jvm.ClassFile.FieldType.byte)), Jvm.Cond.code ({ cls := "java/util/Arrays", name := "copyOf", desc := "([BI)[B" } : Jvm.MethodName) jdk_65_method_121_code (3 : Nat) (Option.some (Jvm.ClassFile.FieldType.array Jvm.ClassFile.FieldType.byte)), Jvm.Cond.code ({ cls := "java/lang/Math", name := "min", desc := "(II)I" } : Jvm.MethodName) jdk_29_method_69_code (2 : Nat) (Option.some Jvm.ClassFile.FieldType.int), Jvm.Cond.code ({ cls := "java/lang/Math", name := "max", desc := "(II)I" } : Jvm.MethodName) jdk_29_method_65_code (2 : Nat) (Option.some Jvm.ClassFile.FieldType.int)]
set_option maxRecDepth 65536 in
theorem codes_eq : words1.filter isCode = codes1 := rfl
theorem w_codes : ∀ c ∈ words1.filter isCode, c.before args0 about1 = true := by
  rw [codes_eq]
  intro c hc
  simp only [codes1, List.mem_cons, List.not_mem_nil, or_false] at hc
  rcases hc with rfl | rfl | rfl | rfl | rfl | rfl | rfl | rfl | rfl | rfl | rfl
  · exact w_c0
  · exact w_c1
  · exact w_c2
  · exact w_c3
  · exact w_c4
  · exact w_c5
  · exact w_c6
  · exact w_c7
  · exact w_c8
  · exact w_c9
  · exact w_c10
set_option maxRecDepth 65536 in
theorem w_t1 : (words1.take 24).all (fun c => isCode c || c.before args0 about1) = true := by decide +kernel
set_option maxRecDepth 65536 in
theorem w_t2 : ((words1.drop 24).take 24).all (fun c => isCode c || c.before args0 about1) = true := by decide +kernel
set_option maxRecDepth 65536 in
theorem w_t3 : ((words1.drop 24).drop 24).all (fun c => isCode c || c.before args0 about1) = true := by decide +kernel
theorem w_tables : (allAtoms (Jvm.Cond.code x code maxLocals ret :: tables_1)).before args0 about1 = true := by
  rw [allAtoms_all]
  show words1.all (fun c => c.before args0 about1) = true
  refine all_split ?_ w_codes
  rw [← List.take_append_drop 24 words1, List.all_append, w_t1, ← List.take_append_drop 24 (words1.drop 24), List.all_append, w_t2, w_t3]
  rfl
set_option maxRecDepth 65536 in
theorem w_case : (Jvm.Cond.and given_1 narrow_1).before args0 about1 = true := by decide +kernel
theorem w_applies : (headSpec (Jvm.Cond.code x code maxLocals ret :: tables_1) room_1).applies x e0.platform about1 = true :=
  (Spec.applies_iff w_frames).mpr ⟨w_running, w_runnable, w_alone, w_named, w_hears, w_ripe, w_room, w_tables⟩
theorem atStart : AtStart classFile x code maxLocals ret World_1 tables_1 room_1 Calls_1 rest_1 Pre_1 launch0 p0 e0 about1 theMethod args0 below0 :=
  ⟨lists_1, trivial, launch0.admits_env _ _ _, launch0.least_env, fairChoices_fair.cas, fairChoices_fair.clock, w_frames, w_args, w_heap, w_applies, trivial, trivial, w_case⟩
end start1
theorem witness_1 : WitnessClaimed_1 := ⟨start1.p0, start1.e0, start1.about1, start1.theMethod, start1.args0, start1.below0, start1.atStart⟩
end Jvm.Pilot.@@N@@
