import JvmDerived
import JvmDerived.Pilot.@@N@@Statement
import JvmDerived.Pilot.@@N@@Code
set_option linter.unusedVariables false
set_option linter.unusedSimpArgs false
@@BLOCK:NumsL.lean.txt@@
namespace Jvm.Pilot.@@N@@
open Jvm Jvm.ClassFile Sem Op Lib Jvm.Free Jvm.Stand Jvm.LawKit Jvm.RoadKit Bundle Jvm.Pilot.@@N@@.Jvm.D
section Kit
variable {p : Program} {l : Launch} {e : Env} {R : Room} {s : State} {m : MethodId} {args : Array Value} {below : List Frame} {meth : Method} {c : Code} {T : State} {locs : List Loc} {cells slots : Nat} {Z : State} {a0 : Array Value} {h : Heap}
variable {Q : Option Value → Heap → List Loc → Prop} {C S : Nat} {pc pc' : Nat} {Ls Ls' : Array Slot} {rest : List Value}
/-- the goal of a walk: from the state σ the run comes to its end, which is as Q says -/
def Go (p : Program) (e : Env) (below : List Frame) (s : State) (Q : Option Value → Heap → List Loc → Prop) (C S : Nat) (σ : State) : Prop :=
  ∃ s₂ o, Steps p.tables e below σ s₂ ∧ s₂.status = .running ∧ Ended s₂ below o ∧ ∃ v L, o = .returned v ∧ Q v s₂.heap L ∧ FrameEnd s o s₂ L C S
theorem Go.step {σ τ : State} (st : ∀ t, Steps p.tables e below τ t → Steps p.tables e below σ t) (k : Go p e below s Q C S τ) : Go p e below s Q C S σ := by
  obtain ⟨s₂, o, h1, h2⟩ := k
  exact ⟨s₂, o, st _ h1, h2⟩
theorem Go.mono {Q' : Option Value → Heap → List Loc → Prop} {σ : State} (k : Go p e below s Q C S σ) (hq : ∀ v h L, Q v h L → Q' v h L) : Go p e below s Q' C S σ := by
  obtain ⟨s₂, o, h1, h2, h3, v, L, h4, h5, h6⟩ := k
  exact ⟨s₂, o, h1, h2, h3, v, L, h4, hq _ _ _ h5, h6⟩
/-- a join: the road behind it is walked once -/
theorem w_j1 {A0 : Type} {σ : State} (F : A0 → State) (P : A0 → Prop) (hJ : ∀ a0, P a0 → Go p e below s Q C S (F a0)) (hB : (∀ a0, P a0 → Go p e below s Q C S (F a0)) → Go p e below s Q C S σ) : Go p e below s Q C S σ := hB hJ
theorem w_j2 {A0 A1 : Type} {σ : State} (F : A0 → A1 → State) (P : A0 → A1 → Prop) (hJ : ∀ a0 a1, P a0 a1 → Go p e below s Q C S (F a0 a1)) (hB : (∀ a0 a1, P a0 a1 → Go p e below s Q C S (F a0 a1)) → Go p e below s Q C S σ) : Go p e below s Q C S σ := hB hJ
theorem w_j3 {A0 A1 A2 : Type} {σ : State} (F : A0 → A1 → A2 → State) (P : A0 → A1 → A2 → Prop) (hJ : ∀ a0 a1 a2, P a0 a1 a2 → Go p e below s Q C S (F a0 a1 a2)) (hB : (∀ a0 a1 a2, P a0 a1 a2 → Go p e below s Q C S (F a0 a1 a2)) → Go p e below s Q C S σ) : Go p e below s Q C S σ := hB hJ
theorem w_j4 {A0 A1 A2 A3 : Type} {σ : State} (F : A0 → A1 → A2 → A3 → State) (P : A0 → A1 → A2 → A3 → Prop) (hJ : ∀ a0 a1 a2 a3, P a0 a1 a2 a3 → Go p e below s Q C S (F a0 a1 a2 a3)) (hB : (∀ a0 a1 a2 a3, P a0 a1 a2 a3 → Go p e below s Q C S (F a0 a1 a2 a3)) → Go p e below s Q C S σ) : Go p e below s Q C S σ := hB hJ
theorem w_j5 {A0 A1 A2 A3 A4 : Type} {σ : State} (F : A0 → A1 → A2 → A3 → A4 → State) (P : A0 → A1 → A2 → A3 → A4 → Prop) (hJ : ∀ a0 a1 a2 a3 a4, P a0 a1 a2 a3 a4 → Go p e below s Q C S (F a0 a1 a2 a3 a4)) (hB : (∀ a0 a1 a2 a3 a4, P a0 a1 a2 a3 a4 → Go p e below s Q C S (F a0 a1 a2 a3 a4)) → Go p e below s Q C S σ) : Go p e below s Q C S σ := hB hJ
theorem w_j6 {A0 A1 A2 A3 A4 A5 : Type} {σ : State} (F : A0 → A1 → A2 → A3 → A4 → A5 → State) (P : A0 → A1 → A2 → A3 → A4 → A5 → Prop) (hJ : ∀ a0 a1 a2 a3 a4 a5, P a0 a1 a2 a3 a4 a5 → Go p e below s Q C S (F a0 a1 a2 a3 a4 a5)) (hB : (∀ a0 a1 a2 a3 a4 a5, P a0 a1 a2 a3 a4 a5 → Go p e below s Q C S (F a0 a1 a2 a3 a4 a5)) → Go p e below s Q C S σ) : Go p e below s Q C S σ := hB hJ
theorem w_j7 {A0 A1 A2 A3 A4 A5 A6 : Type} {σ : State} (F : A0 → A1 → A2 → A3 → A4 → A5 → A6 → State) (P : A0 → A1 → A2 → A3 → A4 → A5 → A6 → Prop) (hJ : ∀ a0 a1 a2 a3 a4 a5 a6, P a0 a1 a2 a3 a4 a5 a6 → Go p e below s Q C S (F a0 a1 a2 a3 a4 a5 a6)) (hB : (∀ a0 a1 a2 a3 a4 a5 a6, P a0 a1 a2 a3 a4 a5 a6 → Go p e below s Q C S (F a0 a1 a2 a3 a4 a5 a6)) → Go p e below s Q C S σ) : Go p e below s Q C S σ := hB hJ
theorem w_eqI {x z : Int32} (hz : x = z) (k : Go p e below s Q C S (T.setTop (mkF m pc Ls (.int z :: rest)))) : Go p e below s Q C S (T.setTop (mkF m pc Ls (.int x :: rest))) := hz ▸ k
theorem w_eqJ {x z : Int64} (hz : x = z) (k : Go p e below s Q C S (T.setTop (mkF m pc Ls (.long z :: rest)))) : Go p e below s Q C S (T.setTop (mkF m pc Ls (.long x :: rest))) := hz ▸ k
def Dc (code : ByteArray) (pc : Nat) (i : Instr) (n pc' : Nat) : Prop := decode code pc = .ok (i, n) ∧ pc + n = pc'
def Dj (code : ByteArray) (pc : Nat) (i : Instr) (o : Int) (pcT pcF : Nat) : Prop := decode code pc = .ok (i, 3) ∧ 0 ≤ (pc : Int) + o ∧ ((pc : Int) + o).toNat = pcT ∧ pc + 3 = pcF
theorem dq {code : ByteArray} {i : Instr} {n : Nat} (hq : c.code = code) (d : Dc code pc i n pc') : Dc c.code pc i n pc' := hq ▸ d
theorem dj {code : ByteArray} {i : Instr} {o : Int} {pcT pcF : Nat} (hq : c.code = code) (d : Dj code pc i o pcT pcF) : Dj c.code pc i o pcT pcF := hq ▸ d
abbrev St (p : Program) (l : Launch) (e : Env) (R : Room) (s : State) (m : MethodId) (args : Array Value) (below : List Frame) (meth : Method) (c : Code) (T : State) (locs : List Loc) (cells slots : Nat) : Prop := Stand p l e R s m args below meth c T locs cells slots
/-! loads, stores, constants -/
theorem w_iload (X : Stand p l e R s m args below meth c T locs cells slots) (hx : p.tables.exec = Jvm.exec) {n : Nat} {z : Int32} (hd : Dc c.code pc (.iload n) 2 pc') (hl : Ls[n]? = some (.val (.int z))) (k : Go p e below s Q C S (T.setTop (mkF m pc' Ls (.int z :: rest)))) : Go p e below s Q C S (T.setTop (mkF m pc Ls (rest))) := by
  obtain ⟨hd, rfl⟩ := hd; exact k.step fun _ t => XS.iload X.here hx rfl hd hl t
theorem w_iloadN (X : Stand p l e R s m args below meth c T locs cells slots) (hx : p.tables.exec = Jvm.exec) {n : Fin 4} {z : Int32} (hd : Dc c.code pc (.iload_n n) 1 pc') (hl : Ls[n.val]? = some (.val (.int z))) (k : Go p e below s Q C S (T.setTop (mkF m pc' Ls (.int z :: rest)))) : Go p e below s Q C S (T.setTop (mkF m pc Ls (rest))) := by
  obtain ⟨hd, rfl⟩ := hd; exact k.step fun _ t => XS.iloadN X.here hx rfl hd hl t
theorem w_istore (X : Stand p l e R s m args below meth c T locs cells slots) (hx : p.tables.exec = Jvm.exec) {n : Nat} {x z : Int32} (hd : Dc c.code pc (.istore n) 2 pc') (hz : z = x) (hs : storeLocals Ls n (.int z) = some Ls') (k : Go p e below s Q C S (T.setTop (mkF m pc' Ls' (rest)))) : Go p e below s Q C S (T.setTop (mkF m pc Ls (.int x :: rest))) := by
  obtain ⟨hd, rfl⟩ := hd; subst hz; exact k.step fun _ t => XS.istore X.here hx rfl hd rfl hs t
theorem w_istoreN (X : Stand p l e R s m args below meth c T locs cells slots) (hx : p.tables.exec = Jvm.exec) {n : Fin 4} {x z : Int32} (hd : Dc c.code pc (.istore_n n) 1 pc') (hz : z = x) (hs : storeLocals Ls n.val (.int z) = some Ls') (k : Go p e below s Q C S (T.setTop (mkF m pc' Ls' (rest)))) : Go p e below s Q C S (T.setTop (mkF m pc Ls (.int x :: rest))) := by
  obtain ⟨hd, rfl⟩ := hd; subst hz; exact k.step fun _ t => XS.istoreN X.here hx rfl hd rfl hs t
theorem w_lload (X : Stand p l e R s m args below meth c T locs cells slots) (hx : p.tables.exec = Jvm.exec) {n : Nat} {z : Int64} (hd : Dc c.code pc (.lload n) 2 pc') (hl : Ls[n]? = some (.val (.long z))) (k : Go p e below s Q C S (T.setTop (mkF m pc' Ls (.long z :: rest)))) : Go p e below s Q C S (T.setTop (mkF m pc Ls (rest))) := by
  obtain ⟨hd, rfl⟩ := hd; exact k.step fun _ t => XS.lload X.here hx rfl hd hl t
theorem w_lloadN (X : Stand p l e R s m args below meth c T locs cells slots) (hx : p.tables.exec = Jvm.exec) {n : Fin 4} {z : Int64} (hd : Dc c.code pc (.lload_n n) 1 pc') (hl : Ls[n.val]? = some (.val (.long z))) (k : Go p e below s Q C S (T.setTop (mkF m pc' Ls (.long z :: rest)))) : Go p e below s Q C S (T.setTop (mkF m pc Ls (rest))) := by
  obtain ⟨hd, rfl⟩ := hd; exact k.step fun _ t => XS.lloadN X.here hx rfl hd hl t
theorem w_lstore (X : Stand p l e R s m args below meth c T locs cells slots) (hx : p.tables.exec = Jvm.exec) {n : Nat} {x z : Int64} (hd : Dc c.code pc (.lstore n) 2 pc') (hz : z = x) (hs : storeLocals Ls n (.long z) = some Ls') (k : Go p e below s Q C S (T.setTop (mkF m pc' Ls' (rest)))) : Go p e below s Q C S (T.setTop (mkF m pc Ls (.long x :: rest))) := by
  obtain ⟨hd, rfl⟩ := hd; subst hz; exact k.step fun _ t => XS.lstore X.here hx rfl hd rfl hs t
theorem w_lstoreN (X : Stand p l e R s m args below meth c T locs cells slots) (hx : p.tables.exec = Jvm.exec) {n : Fin 4} {x z : Int64} (hd : Dc c.code pc (.lstore_n n) 1 pc') (hz : z = x) (hs : storeLocals Ls n.val (.long z) = some Ls') (k : Go p e below s Q C S (T.setTop (mkF m pc' Ls' (rest)))) : Go p e below s Q C S (T.setTop (mkF m pc Ls (.long x :: rest))) := by
  obtain ⟨hd, rfl⟩ := hd; subst hz; exact k.step fun _ t => XS.lstoreN X.here hx rfl hd rfl hs t
theorem w_aload (X : Stand p l e R s m args below meth c T locs cells slots) (hx : p.tables.exec = Jvm.exec) {n : Nat} {v : Value} (hd : Dc c.code pc (.aload n) 2 pc') (hl : Ls[n]? = some (.val v)) (hv : v.isRef = true) (k : Go p e below s Q C S (T.setTop (mkF m pc' Ls (v :: rest)))) : Go p e below s Q C S (T.setTop (mkF m pc Ls (rest))) := by
  obtain ⟨hd, rfl⟩ := hd; exact k.step fun _ t => XS.aload X.here hx rfl hd hl hv t
theorem w_aloadN (X : Stand p l e R s m args below meth c T locs cells slots) (hx : p.tables.exec = Jvm.exec) {n : Fin 4} {v : Value} (hd : Dc c.code pc (.aload_n n) 1 pc') (hl : Ls[n.val]? = some (.val v)) (hv : v.isRef = true) (k : Go p e below s Q C S (T.setTop (mkF m pc' Ls (v :: rest)))) : Go p e below s Q C S (T.setTop (mkF m pc Ls (rest))) := by
  obtain ⟨hd, rfl⟩ := hd; exact k.step fun _ t => XS.aloadN X.here hx rfl hd hl hv t
theorem w_astore (X : Stand p l e R s m args below meth c T locs cells slots) (hx : p.tables.exec = Jvm.exec) {n : Nat} {v : Value} (hd : Dc c.code pc (.astore n) 2 pc') (hv : v.isRef = true) (hs : storeLocals Ls n v = some Ls') (k : Go p e below s Q C S (T.setTop (mkF m pc' Ls' (rest)))) : Go p e below s Q C S (T.setTop (mkF m pc Ls (v :: rest))) := by
  obtain ⟨hd, rfl⟩ := hd; exact k.step fun _ t => XS.astore X.here hx rfl hd rfl hv hs t
theorem w_astoreN (X : Stand p l e R s m args below meth c T locs cells slots) (hx : p.tables.exec = Jvm.exec) {n : Fin 4} {v : Value} (hd : Dc c.code pc (.astore_n n) 1 pc') (hv : v.isRef = true) (hs : storeLocals Ls n.val v = some Ls') (k : Go p e below s Q C S (T.setTop (mkF m pc' Ls' (rest)))) : Go p e below s Q C S (T.setTop (mkF m pc Ls (v :: rest))) := by
  obtain ⟨hd, rfl⟩ := hd; exact k.step fun _ t => XS.astoreN X.here hx rfl hd rfl hv hs t
theorem w_iconst (X : Stand p l e R s m args below meth c T locs cells slots) (hx : p.tables.exec = Jvm.exec) {i : Int} {z : Int32} (hd : Dc c.code pc (.iconst i) 1 pc') (hz : Int32.ofInt i = z) (k : Go p e below s Q C S (T.setTop (mkF m pc' Ls (.int z :: rest)))) : Go p e below s Q C S (T.setTop (mkF m pc Ls rest)) := by
  obtain ⟨hd, rfl⟩ := hd; subst hz; exact k.step fun _ t => XS.iconst X.here hx rfl hd t
theorem w_bipush (X : Stand p l e R s m args below meth c T locs cells slots) (hx : p.tables.exec = Jvm.exec) {i : Int} {z : Int32} (hd : Dc c.code pc (.bipush i) 2 pc') (hz : (Int8.ofInt i).toInt32 = z) (k : Go p e below s Q C S (T.setTop (mkF m pc' Ls (.int z :: rest)))) : Go p e below s Q C S (T.setTop (mkF m pc Ls rest)) := by
  obtain ⟨hd, rfl⟩ := hd; subst hz; exact k.step fun _ t => XS.bipush X.here hx rfl hd t
theorem w_sipush (X : Stand p l e R s m args below meth c T locs cells slots) (hx : p.tables.exec = Jvm.exec) {i : Int} {z : Int32} (hd : Dc c.code pc (.sipush i) 3 pc') (hz : (Int16.ofInt i).toInt32 = z) (k : Go p e below s Q C S (T.setTop (mkF m pc' Ls (.int z :: rest)))) : Go p e below s Q C S (T.setTop (mkF m pc Ls rest)) := by
  obtain ⟨hd, rfl⟩ := hd; subst hz; exact k.step fun _ t => XS.sipush X.here hx rfl hd t
theorem w_lconst (X : Stand p l e R s m args below meth c T locs cells slots) (hx : p.tables.exec = Jvm.exec) {i : Fin 2} {z : Int64} (hd : Dc c.code pc (.lconst i) 1 pc') (hz : Int64.ofNat i = z) (k : Go p e below s Q C S (T.setTop (mkF m pc' Ls (.long z :: rest)))) : Go p e below s Q C S (T.setTop (mkF m pc Ls rest)) := by
  obtain ⟨hd, rfl⟩ := hd; subst hz; exact k.step fun _ t => XS.lconst X.here hx rfl hd t
theorem w_null (X : Stand p l e R s m args below meth c T locs cells slots) (hx : p.tables.exec = Jvm.exec) (hd : Dc c.code pc .aconst_null 1 pc') (k : Go p e below s Q C S (T.setTop (mkF m pc' Ls (.null :: rest)))) : Go p e below s Q C S (T.setTop (mkF m pc Ls rest)) := by
  obtain ⟨hd, rfl⟩ := hd; exact k.step fun _ t => XS.aconstNull X.here hx rfl hd t
theorem w_ldc (X : Stand p l e R s m args below meth c T locs cells slots) (hx : p.tables.exec = Jvm.exec) (hZ : Z.Warmed39 s.vm) {own : String} {index : Nat} {z : Int32} (hown : s.vm.findClass own = some m.cls) (w : (Jvm.Cond.constant own index z).before a0 Z = true) (hd : Dc c.code pc (.ldc index) 2 pc') (k : Go p e below s Q C S (T.setTop (mkF m pc' Ls (.int z :: rest)))) : Go p e below s Q C S (T.setTop (mkF m pc Ls rest)) := by
  obtain ⟨hd, rfl⟩ := hd; exact k.step fun t q => X.ldcInt hx hown (mvT hZ w) (g := mkF m pc Ls rest) rfl hd t q
theorem w_ldcw (X : Stand p l e R s m args below meth c T locs cells slots) (hx : p.tables.exec = Jvm.exec) (hZ : Z.Warmed39 s.vm) {own : String} {index : Nat} {z : Int32} (hown : s.vm.findClass own = some m.cls) (w : (Jvm.Cond.constant own index z).before a0 Z = true) (hd : Dc c.code pc (.ldc_w index) 3 pc') (k : Go p e below s Q C S (T.setTop (mkF m pc' Ls (.int z :: rest)))) : Go p e below s Q C S (T.setTop (mkF m pc Ls rest)) := by
  obtain ⟨hd, rfl⟩ := hd; exact k.step fun t q => X.ldcwInt hx hown (mvT hZ w) (g := mkF m pc Ls rest) rfl hd t q
theorem w_ldc2 (X : Stand p l e R s m args below meth c T locs cells slots) (hx : p.tables.exec = Jvm.exec) (hZ : Z.Warmed39 s.vm) {own : String} {index : Nat} {z : Int64} (hown : s.vm.findClass own = some m.cls) (w : (Jvm.Cond.constantLong own index z).before a0 Z = true) (hd : Dc c.code pc (.ldc2_w index) 3 pc') (k : Go p e below s Q C S (T.setTop (mkF m pc' Ls (.long z :: rest)))) : Go p e below s Q C S (T.setTop (mkF m pc Ls rest)) := by
  obtain ⟨hd, rfl⟩ := hd; exact k.step fun t q => X.ldc2Long hx hown (mvT hZ w) (g := mkF m pc Ls rest) rfl hd t q
theorem w_iinc (X : Stand p l e R s m args below meth c T locs cells slots) (hx : p.tables.exec = Jvm.exec) {n : Nat} {i : Int} {x z : Int32} (hd : Dc c.code pc (.iinc n i) 3 pc') (hl : Ls[n]? = some (.val (.int x))) (hz : x + Int32.ofInt i = z) (hs : storeLocals Ls n (.int z) = some Ls') (k : Go p e below s Q C S (T.setTop (mkF m pc' Ls' rest))) : Go p e below s Q C S (T.setTop (mkF m pc Ls rest)) := by
  obtain ⟨hd, rfl⟩ := hd; subst hz; exact k.step fun _ t => XS.iinc X.here hx rfl hd hl hs t
/-! arithmetic -/
def IShl (x y : Int32) : Int32 := x <<< (y &&& 31)
def IShr (x y : Int32) : Int32 := x >>> (y &&& 31)
def IUshr (x y : Int32) : Int32 := (x.toUInt32 >>> (y &&& 31).toUInt32).toInt32
def LShl (x : Int64) (y : Int32) : Int64 := x <<< (y &&& 0x3f).toInt64
def LShr (x : Int64) (y : Int32) : Int64 := x >>> (y &&& 0x3f).toInt64
def LUshr (x : Int64) (y : Int32) : Int64 := (x.toUInt64 >>> (y &&& 0x3f).toInt64.toUInt64).toInt64
theorem w_iadd (X : Stand p l e R s m args below meth c T locs cells slots) (hx : p.tables.exec = Jvm.exec) {x y : Int32} (hd : Dc c.code pc .iadd 1 pc') (k : Go p e below s Q C S (T.setTop (mkF m pc' Ls (.int (x + y) :: rest)))) : Go p e below s Q C S (T.setTop (mkF m pc Ls (.int y :: .int x :: rest))) := by
  obtain ⟨hd, rfl⟩ := hd; exact k.step fun _ t => XS.iadd X.here hx rfl hd rfl t
theorem w_isub (X : Stand p l e R s m args below meth c T locs cells slots) (hx : p.tables.exec = Jvm.exec) {x y : Int32} (hd : Dc c.code pc .isub 1 pc') (k : Go p e below s Q C S (T.setTop (mkF m pc' Ls (.int (x - y) :: rest)))) : Go p e below s Q C S (T.setTop (mkF m pc Ls (.int y :: .int x :: rest))) := by
  obtain ⟨hd, rfl⟩ := hd; exact k.step fun _ t => XS.isub X.here hx rfl hd rfl t
theorem w_imul (X : Stand p l e R s m args below meth c T locs cells slots) (hx : p.tables.exec = Jvm.exec) {x y : Int32} (hd : Dc c.code pc .imul 1 pc') (k : Go p e below s Q C S (T.setTop (mkF m pc' Ls (.int (x * y) :: rest)))) : Go p e below s Q C S (T.setTop (mkF m pc Ls (.int y :: .int x :: rest))) := by
  obtain ⟨hd, rfl⟩ := hd; exact k.step fun _ t => XS.imul X.here hx rfl hd rfl t
theorem w_iand (X : Stand p l e R s m args below meth c T locs cells slots) (hx : p.tables.exec = Jvm.exec) {x y : Int32} (hd : Dc c.code pc .iand 1 pc') (k : Go p e below s Q C S (T.setTop (mkF m pc' Ls (.int (x &&& y) :: rest)))) : Go p e below s Q C S (T.setTop (mkF m pc Ls (.int y :: .int x :: rest))) := by
  obtain ⟨hd, rfl⟩ := hd; exact k.step fun _ t => XS.iand X.here hx rfl hd rfl t
theorem w_ior (X : Stand p l e R s m args below meth c T locs cells slots) (hx : p.tables.exec = Jvm.exec) {x y : Int32} (hd : Dc c.code pc .ior 1 pc') (k : Go p e below s Q C S (T.setTop (mkF m pc' Ls (.int (x ||| y) :: rest)))) : Go p e below s Q C S (T.setTop (mkF m pc Ls (.int y :: .int x :: rest))) := by
  obtain ⟨hd, rfl⟩ := hd; exact k.step fun _ t => XS.ior X.here hx rfl hd rfl t
theorem w_ixor (X : Stand p l e R s m args below meth c T locs cells slots) (hx : p.tables.exec = Jvm.exec) {x y : Int32} (hd : Dc c.code pc .ixor 1 pc') (k : Go p e below s Q C S (T.setTop (mkF m pc' Ls (.int (x ^^^ y) :: rest)))) : Go p e below s Q C S (T.setTop (mkF m pc Ls (.int y :: .int x :: rest))) := by
  obtain ⟨hd, rfl⟩ := hd; exact k.step fun _ t => XS.ixor X.here hx rfl hd rfl t
theorem w_ishl (X : Stand p l e R s m args below meth c T locs cells slots) (hx : p.tables.exec = Jvm.exec) {x : Int32} {y : Int32} (hd : Dc c.code pc .ishl 1 pc') (k : Go p e below s Q C S (T.setTop (mkF m pc' Ls (.int (IShl x y) :: rest)))) : Go p e below s Q C S (T.setTop (mkF m pc Ls (.int y :: .int x :: rest))) := by
  obtain ⟨hd, rfl⟩ := hd; exact k.step fun _ t => XS.ishl X.here hx rfl hd rfl t
theorem w_ishr (X : Stand p l e R s m args below meth c T locs cells slots) (hx : p.tables.exec = Jvm.exec) {x : Int32} {y : Int32} (hd : Dc c.code pc .ishr 1 pc') (k : Go p e below s Q C S (T.setTop (mkF m pc' Ls (.int (IShr x y) :: rest)))) : Go p e below s Q C S (T.setTop (mkF m pc Ls (.int y :: .int x :: rest))) := by
  obtain ⟨hd, rfl⟩ := hd; exact k.step fun _ t => XS.ishr X.here hx rfl hd rfl t
theorem w_iushr (X : Stand p l e R s m args below meth c T locs cells slots) (hx : p.tables.exec = Jvm.exec) {x : Int32} {y : Int32} (hd : Dc c.code pc .iushr 1 pc') (k : Go p e below s Q C S (T.setTop (mkF m pc' Ls (.int (IUshr x y) :: rest)))) : Go p e below s Q C S (T.setTop (mkF m pc Ls (.int y :: .int x :: rest))) := by
  obtain ⟨hd, rfl⟩ := hd; exact k.step fun _ t => XS.iushr X.here hx rfl hd rfl t
theorem w_ladd (X : Stand p l e R s m args below meth c T locs cells slots) (hx : p.tables.exec = Jvm.exec) {x y : Int64} (hd : Dc c.code pc .ladd 1 pc') (k : Go p e below s Q C S (T.setTop (mkF m pc' Ls (.long (x + y) :: rest)))) : Go p e below s Q C S (T.setTop (mkF m pc Ls (.long y :: .long x :: rest))) := by
  obtain ⟨hd, rfl⟩ := hd; exact k.step fun _ t => XS.ladd X.here hx rfl hd rfl t
theorem w_lsub (X : Stand p l e R s m args below meth c T locs cells slots) (hx : p.tables.exec = Jvm.exec) {x y : Int64} (hd : Dc c.code pc .lsub 1 pc') (k : Go p e below s Q C S (T.setTop (mkF m pc' Ls (.long (x - y) :: rest)))) : Go p e below s Q C S (T.setTop (mkF m pc Ls (.long y :: .long x :: rest))) := by
  obtain ⟨hd, rfl⟩ := hd; exact k.step fun _ t => XS.lsub X.here hx rfl hd rfl t
theorem w_lmul (X : Stand p l e R s m args below meth c T locs cells slots) (hx : p.tables.exec = Jvm.exec) {x y : Int64} (hd : Dc c.code pc .lmul 1 pc') (k : Go p e below s Q C S (T.setTop (mkF m pc' Ls (.long (x * y) :: rest)))) : Go p e below s Q C S (T.setTop (mkF m pc Ls (.long y :: .long x :: rest))) := by
  obtain ⟨hd, rfl⟩ := hd; exact k.step fun _ t => XS.lmul X.here hx rfl hd rfl t
theorem w_land (X : Stand p l e R s m args below meth c T locs cells slots) (hx : p.tables.exec = Jvm.exec) {x y : Int64} (hd : Dc c.code pc .land 1 pc') (k : Go p e below s Q C S (T.setTop (mkF m pc' Ls (.long (x &&& y) :: rest)))) : Go p e below s Q C S (T.setTop (mkF m pc Ls (.long y :: .long x :: rest))) := by
  obtain ⟨hd, rfl⟩ := hd; exact k.step fun _ t => XS.land X.here hx rfl hd rfl t
theorem w_lor (X : Stand p l e R s m args below meth c T locs cells slots) (hx : p.tables.exec = Jvm.exec) {x y : Int64} (hd : Dc c.code pc .lor 1 pc') (k : Go p e below s Q C S (T.setTop (mkF m pc' Ls (.long (x ||| y) :: rest)))) : Go p e below s Q C S (T.setTop (mkF m pc Ls (.long y :: .long x :: rest))) := by
  obtain ⟨hd, rfl⟩ := hd; exact k.step fun _ t => XS.lor X.here hx rfl hd rfl t
theorem w_lxor (X : Stand p l e R s m args below meth c T locs cells slots) (hx : p.tables.exec = Jvm.exec) {x y : Int64} (hd : Dc c.code pc .lxor 1 pc') (k : Go p e below s Q C S (T.setTop (mkF m pc' Ls (.long (x ^^^ y) :: rest)))) : Go p e below s Q C S (T.setTop (mkF m pc Ls (.long y :: .long x :: rest))) := by
  obtain ⟨hd, rfl⟩ := hd; exact k.step fun _ t => XS.lxor X.here hx rfl hd rfl t
theorem w_lshl (X : Stand p l e R s m args below meth c T locs cells slots) (hx : p.tables.exec = Jvm.exec) {x : Int64} {y : Int32} (hd : Dc c.code pc .lshl 1 pc') (k : Go p e below s Q C S (T.setTop (mkF m pc' Ls (.long (LShl x y) :: rest)))) : Go p e below s Q C S (T.setTop (mkF m pc Ls (.int y :: .long x :: rest))) := by
  obtain ⟨hd, rfl⟩ := hd; exact k.step fun _ t => XS.lshl X.here hx rfl hd rfl t
theorem w_lshr (X : Stand p l e R s m args below meth c T locs cells slots) (hx : p.tables.exec = Jvm.exec) {x : Int64} {y : Int32} (hd : Dc c.code pc .lshr 1 pc') (k : Go p e below s Q C S (T.setTop (mkF m pc' Ls (.long (LShr x y) :: rest)))) : Go p e below s Q C S (T.setTop (mkF m pc Ls (.int y :: .long x :: rest))) := by
  obtain ⟨hd, rfl⟩ := hd; exact k.step fun _ t => XS.lshr X.here hx rfl hd rfl t
theorem w_lushr (X : Stand p l e R s m args below meth c T locs cells slots) (hx : p.tables.exec = Jvm.exec) {x : Int64} {y : Int32} (hd : Dc c.code pc .lushr 1 pc') (k : Go p e below s Q C S (T.setTop (mkF m pc' Ls (.long (LUshr x y) :: rest)))) : Go p e below s Q C S (T.setTop (mkF m pc Ls (.int y :: .long x :: rest))) := by
  obtain ⟨hd, rfl⟩ := hd; exact k.step fun _ t => XS.lushr X.here hx rfl hd rfl t
theorem w_ineg (X : Stand p l e R s m args below meth c T locs cells slots) (hx : p.tables.exec = Jvm.exec) {x : Int32} (hd : Dc c.code pc .ineg 1 pc') (k : Go p e below s Q C S (T.setTop (mkF m pc' Ls (.int (-x) :: rest)))) : Go p e below s Q C S (T.setTop (mkF m pc Ls (.int x :: rest))) := by
  obtain ⟨hd, rfl⟩ := hd; exact k.step fun _ t => XS.ineg X.here hx rfl hd rfl t
theorem w_lneg (X : Stand p l e R s m args below meth c T locs cells slots) (hx : p.tables.exec = Jvm.exec) {x : Int64} (hd : Dc c.code pc .lneg 1 pc') (k : Go p e below s Q C S (T.setTop (mkF m pc' Ls (.long (-x) :: rest)))) : Go p e below s Q C S (T.setTop (mkF m pc Ls (.long x :: rest))) := by
  obtain ⟨hd, rfl⟩ := hd; exact k.step fun _ t => XS.lneg X.here hx rfl hd rfl t
theorem w_i2l (X : Stand p l e R s m args below meth c T locs cells slots) (hx : p.tables.exec = Jvm.exec) {x : Int32} (hd : Dc c.code pc .i2l 1 pc') (k : Go p e below s Q C S (T.setTop (mkF m pc' Ls (.long (x.toInt64) :: rest)))) : Go p e below s Q C S (T.setTop (mkF m pc Ls (.int x :: rest))) := by
  obtain ⟨hd, rfl⟩ := hd; exact k.step fun _ t => XS.i2l X.here hx rfl hd rfl t
theorem w_l2i (X : Stand p l e R s m args below meth c T locs cells slots) (hx : p.tables.exec = Jvm.exec) {x : Int64} (hd : Dc c.code pc .l2i 1 pc') (k : Go p e below s Q C S (T.setTop (mkF m pc' Ls (.int (x.toInt32) :: rest)))) : Go p e below s Q C S (T.setTop (mkF m pc Ls (.long x :: rest))) := by
  obtain ⟨hd, rfl⟩ := hd; exact k.step fun _ t => XS.l2i X.here hx rfl hd rfl t
theorem w_i2b (X : Stand p l e R s m args below meth c T locs cells slots) (hx : p.tables.exec = Jvm.exec) {x : Int32} (hd : Dc c.code pc .i2b 1 pc') (k : Go p e below s Q C S (T.setTop (mkF m pc' Ls (.int (x.toInt8.toInt32) :: rest)))) : Go p e below s Q C S (T.setTop (mkF m pc Ls (.int x :: rest))) := by
  obtain ⟨hd, rfl⟩ := hd; exact k.step fun _ t => XS.i2b X.here hx rfl hd rfl t
theorem w_i2c (X : Stand p l e R s m args below meth c T locs cells slots) (hx : p.tables.exec = Jvm.exec) {x : Int32} (hd : Dc c.code pc .i2c 1 pc') (k : Go p e below s Q C S (T.setTop (mkF m pc' Ls (.int (x.toUInt32.toUInt16.toUInt32.toInt32) :: rest)))) : Go p e below s Q C S (T.setTop (mkF m pc Ls (.int x :: rest))) := by
  obtain ⟨hd, rfl⟩ := hd; exact k.step fun _ t => XS.i2c X.here hx rfl hd rfl t
theorem w_i2s (X : Stand p l e R s m args below meth c T locs cells slots) (hx : p.tables.exec = Jvm.exec) {x : Int32} (hd : Dc c.code pc .i2s 1 pc') (k : Go p e below s Q C S (T.setTop (mkF m pc' Ls (.int (x.toInt16.toInt32) :: rest)))) : Go p e below s Q C S (T.setTop (mkF m pc Ls (.int x :: rest))) := by
  obtain ⟨hd, rfl⟩ := hd; exact k.step fun _ t => XS.i2s X.here hx rfl hd rfl t
theorem w_idiv (X : Stand p l e R s m args below meth c T locs cells slots) (hx : p.tables.exec = Jvm.exec) {x y : Int32} (hd : Dc c.code pc .idiv 1 pc') (hy : y ≠ 0) (k : Go p e below s Q C S (T.setTop (mkF m pc' Ls (.int (x / y) :: rest)))) : Go p e below s Q C S (T.setTop (mkF m pc Ls (.int y :: .int x :: rest))) := by
  obtain ⟨hd, rfl⟩ := hd; exact k.step fun _ t => XS.idiv X.here hx rfl hd rfl hy t
theorem w_irem (X : Stand p l e R s m args below meth c T locs cells slots) (hx : p.tables.exec = Jvm.exec) {x y : Int32} (hd : Dc c.code pc .irem 1 pc') (hy : y ≠ 0) (k : Go p e below s Q C S (T.setTop (mkF m pc' Ls (.int (x % y) :: rest)))) : Go p e below s Q C S (T.setTop (mkF m pc Ls (.int y :: .int x :: rest))) := by
  obtain ⟨hd, rfl⟩ := hd; exact k.step fun _ t => iremM X hx rfl hd rfl hy t
theorem w_ldiv (X : Stand p l e R s m args below meth c T locs cells slots) (hx : p.tables.exec = Jvm.exec) {x y : Int64} (hd : Dc c.code pc .ldiv 1 pc') (hy : y ≠ 0) (k : Go p e below s Q C S (T.setTop (mkF m pc' Ls (.long (x / y) :: rest)))) : Go p e below s Q C S (T.setTop (mkF m pc Ls (.long y :: .long x :: rest))) := by
  obtain ⟨hd, rfl⟩ := hd; exact k.step fun _ t => XS.ldiv X.here hx rfl hd rfl hy t
theorem w_dup (X : Stand p l e R s m args below meth c T locs cells slots) (hx : p.tables.exec = Jvm.exec) {v : Value} (hd : Dc c.code pc .dup 1 pc') (hc : v.category = 1) (k : Go p e below s Q C S (T.setTop (mkF m pc' Ls (v :: v :: rest)))) : Go p e below s Q C S (T.setTop (mkF m pc Ls (v :: rest))) := by
  obtain ⟨hd, rfl⟩ := hd; exact k.step fun _ t => XS.dup X.here hx rfl hd rfl hc t
theorem w_dupx1 (X : Stand p l e R s m args below meth c T locs cells slots) (hx : p.tables.exec = Jvm.exec) {v w : Value} (hd : Dc c.code pc .dup_x1 1 pc') (hc : v.category = 1) (hc' : w.category = 1) (k : Go p e below s Q C S (T.setTop (mkF m pc' Ls (v :: w :: v :: rest)))) : Go p e below s Q C S (T.setTop (mkF m pc Ls (v :: w :: rest))) := by
  obtain ⟨hd, rfl⟩ := hd; exact k.step fun _ t => XS.dupX1 X.here hx rfl hd rfl hc hc' t
theorem w_dup2 (X : Stand p l e R s m args below meth c T locs cells slots) (hx : p.tables.exec = Jvm.exec) {v w : Value} (hd : Dc c.code pc .dup2 1 pc') (hc : v.category = 1) (hc' : w.category = 1) (k : Go p e below s Q C S (T.setTop (mkF m pc' Ls (v :: w :: v :: w :: rest)))) : Go p e below s Q C S (T.setTop (mkF m pc Ls (v :: w :: rest))) := by
  obtain ⟨hd, rfl⟩ := hd; exact k.step fun _ t => XT.dup2 X.here hx rfl hd rfl hc hc' t
theorem w_dup2L (X : Stand p l e R s m args below meth c T locs cells slots) (hx : p.tables.exec = Jvm.exec) {x : Int64} (hd : Dc c.code pc .dup2 1 pc') (k : Go p e below s Q C S (T.setTop (mkF m pc' Ls (.long x :: .long x :: rest)))) : Go p e below s Q C S (T.setTop (mkF m pc Ls (.long x :: rest))) := by
  obtain ⟨hd, rfl⟩ := hd; exact k.step fun _ t => XT.dup2L X.here hx rfl hd rfl t
theorem w_pop (X : Stand p l e R s m args below meth c T locs cells slots) (hx : p.tables.exec = Jvm.exec) {v : Value} (hd : Dc c.code pc .pop 1 pc') (hc : v.category = 1) (k : Go p e below s Q C S (T.setTop (mkF m pc' Ls rest))) : Go p e below s Q C S (T.setTop (mkF m pc Ls (v :: rest))) := by
  obtain ⟨hd, rfl⟩ := hd; exact k.step fun _ t => XS.pop X.here hx rfl hd rfl hc t
/-! branches -/
theorem w_goto (X : Stand p l e R s m args below meth c T locs cells slots) (hx : p.tables.exec = Jvm.exec) {o : Int} {pcT pcF : Nat} (hd : Dj c.code pc (.goto o) o pcT pcF) (k : Go p e below s Q C S (T.setTop (mkF m pcT Ls rest))) : Go p e below s Q C S (T.setTop (mkF m pc Ls rest)) := by
  obtain ⟨hd, ho, rfl, -⟩ := hd; exact k.step fun _ t => XS.goto X.here hx rfl rfl hd ho rfl t
theorem w_icmp_eq (X : Stand p l e R s m args below meth c T locs cells slots) (hx : p.tables.exec = Jvm.exec) {o : Int} {x y : Int32} {pcT pcF : Nat} (hd : Dj c.code pc (.if_icmp .eq o) o pcT pcF) (kt : x = y → Go p e below s Q C S (T.setTop (mkF m pcT Ls (rest)))) (kf : x ≠ y → Go p e below s Q C S (T.setTop (mkF m pcF Ls (rest)))) : Go p e below s Q C S (T.setTop (mkF m pc Ls (.int y :: .int x :: rest))) := by
  obtain ⟨hd, ho, rfl, rfl⟩ := hd
  by_cases hb : x = y
  · exact (kt hb).step fun _ t => XS.icmpYes X.here hx rfl rfl hd rfl (teq hb).1 ho rfl t
  · exact (kf hb).step fun _ t => XS.icmpNo X.here hx rfl hd rfl (feq hb).1 t
theorem w_if_eq (X : Stand p l e R s m args below meth c T locs cells slots) (hx : p.tables.exec = Jvm.exec) {o : Int} {x : Int32} {pcT pcF : Nat} (hd : Dj c.code pc (.ifCond .eq o) o pcT pcF) (kt : x = 0 → Go p e below s Q C S (T.setTop (mkF m pcT Ls (rest)))) (kf : x ≠ 0 → Go p e below s Q C S (T.setTop (mkF m pcF Ls (rest)))) : Go p e below s Q C S (T.setTop (mkF m pc Ls (.int x :: rest))) := by
  obtain ⟨hd, ho, rfl, rfl⟩ := hd
  have e0 : (0 : Int32).toInt = 0 := rfl
  by_cases hb : x = (0 : Int32)
  · exact (kt hb).step fun _ t => XS.ifYes X.here hx rfl rfl hd rfl ((if0 _ _).trans (teq hb).1) ho rfl t
  · exact (kf hb).step fun _ t => XS.ifNo X.here hx rfl hd rfl ((if0 _ _).trans (feq hb).1) t
theorem w_lcmp_eq (X : Stand p l e R s m args below meth c T locs cells slots) (hx : p.tables.exec = Jvm.exec) {o : Int} {x y : Int64} {pc1 pcT pcF : Nat} (hd1 : Dc c.code pc .lcmp 1 pc1) (hd : Dj c.code pc1 (.ifCond .eq o) o pcT pcF) (kt : x = y → Go p e below s Q C S (T.setTop (mkF m pcT Ls (rest)))) (kf : x ≠ y → Go p e below s Q C S (T.setTop (mkF m pcF Ls (rest)))) : Go p e below s Q C S (T.setTop (mkF m pc Ls (.long y :: .long x :: rest))) := by
  obtain ⟨hd1, rfl⟩ := hd1
  refine Go.step (fun _ t => XS.lcmp X.here hx rfl hd1 rfl t) ?_
  exact w_if_eq X hx hd (fun q => kt ((lw_eq x y).mp q)) (fun q => kf (fun r => q ((lw_eq x y).mpr r)))
theorem w_icmp_ne (X : Stand p l e R s m args below meth c T locs cells slots) (hx : p.tables.exec = Jvm.exec) {o : Int} {x y : Int32} {pcT pcF : Nat} (hd : Dj c.code pc (.if_icmp .ne o) o pcT pcF) (kt : x ≠ y → Go p e below s Q C S (T.setTop (mkF m pcT Ls (rest)))) (kf : x = y → Go p e below s Q C S (T.setTop (mkF m pcF Ls (rest)))) : Go p e below s Q C S (T.setTop (mkF m pc Ls (.int y :: .int x :: rest))) := by
  obtain ⟨hd, ho, rfl, rfl⟩ := hd
  by_cases hb : x = y
  · exact (kf hb).step fun _ t => XS.icmpNo X.here hx rfl hd rfl (teq hb).2 t
  · exact (kt hb).step fun _ t => XS.icmpYes X.here hx rfl rfl hd rfl (feq hb).2 ho rfl t
theorem w_if_ne (X : Stand p l e R s m args below meth c T locs cells slots) (hx : p.tables.exec = Jvm.exec) {o : Int} {x : Int32} {pcT pcF : Nat} (hd : Dj c.code pc (.ifCond .ne o) o pcT pcF) (kt : x ≠ 0 → Go p e below s Q C S (T.setTop (mkF m pcT Ls (rest)))) (kf : x = 0 → Go p e below s Q C S (T.setTop (mkF m pcF Ls (rest)))) : Go p e below s Q C S (T.setTop (mkF m pc Ls (.int x :: rest))) := by
  obtain ⟨hd, ho, rfl, rfl⟩ := hd
  have e0 : (0 : Int32).toInt = 0 := rfl
  by_cases hb : x = (0 : Int32)
  · exact (kf hb).step fun _ t => XS.ifNo X.here hx rfl hd rfl ((if0 _ _).trans (teq hb).2) t
  · exact (kt hb).step fun _ t => XS.ifYes X.here hx rfl rfl hd rfl ((if0 _ _).trans (feq hb).2) ho rfl t
theorem w_lcmp_ne (X : Stand p l e R s m args below meth c T locs cells slots) (hx : p.tables.exec = Jvm.exec) {o : Int} {x y : Int64} {pc1 pcT pcF : Nat} (hd1 : Dc c.code pc .lcmp 1 pc1) (hd : Dj c.code pc1 (.ifCond .ne o) o pcT pcF) (kt : x ≠ y → Go p e below s Q C S (T.setTop (mkF m pcT Ls (rest)))) (kf : x = y → Go p e below s Q C S (T.setTop (mkF m pcF Ls (rest)))) : Go p e below s Q C S (T.setTop (mkF m pc Ls (.long y :: .long x :: rest))) := by
  obtain ⟨hd1, rfl⟩ := hd1
  refine Go.step (fun _ t => XS.lcmp X.here hx rfl hd1 rfl t) ?_
  exact w_if_ne X hx hd (fun q => kt (fun r => q ((lw_eq x y).mpr r))) (fun q => kf ((lw_eq x y).mp q))
theorem w_icmp_lt (X : Stand p l e R s m args below meth c T locs cells slots) (hx : p.tables.exec = Jvm.exec) {o : Int} {x y : Int32} {pcT pcF : Nat} (hd : Dj c.code pc (.if_icmp .lt o) o pcT pcF) (kt : x.toInt < y.toInt → Go p e below s Q C S (T.setTop (mkF m pcT Ls (rest)))) (kf : y.toInt ≤ x.toInt → Go p e below s Q C S (T.setTop (mkF m pcF Ls (rest)))) : Go p e below s Q C S (T.setTop (mkF m pc Ls (.int y :: .int x :: rest))) := by
  obtain ⟨hd, ho, rfl, rfl⟩ := hd
  by_cases hb : x < y
  · exact (kt (Int32.lt_iff_toInt_lt.mp hb)).step fun _ t => XS.icmpYes X.here hx rfl rfl hd rfl (tlt hb).1 ho rfl t
  · exact (kf (by rw [Int32.lt_iff_toInt_lt] at hb; omega)).step fun _ t => XS.icmpNo X.here hx rfl hd rfl (flt hb).1 t
theorem w_if_lt (X : Stand p l e R s m args below meth c T locs cells slots) (hx : p.tables.exec = Jvm.exec) {o : Int} {x : Int32} {pcT pcF : Nat} (hd : Dj c.code pc (.ifCond .lt o) o pcT pcF) (kt : x.toInt < 0 → Go p e below s Q C S (T.setTop (mkF m pcT Ls (rest)))) (kf : 0 ≤ x.toInt → Go p e below s Q C S (T.setTop (mkF m pcF Ls (rest)))) : Go p e below s Q C S (T.setTop (mkF m pc Ls (.int x :: rest))) := by
  obtain ⟨hd, ho, rfl, rfl⟩ := hd
  have e0 : (0 : Int32).toInt = 0 := rfl
  by_cases hb : x < (0 : Int32)
  · exact (kt (by rw [Int32.lt_iff_toInt_lt] at hb; omega)).step fun _ t => XS.ifYes X.here hx rfl rfl hd rfl ((if0 _ _).trans (tlt hb).1) ho rfl t
  · exact (kf (by rw [Int32.lt_iff_toInt_lt] at hb; omega)).step fun _ t => XS.ifNo X.here hx rfl hd rfl ((if0 _ _).trans (flt hb).1) t
theorem w_lcmp_lt (X : Stand p l e R s m args below meth c T locs cells slots) (hx : p.tables.exec = Jvm.exec) {o : Int} {x y : Int64} {pc1 pcT pcF : Nat} (hd1 : Dc c.code pc .lcmp 1 pc1) (hd : Dj c.code pc1 (.ifCond .lt o) o pcT pcF) (kt : x.toInt < y.toInt → Go p e below s Q C S (T.setTop (mkF m pcT Ls (rest)))) (kf : y.toInt ≤ x.toInt → Go p e below s Q C S (T.setTop (mkF m pcF Ls (rest)))) : Go p e below s Q C S (T.setTop (mkF m pc Ls (.long y :: .long x :: rest))) := by
  obtain ⟨hd1, rfl⟩ := hd1
  have e0 : (0 : Int32).toInt = 0 := rfl
  have L : (lcmpW x y).toInt < 0 → x.toInt < y.toInt := fun q => by have := (lw_lt x y).mp (by rw [Int32.lt_iff_toInt_lt]; omega); rwa [Int64.lt_iff_toInt_lt] at this
  have N : 0 ≤ (lcmpW x y).toInt → y.toInt ≤ x.toInt := fun q => by
    have h1 : ¬ x < y := fun r => by have := (lw_lt x y).mpr r; rw [Int32.lt_iff_toInt_lt] at this; omega
    rw [Int64.lt_iff_toInt_lt] at h1; omega
  have M : 0 < (lcmpW x y).toInt → y.toInt < x.toInt := fun q => by have := (lw_gt x y).mp (by rw [Int32.lt_iff_toInt_lt]; omega); rwa [Int64.lt_iff_toInt_lt] at this
  have P : (lcmpW x y).toInt ≤ 0 → x.toInt ≤ y.toInt := fun q => by
    have h1 : ¬ y < x := fun r => by have := (lw_gt x y).mpr r; rw [Int32.lt_iff_toInt_lt] at this; omega
    rw [Int64.lt_iff_toInt_lt] at h1; omega
  refine Go.step (fun _ t => XS.lcmp X.here hx rfl hd1 rfl t) ?_
  exact w_if_lt X hx hd (fun q => kt (L q)) (fun q => kf (N q))
theorem w_icmp_ge (X : Stand p l e R s m args below meth c T locs cells slots) (hx : p.tables.exec = Jvm.exec) {o : Int} {x y : Int32} {pcT pcF : Nat} (hd : Dj c.code pc (.if_icmp .ge o) o pcT pcF) (kt : y.toInt ≤ x.toInt → Go p e below s Q C S (T.setTop (mkF m pcT Ls (rest)))) (kf : x.toInt < y.toInt → Go p e below s Q C S (T.setTop (mkF m pcF Ls (rest)))) : Go p e below s Q C S (T.setTop (mkF m pc Ls (.int y :: .int x :: rest))) := by
  obtain ⟨hd, ho, rfl, rfl⟩ := hd
  by_cases hb : x < y
  · exact (kf (Int32.lt_iff_toInt_lt.mp hb)).step fun _ t => XS.icmpNo X.here hx rfl hd rfl (tlt hb).2.1 t
  · exact (kt (by rw [Int32.lt_iff_toInt_lt] at hb; omega)).step fun _ t => XS.icmpYes X.here hx rfl rfl hd rfl (flt hb).2.1 ho rfl t
theorem w_if_ge (X : Stand p l e R s m args below meth c T locs cells slots) (hx : p.tables.exec = Jvm.exec) {o : Int} {x : Int32} {pcT pcF : Nat} (hd : Dj c.code pc (.ifCond .ge o) o pcT pcF) (kt : 0 ≤ x.toInt → Go p e below s Q C S (T.setTop (mkF m pcT Ls (rest)))) (kf : x.toInt < 0 → Go p e below s Q C S (T.setTop (mkF m pcF Ls (rest)))) : Go p e below s Q C S (T.setTop (mkF m pc Ls (.int x :: rest))) := by
  obtain ⟨hd, ho, rfl, rfl⟩ := hd
  have e0 : (0 : Int32).toInt = 0 := rfl
  by_cases hb : x < (0 : Int32)
  · exact (kf (by rw [Int32.lt_iff_toInt_lt] at hb; omega)).step fun _ t => XS.ifNo X.here hx rfl hd rfl ((if0 _ _).trans (tlt hb).2.1) t
  · exact (kt (by rw [Int32.lt_iff_toInt_lt] at hb; omega)).step fun _ t => XS.ifYes X.here hx rfl rfl hd rfl ((if0 _ _).trans (flt hb).2.1) ho rfl t
theorem w_lcmp_ge (X : Stand p l e R s m args below meth c T locs cells slots) (hx : p.tables.exec = Jvm.exec) {o : Int} {x y : Int64} {pc1 pcT pcF : Nat} (hd1 : Dc c.code pc .lcmp 1 pc1) (hd : Dj c.code pc1 (.ifCond .ge o) o pcT pcF) (kt : y.toInt ≤ x.toInt → Go p e below s Q C S (T.setTop (mkF m pcT Ls (rest)))) (kf : x.toInt < y.toInt → Go p e below s Q C S (T.setTop (mkF m pcF Ls (rest)))) : Go p e below s Q C S (T.setTop (mkF m pc Ls (.long y :: .long x :: rest))) := by
  obtain ⟨hd1, rfl⟩ := hd1
  have e0 : (0 : Int32).toInt = 0 := rfl
  have L : (lcmpW x y).toInt < 0 → x.toInt < y.toInt := fun q => by have := (lw_lt x y).mp (by rw [Int32.lt_iff_toInt_lt]; omega); rwa [Int64.lt_iff_toInt_lt] at this
  have N : 0 ≤ (lcmpW x y).toInt → y.toInt ≤ x.toInt := fun q => by
    have h1 : ¬ x < y := fun r => by have := (lw_lt x y).mpr r; rw [Int32.lt_iff_toInt_lt] at this; omega
    rw [Int64.lt_iff_toInt_lt] at h1; omega
  have M : 0 < (lcmpW x y).toInt → y.toInt < x.toInt := fun q => by have := (lw_gt x y).mp (by rw [Int32.lt_iff_toInt_lt]; omega); rwa [Int64.lt_iff_toInt_lt] at this
  have P : (lcmpW x y).toInt ≤ 0 → x.toInt ≤ y.toInt := fun q => by
    have h1 : ¬ y < x := fun r => by have := (lw_gt x y).mpr r; rw [Int32.lt_iff_toInt_lt] at this; omega
    rw [Int64.lt_iff_toInt_lt] at h1; omega
  refine Go.step (fun _ t => XS.lcmp X.here hx rfl hd1 rfl t) ?_
  exact w_if_ge X hx hd (fun q => kt (N q)) (fun q => kf (L q))
theorem w_icmp_gt (X : Stand p l e R s m args below meth c T locs cells slots) (hx : p.tables.exec = Jvm.exec) {o : Int} {x y : Int32} {pcT pcF : Nat} (hd : Dj c.code pc (.if_icmp .gt o) o pcT pcF) (kt : y.toInt < x.toInt → Go p e below s Q C S (T.setTop (mkF m pcT Ls (rest)))) (kf : x.toInt ≤ y.toInt → Go p e below s Q C S (T.setTop (mkF m pcF Ls (rest)))) : Go p e below s Q C S (T.setTop (mkF m pc Ls (.int y :: .int x :: rest))) := by
  obtain ⟨hd, ho, rfl, rfl⟩ := hd
  by_cases hb : y < x
  · exact (kt (Int32.lt_iff_toInt_lt.mp hb)).step fun _ t => XS.icmpYes X.here hx rfl rfl hd rfl (tlt hb).2.2.1 ho rfl t
  · exact (kf (by rw [Int32.lt_iff_toInt_lt] at hb; omega)).step fun _ t => XS.icmpNo X.here hx rfl hd rfl (flt hb).2.2.1 t
theorem w_if_gt (X : Stand p l e R s m args below meth c T locs cells slots) (hx : p.tables.exec = Jvm.exec) {o : Int} {x : Int32} {pcT pcF : Nat} (hd : Dj c.code pc (.ifCond .gt o) o pcT pcF) (kt : 0 < x.toInt → Go p e below s Q C S (T.setTop (mkF m pcT Ls (rest)))) (kf : x.toInt ≤ 0 → Go p e below s Q C S (T.setTop (mkF m pcF Ls (rest)))) : Go p e below s Q C S (T.setTop (mkF m pc Ls (.int x :: rest))) := by
  obtain ⟨hd, ho, rfl, rfl⟩ := hd
  have e0 : (0 : Int32).toInt = 0 := rfl
  by_cases hb : (0 : Int32) < x
  · exact (kt (by rw [Int32.lt_iff_toInt_lt] at hb; omega)).step fun _ t => XS.ifYes X.here hx rfl rfl hd rfl ((if0 _ _).trans (tlt hb).2.2.1) ho rfl t
  · exact (kf (by rw [Int32.lt_iff_toInt_lt] at hb; omega)).step fun _ t => XS.ifNo X.here hx rfl hd rfl ((if0 _ _).trans (flt hb).2.2.1) t
theorem w_lcmp_gt (X : Stand p l e R s m args below meth c T locs cells slots) (hx : p.tables.exec = Jvm.exec) {o : Int} {x y : Int64} {pc1 pcT pcF : Nat} (hd1 : Dc c.code pc .lcmp 1 pc1) (hd : Dj c.code pc1 (.ifCond .gt o) o pcT pcF) (kt : y.toInt < x.toInt → Go p e below s Q C S (T.setTop (mkF m pcT Ls (rest)))) (kf : x.toInt ≤ y.toInt → Go p e below s Q C S (T.setTop (mkF m pcF Ls (rest)))) : Go p e below s Q C S (T.setTop (mkF m pc Ls (.long y :: .long x :: rest))) := by
  obtain ⟨hd1, rfl⟩ := hd1
  have e0 : (0 : Int32).toInt = 0 := rfl
  have L : (lcmpW x y).toInt < 0 → x.toInt < y.toInt := fun q => by have := (lw_lt x y).mp (by rw [Int32.lt_iff_toInt_lt]; omega); rwa [Int64.lt_iff_toInt_lt] at this
  have N : 0 ≤ (lcmpW x y).toInt → y.toInt ≤ x.toInt := fun q => by
    have h1 : ¬ x < y := fun r => by have := (lw_lt x y).mpr r; rw [Int32.lt_iff_toInt_lt] at this; omega
    rw [Int64.lt_iff_toInt_lt] at h1; omega
  have M : 0 < (lcmpW x y).toInt → y.toInt < x.toInt := fun q => by have := (lw_gt x y).mp (by rw [Int32.lt_iff_toInt_lt]; omega); rwa [Int64.lt_iff_toInt_lt] at this
  have P : (lcmpW x y).toInt ≤ 0 → x.toInt ≤ y.toInt := fun q => by
    have h1 : ¬ y < x := fun r => by have := (lw_gt x y).mpr r; rw [Int32.lt_iff_toInt_lt] at this; omega
    rw [Int64.lt_iff_toInt_lt] at h1; omega
  refine Go.step (fun _ t => XS.lcmp X.here hx rfl hd1 rfl t) ?_
  exact w_if_gt X hx hd (fun q => kt (M q)) (fun q => kf (P q))
theorem w_icmp_le (X : Stand p l e R s m args below meth c T locs cells slots) (hx : p.tables.exec = Jvm.exec) {o : Int} {x y : Int32} {pcT pcF : Nat} (hd : Dj c.code pc (.if_icmp .le o) o pcT pcF) (kt : x.toInt ≤ y.toInt → Go p e below s Q C S (T.setTop (mkF m pcT Ls (rest)))) (kf : y.toInt < x.toInt → Go p e below s Q C S (T.setTop (mkF m pcF Ls (rest)))) : Go p e below s Q C S (T.setTop (mkF m pc Ls (.int y :: .int x :: rest))) := by
  obtain ⟨hd, ho, rfl, rfl⟩ := hd
  by_cases hb : y < x
  · exact (kf (Int32.lt_iff_toInt_lt.mp hb)).step fun _ t => XS.icmpNo X.here hx rfl hd rfl (tlt hb).2.2.2 t
  · exact (kt (by rw [Int32.lt_iff_toInt_lt] at hb; omega)).step fun _ t => XS.icmpYes X.here hx rfl rfl hd rfl (flt hb).2.2.2 ho rfl t
theorem w_if_le (X : Stand p l e R s m args below meth c T locs cells slots) (hx : p.tables.exec = Jvm.exec) {o : Int} {x : Int32} {pcT pcF : Nat} (hd : Dj c.code pc (.ifCond .le o) o pcT pcF) (kt : x.toInt ≤ 0 → Go p e below s Q C S (T.setTop (mkF m pcT Ls (rest)))) (kf : 0 < x.toInt → Go p e below s Q C S (T.setTop (mkF m pcF Ls (rest)))) : Go p e below s Q C S (T.setTop (mkF m pc Ls (.int x :: rest))) := by
  obtain ⟨hd, ho, rfl, rfl⟩ := hd
  have e0 : (0 : Int32).toInt = 0 := rfl
  by_cases hb : (0 : Int32) < x
  · exact (kf (by rw [Int32.lt_iff_toInt_lt] at hb; omega)).step fun _ t => XS.ifNo X.here hx rfl hd rfl ((if0 _ _).trans (tlt hb).2.2.2) t
  · exact (kt (by rw [Int32.lt_iff_toInt_lt] at hb; omega)).step fun _ t => XS.ifYes X.here hx rfl rfl hd rfl ((if0 _ _).trans (flt hb).2.2.2) ho rfl t
theorem w_lcmp_le (X : Stand p l e R s m args below meth c T locs cells slots) (hx : p.tables.exec = Jvm.exec) {o : Int} {x y : Int64} {pc1 pcT pcF : Nat} (hd1 : Dc c.code pc .lcmp 1 pc1) (hd : Dj c.code pc1 (.ifCond .le o) o pcT pcF) (kt : x.toInt ≤ y.toInt → Go p e below s Q C S (T.setTop (mkF m pcT Ls (rest)))) (kf : y.toInt < x.toInt → Go p e below s Q C S (T.setTop (mkF m pcF Ls (rest)))) : Go p e below s Q C S (T.setTop (mkF m pc Ls (.long y :: .long x :: rest))) := by
  obtain ⟨hd1, rfl⟩ := hd1
  have e0 : (0 : Int32).toInt = 0 := rfl
  have L : (lcmpW x y).toInt < 0 → x.toInt < y.toInt := fun q => by have := (lw_lt x y).mp (by rw [Int32.lt_iff_toInt_lt]; omega); rwa [Int64.lt_iff_toInt_lt] at this
  have N : 0 ≤ (lcmpW x y).toInt → y.toInt ≤ x.toInt := fun q => by
    have h1 : ¬ x < y := fun r => by have := (lw_lt x y).mpr r; rw [Int32.lt_iff_toInt_lt] at this; omega
    rw [Int64.lt_iff_toInt_lt] at h1; omega
  have M : 0 < (lcmpW x y).toInt → y.toInt < x.toInt := fun q => by have := (lw_gt x y).mp (by rw [Int32.lt_iff_toInt_lt]; omega); rwa [Int64.lt_iff_toInt_lt] at this
  have P : (lcmpW x y).toInt ≤ 0 → x.toInt ≤ y.toInt := fun q => by
    have h1 : ¬ y < x := fun r => by have := (lw_gt x y).mpr r; rw [Int32.lt_iff_toInt_lt] at this; omega
    rw [Int64.lt_iff_toInt_lt] at h1; omega
  refine Go.step (fun _ t => XS.lcmp X.here hx rfl hd1 rfl t) ?_
  exact w_if_le X hx hd (fun q => kt (P q)) (fun q => kf (M q))
theorem w_acmp (X : Stand p l e R s m args below meth c T locs cells slots) (hx : p.tables.exec = Jvm.exec) {o : Int} {cd : ClassFile.ACond} {x y : Value} {pcT pcF : Nat} (hd : Dj c.code pc (.if_acmp cd o) o pcT pcF) (h1 : x.isRef = true) (h2 : y.isRef = true) {b : Bool} (hb : acV cd (decide (x = y)) = b) (k : Go p e below s Q C S (T.setTop (mkF m (if b = true then pcT else pcF) Ls rest))) : Go p e below s Q C S (T.setTop (mkF m pc Ls (y :: x :: rest))) := by
  obtain ⟨hd, ho, rfl, rfl⟩ := hd; subst hb; exact k.step fun _ t => Jvm.RoadKit.acmp X hx rfl h1 h2 rfl hd rfl rfl ho rfl t
theorem w_ifnullR (X : Stand p l e R s m args below meth c T locs cells slots) (hx : p.tables.exec = Jvm.exec) {o : Int} {b : Addr} {pcT pcF : Nat} (hd : Dj c.code pc (.ifnull o) o pcT pcF) (k : Go p e below s Q C S (T.setTop (mkF m pcF Ls rest))) : Go p e below s Q C S (T.setTop (mkF m pc Ls (.ref b :: rest))) := by
  obtain ⟨hd, -, -, rfl⟩ := hd; exact k.step fun _ t => XS.ifnullNo X.here hx rfl hd rfl t
/-! returns -/
theorem w_ret (X : Stand p l e R s m args below meth c T locs cells slots) (hx : p.tables.exec = Jvm.exec) (hret : meth.sig.returnType = none) (hlk : meth.locks = false) (hd : Dc c.code pc .return_ 1 pc') (hC : cells ≤ C) (hS : slots ≤ S) (hQ : Q none T.heap locs) : Go p e below s Q C S (T.setTop (mkF m pc Ls [])) := by
  obtain ⟨fs, hr, hrun, hended, hW, hsame⟩ := X.leave (v := none) (fun _ => rfl) hlk
  exact ⟨_, _, X.returnOut hx hret hd.1 hr, hrun, hended, _, _, rfl, hQ, ⟨_, rfl⟩, hW, hsame.mono hC hS⟩
theorem w_retI (X : Stand p l e R s m args below meth c T locs cells slots) (hx : p.tables.exec = Jvm.exec) (hret : meth.sig.returnType = some .int) (hlk : meth.locks = false) {z : Int32} (hd : Dc c.code pc .ireturn 1 pc') (hC : cells ≤ C) (hS : slots ≤ S) (hQ : Q (some (.int z)) T.heap locs) : Go p e below s Q C S (T.setTop (mkF m pc Ls (.int z :: rest))) := by
  obtain ⟨fs, hr, hrun, hended, hW, hsame⟩ := X.leave (v := some (.int z)) (fun h => by rw [hret] at h; cases h) hlk
  exact ⟨_, _, retOut X hx hret rfl (Or.inl ⟨rfl, Or.inl rfl, _, rfl⟩) hd.1 hr, hrun, hended, _, _, rfl, hQ, ⟨_, rfl⟩, hW, hsame.mono hC hS⟩
theorem w_retN (X : Stand p l e R s m args below meth c T locs cells slots) (hx : p.tables.exec = Jvm.exec) {t : FieldType} (hret : meth.sig.returnType = some t) (ht : t = .boolean ∨ t = .byte ∨ t = .char ∨ t = .short) (hlk : meth.locks = false) {z : Int32} (hd : Dc c.code pc .ireturn 1 pc') (hC : cells ≤ C) (hS : slots ≤ S) (hQ : Q (some (.int (nar t z))) T.heap locs) : Go p e below s Q C S (T.setTop (mkF m pc Ls (.int z :: rest))) := by
  obtain ⟨fs, hr, hrun, hended, hW, hsame⟩ := X.leave (v := some (.int (nar t z))) (fun h => by rw [hret] at h; cases h) hlk
  exact ⟨_, _, retN X hx hret ht hd.1 hr, hrun, hended, _, _, rfl, hQ, ⟨_, rfl⟩, hW, hsame.mono hC hS⟩
theorem w_retJ (X : Stand p l e R s m args below meth c T locs cells slots) (hx : p.tables.exec = Jvm.exec) (hret : meth.sig.returnType = some .long) (hlk : meth.locks = false) {z : Int64} (hd : Dc c.code pc .lreturn 1 pc') (hC : cells ≤ C) (hS : slots ≤ S) (hQ : Q (some (.long z)) T.heap locs) : Go p e below s Q C S (T.setTop (mkF m pc Ls (.long z :: rest))) := by
  obtain ⟨fs, hr, hrun, hended, hW, hsame⟩ := X.leave (v := some (.long z)) (fun h => by rw [hret] at h; cases h) hlk
  exact ⟨_, _, retOut X hx hret rfl (Or.inr (Or.inl ⟨rfl, rfl, _, rfl⟩)) hd.1 hr, hrun, hended, _, _, rfl, hQ, ⟨_, rfl⟩, hW, hsame.mono hC hS⟩
theorem w_retA (X : Stand p l e R s m args below meth c T locs cells slots) (hx : p.tables.exec = Jvm.exec) {t : FieldType} {a : Addr} (hret : meth.sig.returnType = some t) (ht : t.isReference = true) (hn : narrow t (.ref a) = .ref a) (hlk : meth.locks = false) (hd : Dc c.code pc .areturn 1 pc') (hC : cells ≤ C) (hS : slots ≤ S) (hQ : Q (some (.ref a)) T.heap locs) : Go p e below s Q C S (T.setTop (mkF m pc Ls (.ref a :: rest))) := by
  obtain ⟨fs, hr, hrun, hended, hW, hsame⟩ := X.leave (v := some (.ref a)) (fun h => by rw [hret] at h; cases h) hlk
  exact ⟨_, _, retOut X hx hret hn (Or.inr (Or.inr (Or.inr (Or.inr ⟨rfl, ht, rfl⟩)))) hd.1 hr, hrun, hended, _, _, rfl, hQ, ⟨_, rfl⟩, hW, hsame.mono hC hS⟩
/-! contracts -/
def Ct (l : Launch) (Z : State) (y : MethodName) (bytes : ByteArray) (maxL : Nat) (ret : Option FieldType) (rm : Room) (as' : Array Value) (h : Heap) (Q : Option Value → Heap → List Loc → Prop) : Prop :=
  MetFree l y (head1 [Jvm.Cond.code y bytes maxL ret] rm) (fun a U => a = as' ∧ Z.Warmed39 U.vm ∧ U.heap = h) (fun _ _ _ _ _ => True) (fun _ U o U' => ∃ v L, o = .returned v ∧ Q v U'.heap L ∧ FrameEnd U o U' L rm.cells rm.slots)
theorem w_body {y : MethodName} {bytes : ByteArray} {maxL : Nat} {ret : Option FieldType} {rm : Room} {as' : Array Value} {ws : List Jvm.Cond} (hp : plainFor y = true)
    (body : ∀ (p : Program) (e : Env) (s : State) (m : MethodId) (below : List Frame) (meth : Method) (c : Code) (T : State), Stand p l e rm s m as' below meth c T [] 0 0 → p.tables.exec = Jvm.exec → c.code = bytes → c.maxLocals = maxL → s.vm.findClass y.cls = some m.cls → meth.name = y.name → meth.sig.returnType = ret → meth.locks = false → Z.Warmed39 s.vm → T.heap = h → Go p e below s Q C S (T.setTop (entryFrame m as' maxL))) :
    MetFree l y (head1 (Jvm.Cond.code y bytes maxL ret :: ws) rm) (fun a U => a = as' ∧ Z.Warmed39 U.vm ∧ U.heap = h) (fun _ _ _ _ _ => True) (fun _ U o U' => ∃ v L, o = .returned v ∧ Q v U'.heap L ∧ FrameEnd U o U' L C S) := by
  refine MetFree.of_bodySF hp hisR ?_
  intro p e s m args below meth c s₁ Bd hml0 hP hK
  obtain ⟨rfl, hZ, hh⟩ := hP
  exact body p e s m below meth c s₁ (Stand.of_body Bd) Bd.exec Bd.bytes hml0 (findClass_of_methodNamed Bd.named) (name_of_methodNamed Bd.named Bd.method).1 Bd.returns Bd.notSynchronized hZ (by rw [← hh, Bd.state]; rfl)
theorem Ct.body {y : MethodName} {bytes : ByteArray} {maxL : Nat} {ret : Option FieldType} {rm : Room} {as' : Array Value} (hp : plainFor y = true)
    (body : ∀ (p : Program) (e : Env) (s : State) (m : MethodId) (below : List Frame) (meth : Method) (c : Code) (T : State), Stand p l e rm s m as' below meth c T [] 0 0 → p.tables.exec = Jvm.exec → c.code = bytes → c.maxLocals = maxL → s.vm.findClass y.cls = some m.cls → meth.name = y.name → meth.sig.returnType = ret → meth.locks = false → Z.Warmed39 s.vm → T.heap = h → Go p e below s Q rm.cells rm.slots (T.setTop (entryFrame m as' maxL))) :
    Ct l Z y bytes maxL ret rm as' h Q := w_body hp body
/-! calls -/
theorem w_callS (X : Stand p l e R s m args below meth c T locs cells slots) (hx : p.tables.exec = Jvm.exec) (hZ : Z.Warmed39 s.vm) (eT : T.heap = h) {kk : Nat} (hml : c.maxLocals = kk) (hkk : Ls.size = kk) {own : String} (hown : s.vm.findClass own = some m.cls) {index : Nat} {y : MethodName} {bytes : ByteArray} {maxL : Nat} {ret : Option FieldType} {rm : Room} {as' : Array Value} {Qc : Option Value → Heap → List Loc → Prop}
    (w1 : (Jvm.Cond.methodLink own index y).before a0 Z = true) (w2 : (Jvm.Cond.static y).before a0 Z = true) (w3 : (Jvm.Cond.initialized y.cls).before a0 Z = true) (w4 : (Jvm.Cond.code y bytes maxL ret).before a0 Z = true) (hy : y.cls ≠ "java/lang/invoke/MethodHandle" ∧ y.cls ≠ "java/lang/invoke/VarHandle")
    (hM : Ct l Z y bytes maxL ret rm as' h Qc) (hd : Dc c.code pc (.invokestatic index) 3 pc') {ps : List FieldType} {r : Option FieldType} (hpd : parseMethodDescriptor y.desc = some ⟨ps, r⟩) {argsL st rest : List Value} (has : argsL.toArray = as') (hst : st = argsL.reverse ++ rest) (hlen : argsL.length = ps.length) {W : Nat} (hW : (rest.map fun v => v.category).sum = W)
    (hf : rm.frames + 1 ≤ R.frames) (hl : W + (maxL + 11) + rm.locals ≤ R.locals) (hcl : cells + rm.cells ≤ R.cells) (hsl : slots + rm.slots ≤ R.slots)
    (k : ∀ (v : Option Value) (T' : State) (L : List Loc), Stand p l e R s m args below meth c T' (locs ++ L) (cells + rm.cells) (slots + rm.slots) → Qc v T'.heap L → Go p e below s Q C S (T'.setTop (mkF m pc' Ls (v.toList ++ rest)))) :
    Go p e below s Q C S (T.setTop (mkF m pc Ls st)) := by
  subst hst has hW
  obtain ⟨hd, rfl⟩ := hd
  obtain ⟨v, _, ⟨T', L', k', n'⟩, -, X', ⟨Lc, hQ, e1, e2, e3⟩, st⟩ := Jvm.LawKit.callS X hx (y := y) hown (mvT hZ w1) (mvT hZ w2) (mvT hZ w3) (mvT hZ w4) hy (backOf (W := (rest.map fun v => v.category).sum) hM hZ w4 w3 hf hl) (g := mkF m pc Ls (argsL.reverse ++ rest)) rfl (hkk.trans hml.symm) (argsL := argsL) (rest := rest) (lenOf hpd hlen) rfl (by show 2 * 0 + _ ≤ _; omega) hd (fun _ _ => ⟨rfl, eT, hcl, hsl⟩)
  dsimp only [Pt.U, Pt.locs, Pt.cells, Pt.slots] at X' e1 e2 e3 st hQ
  subst e1 e2 e3
  exact (k v T' Lc X' hQ).step st
theorem w_callV (X : Stand p l e R s m args below meth c T locs cells slots) (hx : p.tables.exec = Jvm.exec) (hZ : Z.Warmed39 s.vm) (eT : T.heap = h) {kk : Nat} (hml : c.maxLocals = kk) (hkk : Ls.size = kk) {own : String} (hown : s.vm.findClass own = some m.cls) {index : Nat} {y : MethodName} {bytes : ByteArray} {maxL : Nat} {ret : Option FieldType} {rm : Room} {as' : Array Value} {Qc : Option Value → Heap → List Loc → Prop}
    (w1 : (Jvm.Cond.methodLink own index y).before a0 Z = true) (w2 : (Jvm.Cond.declares y).before a0 Z = true) (w5 : (Jvm.Cond.selects y.cls y y).before a0 Z = true) (w6 : (Jvm.Cond.instanceMethod y).before a0 Z = true) (w3 : (Jvm.Cond.initialized y.cls).before a0 Z = true) (w4 : (Jvm.Cond.code y bytes maxL ret).before a0 Z = true) (hy : y.cls ≠ "java/lang/invoke/MethodHandle" ∧ y.cls ≠ "java/lang/invoke/VarHandle")
    (hM : Ct l Z y bytes maxL ret rm as' h Qc) {b : Addr} (E : Exa Z h b y.cls) (hd : Dc c.code pc (.invokevirtual index) 3 pc') {ps : List FieldType} {r : Option FieldType} (hpd : parseMethodDescriptor y.desc = some ⟨ps, r⟩) {argsL st rest : List Value} (has : (.ref b :: argsL).toArray = as') (hst : st = argsL.reverse ++ .ref b :: rest) (hlen : argsL.length = ps.length) {W : Nat} (hW : (rest.map fun v => v.category).sum = W)
    (hf : rm.frames + 1 ≤ R.frames) (hl : W + (maxL + 11) + rm.locals ≤ R.locals) (hcl : cells + rm.cells ≤ R.cells) (hsl : slots + rm.slots ≤ R.slots)
    (k : ∀ (v : Option Value) (T' : State) (L : List Loc), Stand p l e R s m args below meth c T' (locs ++ L) (cells + rm.cells) (slots + rm.slots) → Qc v T'.heap L → Go p e below s Q C S (T'.setTop (mkF m pc' Ls (v.toList ++ rest)))) :
    Go p e below s Q C S (T.setTop (mkF m pc Ls st)) := by
  subst hst has hW
  obtain ⟨hd, rfl⟩ := hd
  obtain ⟨cq, kq, qa, qb, qc⟩ := isOf hZ eT E
  obtain ⟨v, _, ⟨T', L', k', n'⟩, -, X', ⟨Lc, hQ, e1, e2, e3⟩, st⟩ := X.virtualBack hx (y := y) (z := y) hown (mvT hZ w1) (mvT hZ w2) (notFace_of_selects (args := #[]) (mvT hZ w5)) (mvT hZ w5) (mvT hZ w6) hy (backOf (W := (rest.map fun v => v.category).sum) hM hZ w4 w3 hf hl) qa qc (g := mkF m pc Ls (argsL.reverse ++ .ref b :: rest)) rfl (hkk.trans hml.symm) (Steps.refl _) (argsL := argsL) (rest := rest) (lenOf hpd hlen) rfl (by show 2 * 0 + _ ≤ _; omega) hd (fun _ _ => ⟨rfl, eT, hcl, hsl⟩)
  dsimp only [Pt.U, Pt.locs, Pt.cells, Pt.slots] at X' e1 e2 e3 st hQ
  subst e1 e2 e3
  exact (k v T' Lc X' hQ).step fun _ q => st.trans q
theorem w_callSP (X : Stand p l e R s m args below meth c T locs cells slots) (hx : p.tables.exec = Jvm.exec) (hZ : Z.Warmed39 s.vm) (eT : T.heap = h) {kk : Nat} (hml : c.maxLocals = kk) (hkk : Ls.size = kk) {own : String} (hown : s.vm.findClass own = some m.cls) {index : Nat} {y : MethodName} {bytes : ByteArray} {maxL : Nat} {ret : Option FieldType} {f lo : Nat} {as' : Array Value} {rv : Value}
    (w1 : (Jvm.Cond.methodLink own index y).before a0 Z = true) (w2 : (Jvm.Cond.static y).before a0 Z = true) (w3 : (Jvm.Cond.initialized y.cls).before a0 Z = true) (w4 : (Jvm.Cond.code y bytes maxL ret).before a0 Z = true) (hy : y.cls ≠ "java/lang/invoke/MethodHandle" ∧ y.cls ≠ "java/lang/invoke/VarHandle")
    (hM : Ct l Z y bytes maxL ret ({ frames := f, cells := 0, slots := 0, locals := lo } : Room) as' h (fun v h' L => v = some rv ∧ h' = h ∧ L = [])) (hd : Dc c.code pc (.invokestatic index) 3 pc') {ps : List FieldType} {r : Option FieldType} (hpd : parseMethodDescriptor y.desc = some ⟨ps, r⟩) {argsL st rest : List Value} (has : argsL.toArray = as') (hst : st = argsL.reverse ++ rest) (hlen : argsL.length = ps.length) {W : Nat} (hW : (rest.map fun v => v.category).sum = W)
    (hf : f + 1 ≤ R.frames) (hl : W + (maxL + 11) + lo ≤ R.locals) (hcl : cells ≤ R.cells) (hsl : slots ≤ R.slots)
    (k : ∀ T', Stand p l e R s m args below meth c T' locs cells slots → T'.heap = h → Go p e below s Q C S (T'.setTop (mkF m pc' Ls (rv :: rest)))) :
    Go p e below s Q C S (T.setTop (mkF m pc Ls st)) := by
  refine w_callS X hx hZ eT hml hkk hown w1 w2 w3 w4 hy hM hd hpd has hst hlen hW hf hl hcl hsl fun v T' L X' hQ => ?_
  obtain ⟨rfl, e', rfl⟩ := hQ
  rw [List.append_nil] at X'
  exact k T' X' e'
theorem w_callVP (X : Stand p l e R s m args below meth c T locs cells slots) (hx : p.tables.exec = Jvm.exec) (hZ : Z.Warmed39 s.vm) (eT : T.heap = h) {kk : Nat} (hml : c.maxLocals = kk) (hkk : Ls.size = kk) {own : String} (hown : s.vm.findClass own = some m.cls) {index : Nat} {y : MethodName} {bytes : ByteArray} {maxL : Nat} {ret : Option FieldType} {f lo : Nat} {as' : Array Value} {rv : Value}
    (w1 : (Jvm.Cond.methodLink own index y).before a0 Z = true) (w2 : (Jvm.Cond.declares y).before a0 Z = true) (w5 : (Jvm.Cond.selects y.cls y y).before a0 Z = true) (w6 : (Jvm.Cond.instanceMethod y).before a0 Z = true) (w3 : (Jvm.Cond.initialized y.cls).before a0 Z = true) (w4 : (Jvm.Cond.code y bytes maxL ret).before a0 Z = true) (hy : y.cls ≠ "java/lang/invoke/MethodHandle" ∧ y.cls ≠ "java/lang/invoke/VarHandle")
    (hM : Ct l Z y bytes maxL ret ({ frames := f, cells := 0, slots := 0, locals := lo } : Room) as' h (fun v h' L => v = some rv ∧ h' = h ∧ L = [])) {b : Addr} (E : Exa Z h b y.cls) (hd : Dc c.code pc (.invokevirtual index) 3 pc') {ps : List FieldType} {r : Option FieldType} (hpd : parseMethodDescriptor y.desc = some ⟨ps, r⟩) {argsL st rest : List Value} (has : (.ref b :: argsL).toArray = as') (hst : st = argsL.reverse ++ .ref b :: rest) (hlen : argsL.length = ps.length) {W : Nat} (hW : (rest.map fun v => v.category).sum = W)
    (hf : f + 1 ≤ R.frames) (hl : W + (maxL + 11) + lo ≤ R.locals) (hcl : cells ≤ R.cells) (hsl : slots ≤ R.slots)
    (k : ∀ T', Stand p l e R s m args below meth c T' locs cells slots → T'.heap = h → Go p e below s Q C S (T'.setTop (mkF m pc' Ls (rv :: rest)))) :
    Go p e below s Q C S (T.setTop (mkF m pc Ls st)) := by
  refine w_callV X hx hZ eT hml hkk hown w1 w2 w5 w6 w3 w4 hy hM E hd hpd has hst hlen hW hf hl hcl hsl fun v T' L X' hQ => ?_
  obtain ⟨rfl, e', rfl⟩ := hQ
  rw [List.append_nil] at X'
  exact k T' X' e'
theorem w_callI (X : Stand p l e R s m args below meth c T locs cells slots) (hx : p.tables.exec = Jvm.exec) (hZ : Z.Warmed39 s.vm) (eT : T.heap = h) {kk : Nat} (hml : c.maxLocals = kk) (hkk : Ls.size = kk) {own : String} (hown : s.vm.findClass own = some m.cls) {index : Nat} {y : MethodName} {bytes : ByteArray} {maxL : Nat} {rm : Room} {as' : Array Value} {Qc : Option Value → Heap → List Loc → Prop} (hy1 : y.name = "<init>")
    (w1 : (Jvm.Cond.methodLink own index y).before a0 Z = true) (w6 : (Jvm.Cond.instanceMethod y).before a0 Z = true) (w3 : (Jvm.Cond.initialized y.cls).before a0 Z = true) (w4 : (Jvm.Cond.code y bytes maxL none).before a0 Z = true) (hy : y.cls ≠ "java/lang/invoke/MethodHandle" ∧ y.cls ≠ "java/lang/invoke/VarHandle")
    (hM : Ct l Z y bytes maxL none rm as' h Qc) {b : Addr} (hd : Dc c.code pc (.invokespecial index) 3 pc') {ps : List FieldType} {r : Option FieldType} (hpd : parseMethodDescriptor y.desc = some ⟨ps, r⟩) {argsL st rest : List Value} (has : (.ref b :: argsL).toArray = as') (hst : st = argsL.reverse ++ .ref b :: rest) (hlen : argsL.length = ps.length) {W : Nat} (hW : (rest.map fun v => v.category).sum = W)
    (hf : rm.frames + 1 ≤ R.frames) (hl : W + (maxL + 11) + rm.locals ≤ R.locals) (hcl : cells + rm.cells ≤ R.cells) (hsl : slots + rm.slots ≤ R.slots)
    (k : ∀ (v : Option Value) (T' : State) (L : List Loc), Stand p l e R s m args below meth c T' (locs ++ L) (cells + rm.cells) (slots + rm.slots) → Qc v T'.heap L → Go p e below s Q C S (T'.setTop (mkF m pc' Ls (v.toList ++ rest)))) :
    Go p e below s Q C S (T.setTop (mkF m pc Ls st)) := by
  subst hst has hW
  obtain ⟨hd, rfl⟩ := hd
  obtain ⟨v, _, ⟨T', L', k', n'⟩, -, X', ⟨Lc, hQ, e1, e2, e3⟩, st⟩ := X.specialBack hx (y := y) hy1 hown (mvT hZ w1) (mvT hZ w6) (mvT hZ w4) hy (backOf (W := (rest.map fun v => v.category).sum) hM hZ w4 w3 hf hl) (g := mkF m pc Ls (argsL.reverse ++ .ref b :: rest)) rfl (hkk.trans hml.symm) (Steps.refl _) (a := b) (argsL := argsL) (rest := rest) (lenOf hpd hlen) rfl (by show 2 * 0 + _ ≤ _; omega) hd (fun _ _ => ⟨rfl, eT, hcl, hsl⟩)
  dsimp only [Pt.U, Pt.locs, Pt.cells, Pt.slots] at X' e1 e2 e3 st hQ
  subst e1 e2 e3
  exact (k v T' Lc X' hQ).step fun _ q => st.trans q
theorem w_objinit (X : Stand p l e R s m args below meth c T locs cells slots) (hx : p.tables.exec = Jvm.exec) (hZ : Z.Warmed39 s.vm) (eT : T.heap = h) {kk : Nat} (hml : c.maxLocals = kk) (hkk : Ls.size = kk) {own : String} (hown : s.vm.findClass own = some m.cls) {index : Nat}
    (w1 : (Jvm.Cond.methodLink own index Lib.objectInit).before a0 Z = true) (w2 : (Jvm.Cond.instanceMethod Lib.objectInit).before a0 Z = true) (w3 : (Jvm.Cond.code Lib.objectInit ⟨#[0xb1]⟩ 1 none).before a0 Z = true) (hd : Dc c.code pc (.invokespecial index) 3 pc') {a : Addr} (hf : 1 ≤ R.frames) {W : Nat} (hW : (rest.map fun v => v.category).sum = W) (hl : W + 12 ≤ R.locals)
    (k : ∀ T', Stand p l e R s m args below meth c T' locs cells slots → T'.heap = h → Go p e below s Q C S (T'.setTop (mkF m pc' Ls rest))) : Go p e below s Q C S (T.setTop (mkF m pc Ls (.ref a :: rest))) := by
  obtain ⟨hd, rfl⟩ := hd
  obtain ⟨T', X', e', st⟩ := initO X hx hZ hown w1 w2 w3 eT (g := mkF m pc Ls (.ref a :: rest)) rfl (hkk.trans hml.symm) rfl hd hf (W := W) (by show 2 * 0 + _ ≤ _; omega) hl
  exact (k T' X' e').step st
/-! fields -/
theorem w_getf (X : Stand p l e R s m args below meth c T locs cells slots) (hx : p.tables.exec = Jvm.exec) (hZ : Z.Warmed39 s.vm) (eT : T.heap = h) {own O n d : String} {index : Nat} (hown : s.vm.findClass own = some m.cls) (w : (Jvm.Cond.fieldLink own index O n d).before a0 Z = true) {a : Addr} {v : Value} (F : Fld Z h a O n d v) (hd : Dc c.code pc (.getfield index) 3 pc')
    (k : ∀ T', Stand p l e R s m args below meth c T' locs cells slots → T'.heap = h → Go p e below s Q C S (T'.setTop (mkF m pc' Ls (v :: rest)))) : Go p e below s Q C S (T.setTop (mkF m pc Ls (.ref a :: rest))) := by
  obtain ⟨hd, rfl⟩ := hd
  obtain ⟨T', X', e', st⟩ := getF X hx hZ hown (host := "") (Or.inl w) Via.refl eT F (g := mkF m pc Ls (.ref a :: rest)) rfl rfl hd
  exact (k T' X' e').step st
theorem w_putf (X : Stand p l e R s m args below meth c T locs cells slots) (hx : p.tables.exec = Jvm.exec) (hZ : Z.Warmed39 s.vm) (eT : T.heap = h) {own O n d : String} {index kk : Nat} {ty : FieldType} (hown : s.vm.findClass own = some m.cls) (w : (Jvm.Cond.fieldLink own index O n d).before a0 Z = true) {a : Addr} {v old : Value} (F : Fld Z h a O n d old) (E : Exa Z h a O) (L : (Jvm.Cond.lays O O n d).before a0 Z = true ∨ ((Jvm.Cond.laysFinal O O n d).before a0 Z = true ∧ own = O ∧ meth.name = "<init>")) (wi : (Jvm.Cond.instantiable O kk).before a0 Z = true)
    (hty : parseFieldDescriptor d = some ty) (hn : narrow ty v = v) (hf : fits ty v = true) (hd : Dc c.code pc (.putfield index) 3 pc')
    (k : ∀ T' h', Stand p l e R s m args below meth c T' (locs ++ [⟨a, Jvm.RoadKit.slotOf Z O n d⟩]) cells slots → T'.heap = h' → Wr h h' a (Jvm.RoadKit.slotOf Z O n d) v → Go p e below s Q C S (T'.setTop (mkF m pc' Ls rest))) : Go p e below s Q C S (T.setTop (mkF m pc Ls (v :: .ref a :: rest))) := by
  obtain ⟨hd, rfl⟩ := hd
  obtain ⟨T', h', X', e', W, st⟩ := putF X hx hZ hown (host := "") (Or.inl w) Via.refl eT F E L wi hty hn hf (g := mkF m pc Ls (v :: .ref a :: rest)) rfl rfl hd
  exact (k T' h' X' e' W).step st
theorem w_new (X : Stand p l e R s m args below meth c T locs cells slots) (hx : p.tables.exec = Jvm.exec) (hZ : Z.Warmed39 s.vm) (eT : T.heap = h) {own K : String} {index n : Nat} (hown : s.vm.findClass own = some m.cls) (w : (Jvm.Cond.classLink own index K).before a0 Z = true) (wi : (Jvm.Cond.instantiable K n).before a0 Z = true) (wz : (Jvm.Cond.initialized K).before a0 Z = true) (hd : Dc c.code pc (.new index) 3 pc') (hcl : cells + 1 ≤ R.cells) (hsl : slots + n ≤ R.slots)
    (k : ∀ T' h' b, b = h.size → Stand p l e R s m args below meth c T' locs (cells + 1) (slots + n) → T'.heap = h' → Ext h h' → Exa Z h' b K → (∀ {O nm d : String} {ty : FieldType}, Laid Z a0 K O nm d → parseFieldDescriptor d = some ty → Fld Z h' b O nm d (defaultValue ty)) → Go p e below s Q C S (T'.setTop (mkF m pc' Ls (.ref b :: rest)))) : Go p e below s Q C S (T.setTop (mkF m pc Ls rest)) := by
  obtain ⟨hd, rfl⟩ := hd
  obtain ⟨T', h', X', e', E, A, D, -, st⟩ := newO X hx hZ hown w wi wz eT (g := mkF m pc Ls rest) rfl hd hcl hsl
  exact (k T' h' _ rfl X' e' E A D).step st
/-! arrays: n places, place i holds f i -/
def AV (Z : State) (h : Heap) (a : Addr) (ty : FieldType) (n : Nat) (f : Nat → Value) : Prop := n < 2 ^ 31 ∧ ∃ cl : Cell, Arr Z h a cl ty ∧ cl.slots.size = n ∧ ∀ i, i < n → cl.slots[i]? = some (f i)
theorem AV.lt {a : Addr} {ty : FieldType} {n : Nat} {f : Nat → Value} (A : AV Z h a ty n f) : a < h.size := by obtain ⟨-, c, A, -⟩ := A; exact A.lt
theorem AV.ext {a : Addr} {ty : FieldType} {n : Nat} {f : Nat → Value} {h' : Heap} (A : AV Z h a ty n f) (E : Ext h h') : AV Z h' a ty n f := by obtain ⟨h1, c, A, r⟩ := A; exact ⟨h1, c, A.ext E, r⟩
theorem AV.other {a b : Addr} {ty : FieldType} {n sl : Nat} {v : Value} {f : Nat → Value} {h' : Heap} (A : AV Z h a ty n f) (W : Wr h h' b sl v) (q : a ≠ b) : AV Z h' a ty n f := by obtain ⟨h1, c, A, r⟩ := A; exact ⟨h1, c, A.other W q, r⟩
theorem AV.keep {a : Addr} {ty : FieldType} {n : Nat} {ws : List Addr} {f : Nat → Value} {h' : Heap} (A : AV Z h a ty n f) (K : Keep h h' ws) (q : a ∉ ws) : AV Z h' a ty n f := by obtain ⟨h1, c, A, r⟩ := A; exact ⟨h1, c, ⟨K.2.1 a c A.1 q, A.2⟩, r⟩
theorem AV.congr {a : Addr} {ty : FieldType} {n : Nat} {f g : Nat → Value} (A : AV Z h a ty n f) (q : ∀ i, i < n → f i = g i) : AV Z h a ty n g := by obtain ⟨h1, c, A, r1, r2⟩ := A; exact ⟨h1, c, A, r1, fun i hi => by rw [r2 i hi, q i hi]⟩
theorem av_idx {j : Int32} {i n : Nat} {cl : Cell} (hj : j.toInt = (i : Int)) (hi : i < n) (hc : cl.slots.size = n) : ¬ (j < 0 ∨ cl.slots.size ≤ j.toNatClampNeg) ∧ j.toNatClampNeg = i := by
  have e0 : (0 : Int32).toInt = 0 := rfl
  simp only [Int32.lt_iff_toInt_lt, Int32.toNatClampNeg, e0, hj, hc]; omega
def put (f : Nat → Value) (i : Nat) (v : Value) : Nat → Value := fun k => if k = i then v else f k
theorem put_at (f : Nat → Value) (i : Nat) (v : Value) : put f i v i = v := by simp [put]
theorem put_ne (f : Nat → Value) {i k : Nat} (v : Value) (q : k ≠ i) : put f i v k = f k := by simp [put, q]
theorem AV.same {a : Addr} {ty : FieldType} {n : Nat} {v : Value} {f : Nat → Value} {h' : Heap} {i : Nat} (A : AV Z h a ty n f) (hi : i < n) (W : Wr h h' a i v) : AV Z h' a ty n (put f i v) := by
  obtain ⟨h1, c, A, r1, r2⟩ := A
  refine ⟨h1, _, A.same W, by rw [sz_set]; exact r1, fun k hk => ?_⟩
  by_cases u : k = i
  · subst u; rw [put_at]; simp [Cell.setSlot, r1, hk]
  · rw [put_ne _ _ u]; simp only [Cell.setSlot]; rw [Array.getElem?_setIfInBounds_ne (Ne.symm u)]; exact r2 k hk
theorem w_newarr (X : Stand p l e R s m args below meth c T locs cells slots) (hx : p.tables.exec = Jvm.exec) (hZ : Z.Warmed39 s.vm) (eT : T.heap = h) {aty : ArrayType} (w : (Jvm.Cond.arrayClass (newarray.typeOf aty)).before a0 Z = true) (hd : Dc c.code pc (.newarray aty) 2 pc') {z : Int32} {n cap : Nat} (hz : z.toInt = (n : Int)) (hcap : n ≤ cap) (hb : cap * 8 ≤ 536870912) (hcl : cells + 1 ≤ R.cells) (hsl : slots + cap ≤ R.slots)
    (k : ∀ T' h' b, b = h.size → Stand p l e R s m args below meth c T' locs (cells + 1) (slots + cap) → T'.heap = h' → Ext h h' → AV Z h' b (newarray.typeOf aty) n (fun _ => defaultValue (newarray.typeOf aty)) → Go p e below s Q C S (T'.setTop (mkF m pc' Ls (.ref b :: rest)))) : Go p e below s Q C S (T.setTop (mkF m pc Ls (.int z :: rest))) := by
  obtain ⟨hd, rfl⟩ := hd
  have e0 : (0 : Int32).toInt = 0 := rfl
  have hn : ¬ z < 0 := by rw [Int32.lt_iff_toInt_lt]; omega
  have en : z.toNatClampNeg = n := by simp only [Int32.toNatClampNeg]; omega
  have hlt := Int32.toInt_lt z
  obtain ⟨T', h', cA, X', e', E, A, st⟩ := newP X hx hZ w eT (g := mkF m pc Ls (.int z :: rest)) rfl hd rfl hn (cap := cap) (by omega) hb hcl hsl
  refine (k T' h' _ rfl X' e' E ⟨by omega, _, A, by rw [sz_new]; exact en, fun i hi => ?_⟩).step st
  simp [newA, en, hi]
theorem w_arrlen (X : Stand p l e R s m args below meth c T locs cells slots) (hx : p.tables.exec = Jvm.exec) (hZ : Z.Warmed39 s.vm) (eT : T.heap = h) {a : Addr} {ty : FieldType} {n : Nat} {f : Nat → Value} (A : AV Z h a ty n f) {z : Int32} (hz : z.toInt = (n : Int)) (hd : Dc c.code pc .arraylength 1 pc') (k : Go p e below s Q C S (T.setTop (mkF m pc' Ls (.int z :: rest)))) : Go p e below s Q C S (T.setTop (mkF m pc Ls (.ref a :: rest))) := by
  obtain ⟨hd, rfl⟩ := hd
  obtain ⟨h1, c, A, r1, -⟩ := A
  have ez : z = c.slots.size.toInt32 := Int32.toInt_inj.mp (by rw [len_toInt (by omega), hz, r1])
  subst ez
  exact k.step fun t q => X.arraylength hx (by rw [eT]; exact A.1) (State.isArrayOf_alike hZ.alike A.2.1) (g := mkF m pc Ls (.ref a :: rest)) rfl rfl hd t q
def iF (g : Nat → Int32) : Nat → Value := fun k => .int (g k)
def lF (g : Nat → Int64) : Nat → Value := fun k => .long (g k)
def upd {α : Type} (g : Nat → α) (i : Nat) (v : α) : Nat → α := fun k => if k = i then v else g k
theorem upd_at {α : Type} (g : Nat → α) (i : Nat) (v : α) : upd g i v i = v := by simp [upd]
theorem upd_ne {α : Type} (g : Nat → α) {i k : Nat} (v : α) (q : k ≠ i) : upd g i v k = g k := by simp [upd, q]
theorem put_iF (g : Nat → Int32) (i : Nat) (v : Int32) : put (iF g) i (.int v) = iF (upd g i v) := by funext k; simp only [put, iF, upd]; split <;> rfl
theorem put_lF (g : Nat → Int64) (i : Nat) (v : Int64) : put (lF g) i (.long v) = lF (upd g i v) := by funext k; simp only [put, lF, upd]; split <;> rfl
theorem w_baload (X : Stand p l e R s m args below meth c T locs cells slots) (hx : p.tables.exec = Jvm.exec) (hZ : Z.Warmed39 s.vm) (eT : T.heap = h) {a : Addr} {n : Nat} {g : Nat → Int32} (A : AV Z h a .byte n (iF g)) {j : Int32} {i : Nat} (hj : j.toInt = (i : Int)) (hi : i < n) {z : Int32} (hv : g i = z) (hd : Dc c.code pc .baload 1 pc') (k : Go p e below s Q C S (T.setTop (mkF m pc' Ls (.int z :: rest)))) : Go p e below s Q C S (T.setTop (mkF m pc Ls (.int j :: .ref a :: rest))) := by
  obtain ⟨hd, rfl⟩ := hd
  subst hv
  obtain ⟨h1, cl, A, r1, r2⟩ := A
  obtain ⟨q1, q2⟩ := av_idx hj hi r1
  exact k.step fun t q => X.baloadBytes hx (by rw [eT]; exact A.1) (State.isArrayOf_alike hZ.alike A.2.1) A.2.2 q1 (by rw [q2, r2 i hi]; rfl) (g := mkF m pc Ls (.int j :: .ref a :: rest)) rfl rfl hd t q
theorem w_iaload (X : Stand p l e R s m args below meth c T locs cells slots) (hx : p.tables.exec = Jvm.exec) (hZ : Z.Warmed39 s.vm) (eT : T.heap = h) {a : Addr} {n : Nat} {g : Nat → Int32} (A : AV Z h a .int n (iF g)) {j : Int32} {i : Nat} (hj : j.toInt = (i : Int)) (hi : i < n) {z : Int32} (hv : g i = z) (hd : Dc c.code pc .iaload 1 pc') (k : Go p e below s Q C S (T.setTop (mkF m pc' Ls (.int z :: rest)))) : Go p e below s Q C S (T.setTop (mkF m pc Ls (.int j :: .ref a :: rest))) := by
  obtain ⟨hd, rfl⟩ := hd
  subst hv
  obtain ⟨h1, cl, A, r1, r2⟩ := A
  obtain ⟨q1, q2⟩ := av_idx hj hi r1
  exact k.step fun t q => X.iaload hx (by rw [eT]; exact A.1) (State.isArrayOf_alike hZ.alike A.2.1) A.2.2 q1 (by rw [q2, r2 i hi]; rfl) (g := mkF m pc Ls (.int j :: .ref a :: rest)) rfl rfl hd t q
theorem w_laload (X : Stand p l e R s m args below meth c T locs cells slots) (hx : p.tables.exec = Jvm.exec) (hZ : Z.Warmed39 s.vm) (eT : T.heap = h) {a : Addr} {n : Nat} {g : Nat → Int64} (A : AV Z h a .long n (lF g)) {j : Int32} {i : Nat} (hj : j.toInt = (i : Int)) (hi : i < n) {z : Int64} (hv : g i = z) (hd : Dc c.code pc .laload 1 pc') (k : Go p e below s Q C S (T.setTop (mkF m pc' Ls (.long z :: rest)))) : Go p e below s Q C S (T.setTop (mkF m pc Ls (.int j :: .ref a :: rest))) := by
  obtain ⟨hd, rfl⟩ := hd
  subst hv
  obtain ⟨h1, cl, A, r1, r2⟩ := A
  obtain ⟨q1, q2⟩ := av_idx hj hi r1
  exact k.step fun t q => X.laload hx (by rw [eT]; exact A.1) (State.isArrayOf_alike hZ.alike A.2.1) A.2.2 q1 (by rw [q2, r2 i hi]; rfl) (g := mkF m pc Ls (.int j :: .ref a :: rest)) rfl rfl hd t q
theorem w_zaload (X : Stand p l e R s m args below meth c T locs cells slots) (hx : p.tables.exec = Jvm.exec) (hZ : Z.Warmed39 s.vm) (eT : T.heap = h) {a : Addr} {n : Nat} {g : Nat → Int32} (A : AV Z h a .boolean n (iF g)) {j : Int32} {i : Nat} (hj : j.toInt = (i : Int)) (hi : i < n) {z : Int32} (hv : g i = z) (hd : Dc c.code pc .baload 1 pc') (k : Go p e below s Q C S (T.setTop (mkF m pc' Ls (.int z :: rest)))) : Go p e below s Q C S (T.setTop (mkF m pc Ls (.int j :: .ref a :: rest))) := by
  obtain ⟨hd, rfl⟩ := hd
  subst hv
  obtain ⟨h1, cl, A, r1, r2⟩ := A
  obtain ⟨q1, q2⟩ := av_idx hj hi r1
  exact k.step fun t q => X.baloadBooleans hx (by rw [eT]; exact A.1) (State.isArrayOf_alike hZ.alike A.2.1) A.2.2 q1 (by rw [q2, r2 i hi]; rfl) (g := mkF m pc Ls (.int j :: .ref a :: rest)) rfl rfl hd t q
theorem w_bastore (X : Stand p l e R s m args below meth c T locs cells slots) (hx : p.tables.exec = Jvm.exec) (hZ : Z.Warmed39 s.vm) (eT : T.heap = h) {a : Addr} {n : Nat} {g : Nat → Int32} (A : AV Z h a .byte n (iF g)) {j : Int32} {x : Int32} {i : Nat} (hj : j.toInt = (i : Int)) (hi : i < n) (hd : Dc c.code pc .bastore 1 pc')
    (k : ∀ T' h', Stand p l e R s m args below meth c T' (locs ++ [⟨a, i⟩]) cells slots → T'.heap = h' → Wr h h' a i (.int (x.toInt8.toInt32)) → AV Z h' a .byte n (iF (upd g i (x.toInt8.toInt32))) → Go p e below s Q C S (T'.setTop (mkF m pc' Ls rest))) : Go p e below s Q C S (T.setTop (mkF m pc Ls (.int x :: .int j :: .ref a :: rest))) := by
  obtain ⟨hd, rfl⟩ := hd
  have A' := A
  obtain ⟨h1, cl, A, r1, r2⟩ := A
  obtain ⟨q1, q2⟩ := av_idx hj hi r1
  obtain ⟨T', h', X', e', W, st⟩ := stB X hx hZ eT A (j := j) q1 (g := mkF m pc Ls (.int x :: .int j :: .ref a :: rest)) rfl rfl hd
  rw [q2] at X' W
  exact (k T' h' X' e' W (put_iF g i _ ▸ A'.same hi W)).step st
theorem w_zastore (X : Stand p l e R s m args below meth c T locs cells slots) (hx : p.tables.exec = Jvm.exec) (hZ : Z.Warmed39 s.vm) (eT : T.heap = h) {a : Addr} {n : Nat} {g : Nat → Int32} (A : AV Z h a .boolean n (iF g)) {j : Int32} {x : Int32} {i : Nat} (hj : j.toInt = (i : Int)) (hi : i < n) (hd : Dc c.code pc .bastore 1 pc')
    (k : ∀ T' h', Stand p l e R s m args below meth c T' (locs ++ [⟨a, i⟩]) cells slots → T'.heap = h' → Wr h h' a i (.int (x &&& 1)) → AV Z h' a .boolean n (iF (upd g i (x &&& 1))) → Go p e below s Q C S (T'.setTop (mkF m pc' Ls rest))) : Go p e below s Q C S (T.setTop (mkF m pc Ls (.int x :: .int j :: .ref a :: rest))) := by
  obtain ⟨hd, rfl⟩ := hd
  have A' := A
  obtain ⟨h1, cl, A, r1, r2⟩ := A
  obtain ⟨q1, q2⟩ := av_idx hj hi r1
  obtain ⟨T', h', X', e', W, st⟩ := stZ X hx hZ eT A (j := j) q1 (g := mkF m pc Ls (.int x :: .int j :: .ref a :: rest)) rfl rfl hd
  rw [q2] at X' W
  exact (k T' h' X' e' W (put_iF g i _ ▸ A'.same hi W)).step st
theorem w_iastore (X : Stand p l e R s m args below meth c T locs cells slots) (hx : p.tables.exec = Jvm.exec) (hZ : Z.Warmed39 s.vm) (eT : T.heap = h) {a : Addr} {n : Nat} {g : Nat → Int32} (A : AV Z h a .int n (iF g)) {j : Int32} {x : Int32} {i : Nat} (hj : j.toInt = (i : Int)) (hi : i < n) (hd : Dc c.code pc .iastore 1 pc')
    (k : ∀ T' h', Stand p l e R s m args below meth c T' (locs ++ [⟨a, i⟩]) cells slots → T'.heap = h' → Wr h h' a i (.int (x)) → AV Z h' a .int n (iF (upd g i (x))) → Go p e below s Q C S (T'.setTop (mkF m pc' Ls rest))) : Go p e below s Q C S (T.setTop (mkF m pc Ls (.int x :: .int j :: .ref a :: rest))) := by
  obtain ⟨hd, rfl⟩ := hd
  have A' := A
  obtain ⟨h1, cl, A, r1, r2⟩ := A
  obtain ⟨q1, q2⟩ := av_idx hj hi r1
  obtain ⟨T', h', X', e', W, st⟩ := stI X hx hZ eT A (j := j) q1 (g := mkF m pc Ls (.int x :: .int j :: .ref a :: rest)) rfl rfl hd
  rw [q2] at X' W
  exact (k T' h' X' e' W (put_iF g i _ ▸ A'.same hi W)).step st
theorem w_lastore (X : Stand p l e R s m args below meth c T locs cells slots) (hx : p.tables.exec = Jvm.exec) (hZ : Z.Warmed39 s.vm) (eT : T.heap = h) {a : Addr} {n : Nat} {g : Nat → Int64} (A : AV Z h a .long n (lF g)) {j : Int32} {x : Int64} {i : Nat} (hj : j.toInt = (i : Int)) (hi : i < n) (hd : Dc c.code pc .lastore 1 pc')
    (k : ∀ T' h', Stand p l e R s m args below meth c T' (locs ++ [⟨a, i⟩]) cells slots → T'.heap = h' → Wr h h' a i (.long (x)) → AV Z h' a .long n (lF (upd g i (x))) → Go p e below s Q C S (T'.setTop (mkF m pc' Ls rest))) : Go p e below s Q C S (T.setTop (mkF m pc Ls (.long x :: .int j :: .ref a :: rest))) := by
  obtain ⟨hd, rfl⟩ := hd
  have A' := A
  obtain ⟨h1, cl, A, r1, r2⟩ := A
  obtain ⟨q1, q2⟩ := av_idx hj hi r1
  obtain ⟨T', h', X', e', W, st⟩ := stJ X hx hZ eT A (j := j) q1 (g := mkF m pc Ls (.long x :: .int j :: .ref a :: rest)) rfl rfl hd
  rw [q2] at X' W
  exact (k T' h' X' e' W (put_lF g i _ ▸ A'.same hi W)).step st
end Kit
section Num
/-! numbers: an int's or a long's unsigned worth -/
def u32 (x : Int32) : Nat := x.toBitVec.toNat
def u64 (x : Int64) : Nat := x.toBitVec.toNat
theorem u32_lt (x : Int32) : u32 x < 4294967296 := x.toBitVec.isLt
theorem u64_lt (x : Int64) : u64 x < 18446744073709551616 := x.toBitVec.isLt
theorem i_u32 (x : Int32) : x.toInt = if u32 x < 2147483648 then (u32 x : Int) else (u32 x : Int) - 4294967296 := by
  show x.toBitVec.toInt = _
  rw [BitVec.toInt_eq_toNat_cond]; unfold u32; split <;> split <;> omega
theorem i_u64 (x : Int64) : x.toInt = if u64 x < 9223372036854775808 then (u64 x : Int) else (u64 x : Int) - 18446744073709551616 := by
  show x.toBitVec.toInt = _
  rw [BitVec.toInt_eq_toNat_cond]; unfold u64; split <;> split <;> omega
theorem u32_i (x : Int32) : (u32 x : Int) = x.toInt % 4294967296 := by have := u32_lt x; rw [i_u32]; split <;> omega
theorem u64_i (x : Int64) : (u64 x : Int) = x.toInt % 18446744073709551616 := by have := u64_lt x; rw [i_u64]; split <;> omega
theorem u32_inj {x y : Int32} (q : u32 x = u32 y) : x = y := Int32.toBitVec_inj.mp (BitVec.eq_of_toNat_eq q)
theorem u64_inj {x y : Int64} (q : u64 x = u64 y) : x = y := Int64.toBitVec_inj.mp (BitVec.eq_of_toNat_eq q)
theorem i32_inj {x y : Int32} (q : x.toInt = y.toInt) : x = y := Int32.toInt_inj.mp q
theorem i64_inj {x y : Int64} (q : x.toInt = y.toInt) : x = y := Int64.toInt_inj.mp q
theorem i32_ne {x y : Int32} (q : x ≠ y) : x.toInt ≠ y.toInt := fun e => q (Int32.toInt_inj.mp e)
theorem i64_ne {x y : Int64} (q : x ≠ y) : x.toInt ≠ y.toInt := fun e => q (Int64.toInt_inj.mp e)
theorem i_rng32 (x : Int32) : -2147483648 ≤ x.toInt ∧ x.toInt ≤ 2147483647 := by have := u32_lt x; rw [i_u32]; split <;> omega
theorem i_rng64 (x : Int64) : -9223372036854775808 ≤ x.toInt ∧ x.toInt ≤ 9223372036854775807 := by have := u64_lt x; rw [i_u64]; split <;> omega
theorem u32_and (x m : Int32) {k : Nat} (hm : u32 m = 2 ^ k - 1) : u32 (x &&& m) = u32 x % 2 ^ k := by
  unfold u32 at *; rw [Int32.toBitVec_and, BitVec.toNat_and, hm, Nat.and_two_pow_sub_one_eq_mod]
theorem u64_and (x m : Int64) {k : Nat} (hm : u64 m = 2 ^ k - 1) : u64 (x &&& m) = u64 x % 2 ^ k := by
  unfold u64 at *; rw [Int64.toBitVec_and, BitVec.toNat_and, hm, Nat.and_two_pow_sub_one_eq_mod]
theorem and_or64 (x y z : Int64) : x &&& (y ||| z) = (x &&& y) ||| (x &&& z) := by
  apply Int64.toBitVec_inj.mp
  simp only [Int64.toBitVec_and, Int64.toBitVec_or]
  exact BitVec.and_or_distrib_left
theorem or_add {a b : Nat} (k : Nat) (ha : a % 2 ^ k = 0) (hb : b < 2 ^ k) : a ||| b = a + b := by
  obtain ⟨q, rfl⟩ := Nat.dvd_of_mod_eq_zero ha
  exact (Nat.two_pow_add_eq_or_of_lt hb q).symm
theorem u32_or {x y : Int32} (k : Nat) (ha : u32 x % 2 ^ k = 0) (hb : u32 y < 2 ^ k) : u32 (x ||| y) = u32 x + u32 y := by
  unfold u32 at *; rw [Int32.toBitVec_or, BitVec.toNat_or, or_add k ha hb]
theorem u64_or {x y : Int64} (k : Nat) (ha : u64 x % 2 ^ k = 0) (hb : u64 y < 2 ^ k) : u64 (x ||| y) = u64 x + u64 y := by
  unfold u64 at *; rw [Int64.toBitVec_or, BitVec.toNat_or, or_add k ha hb]
theorem u32_add (x y : Int32) : u32 (x + y) = (u32 x + u32 y) % 4294967296 := by unfold u32; rw [Int32.toBitVec_add, BitVec.toNat_add]
theorem u64_add (x y : Int64) : u64 (x + y) = (u64 x + u64 y) % 18446744073709551616 := by unfold u64; rw [Int64.toBitVec_add, BitVec.toNat_add]
theorem i_ofNat {k : Nat} (hk : k < 2147483648) : (Int32.ofNat k).toInt = (k : Int) := Int32.toInt_ofNat_of_lt (by omega)
theorem of_i {y : Int32} {k : Nat} (q : y.toInt = (k : Int)) : y = Int32.ofNat k := by
  have := i_rng32 y
  exact Int32.toInt_inj.mp (by rw [i_ofNat (by omega)]; exact q)
theorem sh64a : ∀ k : Fin 64, (((Int32.ofNat k.val &&& 0x3f).toInt64).toBitVec.smod 64).toNat = k.val := by decide +kernel
theorem sh64b : ∀ k : Fin 64, ((Int32.ofNat k.val &&& 0x3f).toInt64.toUInt64.toBitVec % 64).toNat = k.val := by decide +kernel
theorem sh32a : ∀ k : Fin 32, ((Int32.ofNat k.val &&& 31).toBitVec.smod 32).toNat = k.val := by decide +kernel
theorem sh32b : ∀ k : Fin 32, ((Int32.ofNat k.val &&& 31).toUInt32.toBitVec % 32).toNat = k.val := by decide +kernel
theorem u_lshl (x : Int64) {y : Int32} {k : Nat} (q : y.toInt = (k : Int)) (hk : k < 64) : u64 (LShl x y) = u64 x * 2 ^ k % 18446744073709551616 := by
  have e := sh64a ⟨k, hk⟩
  rw [of_i q]; unfold u64 LShl
  rw [Int64.toBitVec_shiftLeft, BitVec.shiftLeft_eq', e, BitVec.toNat_shiftLeft, Nat.shiftLeft_eq]
theorem i_lshr (x : Int64) {y : Int32} {k : Nat} (q : y.toInt = (k : Int)) (hk : k < 64) : (LShr x y).toInt = x.toInt / 2 ^ k := by
  have e := sh64a ⟨k, hk⟩
  rw [of_i q]; unfold LShr
  exact Jvm.Kit.i64_shr x _ e
theorem u_lushr (x : Int64) {y : Int32} {k : Nat} (q : y.toInt = (k : Int)) (hk : k < 64) : u64 (LUshr x y) = u64 x / 2 ^ k := by
  have e := sh64b ⟨k, hk⟩
  rw [of_i q]; unfold u64 LUshr
  show (x.toUInt64 >>> (Int32.ofNat k &&& 0x3f).toInt64.toUInt64).toBitVec.toNat = _
  rw [UInt64.toBitVec_shiftRight, BitVec.ushiftRight_eq', e, BitVec.toNat_ushiftRight, Nat.shiftRight_eq_div_pow]; rfl
theorem u_ishl (x : Int32) {y : Int32} {k : Nat} (q : y.toInt = (k : Int)) (hk : k < 32) : u32 (IShl x y) = u32 x * 2 ^ k % 4294967296 := by
  have e := sh32a ⟨k, hk⟩
  rw [of_i q]; unfold u32 IShl
  rw [Int32.toBitVec_shiftLeft, BitVec.shiftLeft_eq', e, BitVec.toNat_shiftLeft, Nat.shiftLeft_eq]
theorem i_ishr (x : Int32) {y : Int32} {k : Nat} (q : y.toInt = (k : Int)) (hk : k < 32) : (IShr x y).toInt = x.toInt / 2 ^ k := by
  have e := sh32a ⟨k, hk⟩
  rw [of_i q]; unfold IShr
  exact Jvm.Kit.i32_shr x _ e
theorem u_iushr (x : Int32) {y : Int32} {k : Nat} (q : y.toInt = (k : Int)) (hk : k < 32) : u32 (IUshr x y) = u32 x / 2 ^ k := by
  have e := sh32b ⟨k, hk⟩
  rw [of_i q]; unfold u32 IUshr
  show (x.toUInt32 >>> (Int32.ofNat k &&& 31).toUInt32).toBitVec.toNat = _
  rw [UInt32.toBitVec_shiftRight, BitVec.ushiftRight_eq', e, BitVec.toNat_ushiftRight, Nat.shiftRight_eq_div_pow]; rfl
theorem i_i2l (x : Int32) : x.toInt64.toInt = x.toInt := Int32.toInt_toInt64 x
theorem u_l2i (x : Int64) : u32 x.toInt32 = u64 x % 4294967296 := by
  have h1 := u32_i x.toInt32; have h2 := u64_i x
  have e : x.toInt.bmod (2 ^ 32) % 4294967296 = x.toInt % 4294967296 := Int.bmod_emod
  rw [Int64.toInt_toInt32, e] at h1
  omega
theorem i_i2b (x : Int32) : x.toInt8.toInt32.toInt = if x.toInt % 256 < 128 then x.toInt % 256 else x.toInt % 256 - 256 := by
  rw [Int8.toInt_toInt32, Int32.toInt_toInt8, Int.bmod_def]; split <;> split <;> omega
theorem u_i2b (x : Int32) : u32 x.toInt8.toInt32 % 256 = u32 x % 256 := by
  have h1 := u32_i x.toInt8.toInt32; have h2 := u32_i x; rw [i_i2b] at h1; split at h1 <;> omega
end Num
theorem d0_0 : Dc code 0 (.iload_n 0) 1 1 := ⟨at_0, rfl⟩
theorem d0_1 : Dc code 1 (.ldc 7) 2 3 := ⟨at_1, rfl⟩
theorem d0_3 : Dc code 3 (.iand) 1 4 := ⟨at_3, rfl⟩
theorem d0_4 : Dc code 4 (.iconst 5) 1 5 := ⟨at_4, rfl⟩
theorem d0_5 : Dc code 5 (.irem) 1 6 := ⟨at_5, rfl⟩
theorem d0_6 : Dc code 6 (.istore 7) 2 8 := ⟨at_6, rfl⟩
theorem d0_8 : Dc code 8 (.lload_n 1) 1 9 := ⟨at_8, rfl⟩
theorem d0_9 : Dc code 9 (.l2i) 1 10 := ⟨at_9, rfl⟩
theorem d0_10 : Dc code 10 (.istore 8) 2 12 := ⟨at_10, rfl⟩
theorem d0_12 : Dc code 12 (.lload_n 1) 1 13 := ⟨at_12, rfl⟩
theorem d0_13 : Dc code 13 (.bipush 32) 2 15 := ⟨at_13, rfl⟩
theorem d0_15 : Dc code 15 (.lushr) 1 16 := ⟨at_15, rfl⟩
theorem d0_16 : Dc code 16 (.l2i) 1 17 := ⟨at_16, rfl⟩
theorem d0_17 : Dc code 17 (.istore 9) 2 19 := ⟨at_17, rfl⟩
theorem d0_19 : Dc code 19 (.lload_n 3) 1 20 := ⟨at_19, rfl⟩
theorem d0_20 : Dc code 20 (.l2i) 1 21 := ⟨at_20, rfl⟩
theorem d0_21 : Dc code 21 (.istore 10) 2 23 := ⟨at_21, rfl⟩
theorem d0_23 : Dc code 23 (.lload_n 3) 1 24 := ⟨at_23, rfl⟩
theorem d0_24 : Dc code 24 (.bipush 32) 2 26 := ⟨at_24, rfl⟩
theorem d0_26 : Dc code 26 (.lushr) 1 27 := ⟨at_26, rfl⟩
theorem d0_27 : Dc code 27 (.l2i) 1 28 := ⟨at_27, rfl⟩
theorem d0_28 : Dc code 28 (.istore 11) 2 30 := ⟨at_28, rfl⟩
theorem d0_30 : Dc code 30 (.lload 5) 2 32 := ⟨at_30, rfl⟩
theorem d0_32 : Dc code 32 (.l2i) 1 33 := ⟨at_32, rfl⟩
theorem d0_33 : Dc code 33 (.istore 12) 2 35 := ⟨at_33, rfl⟩
theorem d0_35 : Dc code 35 (.lload 5) 2 37 := ⟨at_35, rfl⟩
theorem d0_37 : Dc code 37 (.bipush 32) 2 39 := ⟨at_37, rfl⟩
theorem d0_39 : Dc code 39 (.lushr) 1 40 := ⟨at_39, rfl⟩
theorem d0_40 : Dc code 40 (.l2i) 1 41 := ⟨at_40, rfl⟩
theorem d0_41 : Dc code 41 (.istore 13) 2 43 := ⟨at_41, rfl⟩
theorem d0_43 : Dc code 43 (.iload 7) 2 45 := ⟨at_43, rfl⟩
theorem d0_45 : Dc code 45 (.iload 7) 2 47 := ⟨at_45, rfl⟩
theorem d0_47 : Dc code 47 (.iconst 1) 1 48 := ⟨at_47, rfl⟩
theorem d0_48 : Dc code 48 (.isub) 1 49 := ⟨at_48, rfl⟩
theorem d0_49 : Dc code 49 (.imul) 1 50 := ⟨at_49, rfl⟩
theorem d0_50 : Dc code 50 (.iconst 2) 1 51 := ⟨at_50, rfl⟩
theorem d0_51 : Dc code 51 (.idiv) 1 52 := ⟨at_51, rfl⟩
theorem d0_52 : Dc code 52 (.istore 14) 2 54 := ⟨at_52, rfl⟩
theorem d0_54 : Dc code 54 (.iload 14) 2 56 := ⟨at_54, rfl⟩
theorem d0_56 : Dc code 56 (.newarray .int) 2 58 := ⟨at_56, rfl⟩
theorem d0_58 : Dc code 58 (.astore 15) 2 60 := ⟨at_58, rfl⟩
theorem d0_60 : Dc code 60 (.iload 14) 2 62 := ⟨at_60, rfl⟩
theorem d0_62 : Dj code 62 (.ifCond .le 9) 9 71 65 := ⟨at_62, by decide, by decide, rfl⟩
theorem d0_65 : Dc code 65 (.aload 15) 2 67 := ⟨at_65, rfl⟩
theorem d0_67 : Dc code 67 (.iconst 0) 1 68 := ⟨at_67, rfl⟩
theorem d0_68 : Dc code 68 (.iload 8) 2 70 := ⟨at_68, rfl⟩
theorem d0_70 : Dc code 70 (.iastore) 1 71 := ⟨at_70, rfl⟩
theorem d0_71 : Dc code 71 (.iload 14) 2 73 := ⟨at_71, rfl⟩
theorem d0_73 : Dc code 73 (.iconst 1) 1 74 := ⟨at_73, rfl⟩
theorem d0_74 : Dj code 74 (.if_icmp .le 9) 9 83 77 := ⟨at_74, by decide, by decide, rfl⟩
theorem d0_77 : Dc code 77 (.aload 15) 2 79 := ⟨at_77, rfl⟩
theorem d0_79 : Dc code 79 (.iconst 1) 1 80 := ⟨at_79, rfl⟩
theorem d0_80 : Dc code 80 (.iload 9) 2 82 := ⟨at_80, rfl⟩
theorem d0_82 : Dc code 82 (.iastore) 1 83 := ⟨at_82, rfl⟩
theorem d0_83 : Dc code 83 (.iload 14) 2 85 := ⟨at_83, rfl⟩
theorem d0_85 : Dc code 85 (.iconst 2) 1 86 := ⟨at_85, rfl⟩
theorem d0_86 : Dj code 86 (.if_icmp .le 9) 9 95 89 := ⟨at_86, by decide, by decide, rfl⟩
theorem d0_89 : Dc code 89 (.aload 15) 2 91 := ⟨at_89, rfl⟩
theorem d0_91 : Dc code 91 (.iconst 2) 1 92 := ⟨at_91, rfl⟩
theorem d0_92 : Dc code 92 (.iload 10) 2 94 := ⟨at_92, rfl⟩
theorem d0_94 : Dc code 94 (.iastore) 1 95 := ⟨at_94, rfl⟩
theorem d0_95 : Dc code 95 (.iload 14) 2 97 := ⟨at_95, rfl⟩
theorem d0_97 : Dc code 97 (.iconst 3) 1 98 := ⟨at_97, rfl⟩
theorem d0_98 : Dj code 98 (.if_icmp .le 9) 9 107 101 := ⟨at_98, by decide, by decide, rfl⟩
theorem d0_101 : Dc code 101 (.aload 15) 2 103 := ⟨at_101, rfl⟩
theorem d0_103 : Dc code 103 (.iconst 3) 1 104 := ⟨at_103, rfl⟩
theorem d0_104 : Dc code 104 (.iload 11) 2 106 := ⟨at_104, rfl⟩
theorem d0_106 : Dc code 106 (.iastore) 1 107 := ⟨at_106, rfl⟩
theorem d0_107 : Dc code 107 (.iload 14) 2 109 := ⟨at_107, rfl⟩
theorem d0_109 : Dc code 109 (.iconst 4) 1 110 := ⟨at_109, rfl⟩
theorem d0_110 : Dj code 110 (.if_icmp .le 9) 9 119 113 := ⟨at_110, by decide, by decide, rfl⟩
theorem d0_113 : Dc code 113 (.aload 15) 2 115 := ⟨at_113, rfl⟩
theorem d0_115 : Dc code 115 (.iconst 4) 1 116 := ⟨at_115, rfl⟩
theorem d0_116 : Dc code 116 (.iload 12) 2 118 := ⟨at_116, rfl⟩
theorem d0_118 : Dc code 118 (.iastore) 1 119 := ⟨at_118, rfl⟩
theorem d0_119 : Dc code 119 (.iload 14) 2 121 := ⟨at_119, rfl⟩
theorem d0_121 : Dc code 121 (.iconst 5) 1 122 := ⟨at_121, rfl⟩
theorem d0_122 : Dj code 122 (.if_icmp .le 9) 9 131 125 := ⟨at_122, by decide, by decide, rfl⟩
theorem d0_125 : Dc code 125 (.aload 15) 2 127 := ⟨at_125, rfl⟩
theorem d0_127 : Dc code 127 (.iconst 5) 1 128 := ⟨at_127, rfl⟩
theorem d0_128 : Dc code 128 (.iload 13) 2 130 := ⟨at_128, rfl⟩
theorem d0_130 : Dc code 130 (.iastore) 1 131 := ⟨at_130, rfl⟩
theorem d0_131 : Dc code 131 (.new 8) 3 134 := ⟨at_131, rfl⟩
theorem d0_134 : Dc code 134 (.dup) 1 135 := ⟨at_134, rfl⟩
theorem d0_135 : Dc code 135 (.iload 7) 2 137 := ⟨at_135, rfl⟩
theorem d0_137 : Dc code 137 (.invokespecial 10) 3 140 := ⟨at_137, rfl⟩
theorem d0_140 : Dc code 140 (.astore 16) 2 142 := ⟨at_140, rfl⟩
theorem d0_142 : Dc code 142 (.aload 16) 2 144 := ⟨at_142, rfl⟩
theorem d0_144 : Dc code 144 (.aload 15) 2 146 := ⟨at_144, rfl⟩
theorem d0_146 : Dc code 146 (.invokevirtual 13) 3 149 := ⟨at_146, rfl⟩
theorem d0_149 : Dc code 149 (.astore 17) 2 151 := ⟨at_149, rfl⟩
theorem d0_151 : Dc code 151 (.iload 8) 2 153 := ⟨at_151, rfl⟩
theorem d0_153 : Dj code 153 (.ifCond .le 7) 7 160 156 := ⟨at_153, by decide, by decide, rfl⟩
theorem d0_156 : Dc code 156 (.iconst 1) 1 157 := ⟨at_156, rfl⟩
theorem d0_157 : Dj code 157 (.goto 4) 4 161 160 := ⟨at_157, by decide, by decide, rfl⟩
theorem d0_160 : Dc code 160 (.iconst 0) 1 161 := ⟨at_160, rfl⟩
theorem d0_161 : Dc code 161 (.istore 18) 2 163 := ⟨at_161, rfl⟩
theorem d0_163 : Dc code 163 (.iload 9) 2 165 := ⟨at_163, rfl⟩
theorem d0_165 : Dj code 165 (.ifCond .le 7) 7 172 168 := ⟨at_165, by decide, by decide, rfl⟩
theorem d0_168 : Dc code 168 (.iconst 1) 1 169 := ⟨at_168, rfl⟩
theorem d0_169 : Dj code 169 (.goto 4) 4 173 172 := ⟨at_169, by decide, by decide, rfl⟩
theorem d0_172 : Dc code 172 (.iconst 0) 1 173 := ⟨at_172, rfl⟩
theorem d0_173 : Dc code 173 (.istore 19) 2 175 := ⟨at_173, rfl⟩
theorem d0_175 : Dc code 175 (.iload 10) 2 177 := ⟨at_175, rfl⟩
theorem d0_177 : Dj code 177 (.ifCond .le 7) 7 184 180 := ⟨at_177, by decide, by decide, rfl⟩
theorem d0_180 : Dc code 180 (.iconst 1) 1 181 := ⟨at_180, rfl⟩
theorem d0_181 : Dj code 181 (.goto 4) 4 185 184 := ⟨at_181, by decide, by decide, rfl⟩
theorem d0_184 : Dc code 184 (.iconst 0) 1 185 := ⟨at_184, rfl⟩
theorem d0_185 : Dc code 185 (.istore 20) 2 187 := ⟨at_185, rfl⟩
theorem d0_187 : Dc code 187 (.iload 11) 2 189 := ⟨at_187, rfl⟩
theorem d0_189 : Dj code 189 (.ifCond .le 7) 7 196 192 := ⟨at_189, by decide, by decide, rfl⟩
theorem d0_192 : Dc code 192 (.iconst 1) 1 193 := ⟨at_192, rfl⟩
theorem d0_193 : Dj code 193 (.goto 4) 4 197 196 := ⟨at_193, by decide, by decide, rfl⟩
theorem d0_196 : Dc code 196 (.iconst 0) 1 197 := ⟨at_196, rfl⟩
theorem d0_197 : Dc code 197 (.istore 21) 2 199 := ⟨at_197, rfl⟩
theorem d0_199 : Dc code 199 (.iload 12) 2 201 := ⟨at_199, rfl⟩
theorem d0_201 : Dj code 201 (.ifCond .le 7) 7 208 204 := ⟨at_201, by decide, by decide, rfl⟩
theorem d0_204 : Dc code 204 (.iconst 1) 1 205 := ⟨at_204, rfl⟩
theorem d0_205 : Dj code 205 (.goto 4) 4 209 208 := ⟨at_205, by decide, by decide, rfl⟩
theorem d0_208 : Dc code 208 (.iconst 0) 1 209 := ⟨at_208, rfl⟩
theorem d0_209 : Dc code 209 (.istore 22) 2 211 := ⟨at_209, rfl⟩
theorem d0_211 : Dc code 211 (.iload 13) 2 213 := ⟨at_211, rfl⟩
theorem d0_213 : Dj code 213 (.ifCond .le 7) 7 220 216 := ⟨at_213, by decide, by decide, rfl⟩
theorem d0_216 : Dc code 216 (.iconst 1) 1 217 := ⟨at_216, rfl⟩
theorem d0_217 : Dj code 217 (.goto 4) 4 221 220 := ⟨at_217, by decide, by decide, rfl⟩
theorem d0_220 : Dc code 220 (.iconst 0) 1 221 := ⟨at_220, rfl⟩
theorem d0_221 : Dc code 221 (.istore 23) 2 223 := ⟨at_221, rfl⟩
theorem d0_223 : Dc code 223 (.iconst 4) 1 224 := ⟨at_223, rfl⟩
theorem d0_224 : Dc code 224 (.newarray .int) 2 226 := ⟨at_224, rfl⟩
theorem d0_226 : Dc code 226 (.astore 24) 2 228 := ⟨at_226, rfl⟩
theorem d0_228 : Dc code 228 (.iload 7) 2 230 := ⟨at_228, rfl⟩
theorem d0_230 : Dc code 230 (.iconst 2) 1 231 := ⟨at_230, rfl⟩
theorem d0_231 : Dj code 231 (.if_icmp .ne 18) 18 249 234 := ⟨at_231, by decide, by decide, rfl⟩
theorem d0_234 : Dc code 234 (.aload 24) 2 236 := ⟨at_234, rfl⟩
theorem d0_236 : Dc code 236 (.iconst 0) 1 237 := ⟨at_236, rfl⟩
theorem d0_237 : Dc code 237 (.iload 18) 2 239 := ⟨at_237, rfl⟩
theorem d0_239 : Dc code 239 (.iastore) 1 240 := ⟨at_239, rfl⟩
theorem d0_240 : Dc code 240 (.aload 24) 2 242 := ⟨at_240, rfl⟩
theorem d0_242 : Dc code 242 (.iconst 1) 1 243 := ⟨at_242, rfl⟩
theorem d0_243 : Dc code 243 (.iload 18) 2 245 := ⟨at_243, rfl⟩
theorem d0_245 : Dc code 245 (.iastore) 1 246 := ⟨at_245, rfl⟩
theorem d0_246 : Dj code 246 (.goto 93) 93 339 249 := ⟨at_246, by decide, by decide, rfl⟩
theorem d0_249 : Dc code 249 (.iload 7) 2 251 := ⟨at_249, rfl⟩
theorem d0_251 : Dc code 251 (.iconst 3) 1 252 := ⟨at_251, rfl⟩
theorem d0_252 : Dj code 252 (.if_icmp .ne 33) 33 285 255 := ⟨at_252, by decide, by decide, rfl⟩
theorem d0_255 : Dc code 255 (.aload 24) 2 257 := ⟨at_255, rfl⟩
theorem d0_257 : Dc code 257 (.iconst 0) 1 258 := ⟨at_257, rfl⟩
theorem d0_258 : Dc code 258 (.iload 18) 2 260 := ⟨at_258, rfl⟩
theorem d0_260 : Dc code 260 (.iload 19) 2 262 := ⟨at_260, rfl⟩
theorem d0_262 : Dc code 262 (.iadd) 1 263 := ⟨at_262, rfl⟩
theorem d0_263 : Dc code 263 (.iastore) 1 264 := ⟨at_263, rfl⟩
theorem d0_264 : Dc code 264 (.aload 24) 2 266 := ⟨at_264, rfl⟩
theorem d0_266 : Dc code 266 (.iconst 1) 1 267 := ⟨at_266, rfl⟩
theorem d0_267 : Dc code 267 (.iload 18) 2 269 := ⟨at_267, rfl⟩
theorem d0_269 : Dc code 269 (.iload 20) 2 271 := ⟨at_269, rfl⟩
theorem d0_271 : Dc code 271 (.iadd) 1 272 := ⟨at_271, rfl⟩
theorem d0_272 : Dc code 272 (.iastore) 1 273 := ⟨at_272, rfl⟩
theorem d0_273 : Dc code 273 (.aload 24) 2 275 := ⟨at_273, rfl⟩
theorem d0_275 : Dc code 275 (.iconst 2) 1 276 := ⟨at_275, rfl⟩
theorem d0_276 : Dc code 276 (.iload 19) 2 278 := ⟨at_276, rfl⟩
theorem d0_278 : Dc code 278 (.iload 20) 2 280 := ⟨at_278, rfl⟩
theorem d0_280 : Dc code 280 (.iadd) 1 281 := ⟨at_280, rfl⟩
theorem d0_281 : Dc code 281 (.iastore) 1 282 := ⟨at_281, rfl⟩
theorem d0_282 : Dj code 282 (.goto 57) 57 339 285 := ⟨at_282, by decide, by decide, rfl⟩
theorem d0_285 : Dc code 285 (.iload 7) 2 287 := ⟨at_285, rfl⟩
theorem d0_287 : Dc code 287 (.iconst 4) 1 288 := ⟨at_287, rfl⟩
theorem d0_288 : Dj code 288 (.if_icmp .ne 51) 51 339 291 := ⟨at_288, by decide, by decide, rfl⟩
theorem d0_291 : Dc code 291 (.aload 24) 2 293 := ⟨at_291, rfl⟩
theorem d0_293 : Dc code 293 (.iconst 0) 1 294 := ⟨at_293, rfl⟩
theorem d0_294 : Dc code 294 (.iload 18) 2 296 := ⟨at_294, rfl⟩
theorem d0_296 : Dc code 296 (.iload 19) 2 298 := ⟨at_296, rfl⟩
theorem d0_298 : Dc code 298 (.iadd) 1 299 := ⟨at_298, rfl⟩
theorem d0_299 : Dc code 299 (.iload 20) 2 301 := ⟨at_299, rfl⟩
theorem d0_301 : Dc code 301 (.iadd) 1 302 := ⟨at_301, rfl⟩
theorem d0_302 : Dc code 302 (.iastore) 1 303 := ⟨at_302, rfl⟩
theorem d0_303 : Dc code 303 (.aload 24) 2 305 := ⟨at_303, rfl⟩
theorem d0_305 : Dc code 305 (.iconst 1) 1 306 := ⟨at_305, rfl⟩
theorem d0_306 : Dc code 306 (.iload 18) 2 308 := ⟨at_306, rfl⟩
theorem d0_308 : Dc code 308 (.iload 21) 2 310 := ⟨at_308, rfl⟩
theorem d0_310 : Dc code 310 (.iadd) 1 311 := ⟨at_310, rfl⟩
theorem d0_311 : Dc code 311 (.iload 22) 2 313 := ⟨at_311, rfl⟩
theorem d0_313 : Dc code 313 (.iadd) 1 314 := ⟨at_313, rfl⟩
theorem d0_314 : Dc code 314 (.iastore) 1 315 := ⟨at_314, rfl⟩
theorem d0_315 : Dc code 315 (.aload 24) 2 317 := ⟨at_315, rfl⟩
theorem d0_317 : Dc code 317 (.iconst 2) 1 318 := ⟨at_317, rfl⟩
theorem d0_318 : Dc code 318 (.iload 19) 2 320 := ⟨at_318, rfl⟩
theorem d0_320 : Dc code 320 (.iload 21) 2 322 := ⟨at_320, rfl⟩
theorem d0_322 : Dc code 322 (.iadd) 1 323 := ⟨at_322, rfl⟩
theorem d0_323 : Dc code 323 (.iload 23) 2 325 := ⟨at_323, rfl⟩
theorem d0_325 : Dc code 325 (.iadd) 1 326 := ⟨at_325, rfl⟩
theorem d0_326 : Dc code 326 (.iastore) 1 327 := ⟨at_326, rfl⟩
theorem d0_327 : Dc code 327 (.aload 24) 2 329 := ⟨at_327, rfl⟩
theorem d0_329 : Dc code 329 (.iconst 3) 1 330 := ⟨at_329, rfl⟩
theorem d0_330 : Dc code 330 (.iload 20) 2 332 := ⟨at_330, rfl⟩
theorem d0_332 : Dc code 332 (.iload 22) 2 334 := ⟨at_332, rfl⟩
theorem d0_334 : Dc code 334 (.iadd) 1 335 := ⟨at_334, rfl⟩
theorem d0_335 : Dc code 335 (.iload 23) 2 337 := ⟨at_335, rfl⟩
theorem d0_337 : Dc code 337 (.iadd) 1 338 := ⟨at_337, rfl⟩
theorem d0_338 : Dc code 338 (.iastore) 1 339 := ⟨at_338, rfl⟩
theorem d0_339 : Dc code 339 (.aload 17) 2 341 := ⟨at_339, rfl⟩
theorem d0_341 : Dj code 341 (.ifnull 11) 11 352 344 := ⟨at_341, by decide, by decide, rfl⟩
theorem d0_344 : Dc code 344 (.aload 17) 2 346 := ⟨at_344, rfl⟩
theorem d0_346 : Dc code 346 (.arraylength) 1 347 := ⟨at_346, rfl⟩
theorem d0_347 : Dc code 347 (.iload 7) 2 349 := ⟨at_347, rfl⟩
theorem d0_349 : Dj code 349 (.if_icmp .eq 5) 5 354 352 := ⟨at_349, by decide, by decide, rfl⟩
theorem d0_354 : Dc code 354 (.iload 7) 2 356 := ⟨at_354, rfl⟩
theorem d0_356 : Dj code 356 (.ifCond .le 16) 16 372 359 := ⟨at_356, by decide, by decide, rfl⟩
theorem d0_359 : Dc code 359 (.aload 17) 2 361 := ⟨at_359, rfl⟩
theorem d0_361 : Dc code 361 (.iconst 0) 1 362 := ⟨at_361, rfl⟩
theorem d0_362 : Dc code 362 (.iaload) 1 363 := ⟨at_362, rfl⟩
theorem d0_363 : Dc code 363 (.aload 24) 2 365 := ⟨at_363, rfl⟩
theorem d0_365 : Dc code 365 (.iconst 0) 1 366 := ⟨at_365, rfl⟩
theorem d0_366 : Dc code 366 (.iaload) 1 367 := ⟨at_366, rfl⟩
theorem d0_367 : Dj code 367 (.if_icmp .eq 5) 5 372 370 := ⟨at_367, by decide, by decide, rfl⟩
theorem d0_372 : Dc code 372 (.iload 7) 2 374 := ⟨at_372, rfl⟩
theorem d0_374 : Dc code 374 (.iconst 1) 1 375 := ⟨at_374, rfl⟩
theorem d0_375 : Dj code 375 (.if_icmp .le 16) 16 391 378 := ⟨at_375, by decide, by decide, rfl⟩
theorem d0_378 : Dc code 378 (.aload 17) 2 380 := ⟨at_378, rfl⟩
theorem d0_380 : Dc code 380 (.iconst 1) 1 381 := ⟨at_380, rfl⟩
theorem d0_381 : Dc code 381 (.iaload) 1 382 := ⟨at_381, rfl⟩
theorem d0_382 : Dc code 382 (.aload 24) 2 384 := ⟨at_382, rfl⟩
theorem d0_384 : Dc code 384 (.iconst 1) 1 385 := ⟨at_384, rfl⟩
theorem d0_385 : Dc code 385 (.iaload) 1 386 := ⟨at_385, rfl⟩
theorem d0_386 : Dj code 386 (.if_icmp .eq 5) 5 391 389 := ⟨at_386, by decide, by decide, rfl⟩
theorem d0_391 : Dc code 391 (.iload 7) 2 393 := ⟨at_391, rfl⟩
theorem d0_393 : Dc code 393 (.iconst 2) 1 394 := ⟨at_393, rfl⟩
theorem d0_394 : Dj code 394 (.if_icmp .le 16) 16 410 397 := ⟨at_394, by decide, by decide, rfl⟩
theorem d0_397 : Dc code 397 (.aload 17) 2 399 := ⟨at_397, rfl⟩
theorem d0_399 : Dc code 399 (.iconst 2) 1 400 := ⟨at_399, rfl⟩
theorem d0_400 : Dc code 400 (.iaload) 1 401 := ⟨at_400, rfl⟩
theorem d0_401 : Dc code 401 (.aload 24) 2 403 := ⟨at_401, rfl⟩
theorem d0_403 : Dc code 403 (.iconst 2) 1 404 := ⟨at_403, rfl⟩
theorem d0_404 : Dc code 404 (.iaload) 1 405 := ⟨at_404, rfl⟩
theorem d0_405 : Dj code 405 (.if_icmp .eq 5) 5 410 408 := ⟨at_405, by decide, by decide, rfl⟩
theorem d0_410 : Dc code 410 (.iload 7) 2 412 := ⟨at_410, rfl⟩
theorem d0_412 : Dc code 412 (.iconst 3) 1 413 := ⟨at_412, rfl⟩
theorem d0_413 : Dj code 413 (.if_icmp .le 16) 16 429 416 := ⟨at_413, by decide, by decide, rfl⟩
theorem d0_416 : Dc code 416 (.aload 17) 2 418 := ⟨at_416, rfl⟩
theorem d0_418 : Dc code 418 (.iconst 3) 1 419 := ⟨at_418, rfl⟩
theorem d0_419 : Dc code 419 (.iaload) 1 420 := ⟨at_419, rfl⟩
theorem d0_420 : Dc code 420 (.aload 24) 2 422 := ⟨at_420, rfl⟩
theorem d0_422 : Dc code 422 (.iconst 3) 1 423 := ⟨at_422, rfl⟩
theorem d0_423 : Dc code 423 (.iaload) 1 424 := ⟨at_423, rfl⟩
theorem d0_424 : Dj code 424 (.if_icmp .eq 5) 5 429 427 := ⟨at_424, by decide, by decide, rfl⟩
theorem d0_429 : Dc code 429 (.iconst 1) 1 430 := ⟨at_429, rfl⟩
theorem d0_430 : Dc code 430 (.ireturn) 1 431 := ⟨at_430, rfl⟩
theorem pn_0 : plainFor x = true := plainFor_of_name (by first | (simp [plainName, overriddenIn]; done) | decide +kernel)
theorem ef_0 (m : MethodId) (x0 : Int32) (x1 : Int64) (x2 : Int64) (x3 : Int64) : entryFrame m #[(.int x0), (.long x1), (.long x2), (.long x3)] maxLocals = mkF m 0 #[.val (.int x0), .val (.long x1), .second, .val (.long x2), .second, .val (.long x3), .second, .unset, .unset, .unset, .unset, .unset, .unset, .unset, .unset, .unset, .unset, .unset, .unset, .unset, .unset, .unset, .unset, .unset, .unset] [] := by first | (simp [entryFrame, mkF, argsToLocals, Value.category, maxLocals]; done) | rfl
theorem d1_0 : Dc prog_12_method_1_code 0 (.aload_n 0) 1 1 := ⟨by decide +kernel, rfl⟩
theorem d1_1 : Dc prog_12_method_1_code 1 (.invokespecial 1) 3 4 := ⟨by decide +kernel, rfl⟩
theorem d1_4 : Dc prog_12_method_1_code 4 (.iload_n 1) 1 5 := ⟨by decide +kernel, rfl⟩
theorem d1_5 : Dc prog_12_method_1_code 5 (.ldc 9) 2 7 := ⟨by decide +kernel, rfl⟩
theorem d1_7 : Dj prog_12_method_1_code 7 (.if_icmp .le 17) 17 24 10 := ⟨by decide +kernel, by decide, by decide, rfl⟩
theorem d1_24 : Dc prog_12_method_1_code 24 (.aload_n 0) 1 25 := ⟨by decide +kernel, rfl⟩
theorem d1_25 : Dc prog_12_method_1_code 25 (.iload_n 1) 1 26 := ⟨by decide +kernel, rfl⟩
theorem d1_26 : Dc prog_12_method_1_code 26 (.newarray .int) 2 28 := ⟨by decide +kernel, rfl⟩
theorem d1_28 : Dc prog_12_method_1_code 28 (.putfield 19) 3 31 := ⟨by decide +kernel, rfl⟩
theorem d1_31 : Dc prog_12_method_1_code 31 (.iconst 0) 1 32 := ⟨by decide +kernel, rfl⟩
theorem d1_32 : Dc prog_12_method_1_code 32 (.istore_n 2) 1 33 := ⟨by decide +kernel, rfl⟩
theorem d1_33 : Dc prog_12_method_1_code 33 (.iload_n 2) 1 34 := ⟨by decide +kernel, rfl⟩
theorem d1_34 : Dc prog_12_method_1_code 34 (.iload_n 1) 1 35 := ⟨by decide +kernel, rfl⟩
theorem d1_35 : Dj prog_12_method_1_code 35 (.if_icmp .ge 34) 34 69 38 := ⟨by decide +kernel, by decide, by decide, rfl⟩
theorem d1_38 : Dc prog_12_method_1_code 38 (.aload_n 0) 1 39 := ⟨by decide +kernel, rfl⟩
theorem d1_39 : Dc prog_12_method_1_code 39 (.getfield 19) 3 42 := ⟨by decide +kernel, rfl⟩
theorem d1_42 : Dc prog_12_method_1_code 42 (.iload_n 2) 1 43 := ⟨by decide +kernel, rfl⟩
theorem d1_43 : Dc prog_12_method_1_code 43 (.iload_n 2) 1 44 := ⟨by decide +kernel, rfl⟩
theorem d1_44 : Dc prog_12_method_1_code 44 (.i2l) 1 45 := ⟨by decide +kernel, rfl⟩
theorem d1_45 : Dc prog_12_method_1_code 45 (.ldc2_w 23) 3 48 := ⟨by decide +kernel, rfl⟩
theorem d1_48 : Dc prog_12_method_1_code 48 (.iload_n 1) 1 49 := ⟨by decide +kernel, rfl⟩
theorem d1_49 : Dc prog_12_method_1_code 49 (.i2l) 1 50 := ⟨by decide +kernel, rfl⟩
theorem d1_50 : Dc prog_12_method_1_code 50 (.lmul) 1 51 := ⟨by decide +kernel, rfl⟩
theorem d1_51 : Dc prog_12_method_1_code 51 (.iload_n 2) 1 52 := ⟨by decide +kernel, rfl⟩
theorem d1_52 : Dc prog_12_method_1_code 52 (.i2l) 1 53 := ⟨by decide +kernel, rfl⟩
theorem d1_53 : Dc prog_12_method_1_code 53 (.lsub) 1 54 := ⟨by decide +kernel, rfl⟩
theorem d1_54 : Dc prog_12_method_1_code 54 (.lconst 1) 1 55 := ⟨by decide +kernel, rfl⟩
theorem d1_55 : Dc prog_12_method_1_code 55 (.lsub) 1 56 := ⟨by decide +kernel, rfl⟩
theorem d1_56 : Dc prog_12_method_1_code 56 (.lmul) 1 57 := ⟨by decide +kernel, rfl⟩
theorem d1_57 : Dc prog_12_method_1_code 57 (.ldc2_w 23) 3 60 := ⟨by decide +kernel, rfl⟩
theorem d1_60 : Dc prog_12_method_1_code 60 (.ldiv) 1 61 := ⟨by decide +kernel, rfl⟩
theorem d1_61 : Dc prog_12_method_1_code 61 (.l2i) 1 62 := ⟨by decide +kernel, rfl⟩
theorem d1_62 : Dc prog_12_method_1_code 62 (.iastore) 1 63 := ⟨by decide +kernel, rfl⟩
theorem d1_63 : Dc prog_12_method_1_code 63 (.iinc 2 1) 3 66 := ⟨by decide +kernel, rfl⟩
theorem d1_66 : Dj prog_12_method_1_code 66 (.goto (-33)) (-33) 33 69 := ⟨by decide +kernel, by decide, by decide, rfl⟩
theorem d1_69 : Dc prog_12_method_1_code 69 (.return_) 1 70 := ⟨by decide +kernel, rfl⟩
theorem pn_1 : plainFor (⟨"com/example/topicweave/topicweave/core/NodePairs", "<init>", "(I)V"⟩ : MethodName) = true := plainFor_of_name (by first | (simp [plainName, overriddenIn]; done) | decide +kernel)
theorem ef_1 (m : MethodId) (x0 : Addr) (x1 : Int32) : entryFrame m #[(.ref x0), (.int x1)] 3 = mkF m 0 #[.val (.ref x0), .val (.int x1), .unset] [] := by first | (simp [entryFrame, mkF, argsToLocals, Value.category]; done) | rfl
theorem d3_0 : Dc prog_12_method_7_code 0 (.aload_n 0) 1 1 := ⟨by decide +kernel, rfl⟩
theorem d3_1 : Dc prog_12_method_7_code 1 (.getfield 19) 3 4 := ⟨by decide +kernel, rfl⟩
theorem d3_4 : Dc prog_12_method_7_code 4 (.arraylength) 1 5 := ⟨by decide +kernel, rfl⟩
theorem d3_5 : Dc prog_12_method_7_code 5 (.istore_n 2) 1 6 := ⟨by decide +kernel, rfl⟩
theorem d3_6 : Dc prog_12_method_7_code 6 (.iload_n 2) 1 7 := ⟨by decide +kernel, rfl⟩
theorem d3_7 : Dc prog_12_method_7_code 7 (.newarray .int) 2 9 := ⟨by decide +kernel, rfl⟩
theorem d3_9 : Dc prog_12_method_7_code 9 (.astore_n 3) 1 10 := ⟨by decide +kernel, rfl⟩
theorem d3_10 : Dc prog_12_method_7_code 10 (.iconst 0) 1 11 := ⟨by decide +kernel, rfl⟩
theorem d3_11 : Dc prog_12_method_7_code 11 (.istore 4) 2 13 := ⟨by decide +kernel, rfl⟩
theorem d3_13 : Dc prog_12_method_7_code 13 (.iconst 0) 1 14 := ⟨by decide +kernel, rfl⟩
theorem d3_14 : Dc prog_12_method_7_code 14 (.istore 5) 2 16 := ⟨by decide +kernel, rfl⟩
theorem d3_16 : Dc prog_12_method_7_code 16 (.iload 5) 2 18 := ⟨by decide +kernel, rfl⟩
theorem d3_18 : Dc prog_12_method_7_code 18 (.iload_n 2) 1 19 := ⟨by decide +kernel, rfl⟩
theorem d3_19 : Dj prog_12_method_7_code 19 (.if_icmp .ge 53) 53 72 22 := ⟨by decide +kernel, by decide, by decide, rfl⟩
theorem d3_22 : Dc prog_12_method_7_code 22 (.iload 5) 2 24 := ⟨by decide +kernel, rfl⟩
theorem d3_24 : Dc prog_12_method_7_code 24 (.iconst 1) 1 25 := ⟨by decide +kernel, rfl⟩
theorem d3_25 : Dc prog_12_method_7_code 25 (.iadd) 1 26 := ⟨by decide +kernel, rfl⟩
theorem d3_26 : Dc prog_12_method_7_code 26 (.istore 6) 2 28 := ⟨by decide +kernel, rfl⟩
theorem d3_28 : Dc prog_12_method_7_code 28 (.iload 6) 2 30 := ⟨by decide +kernel, rfl⟩
theorem d3_30 : Dc prog_12_method_7_code 30 (.iload_n 2) 1 31 := ⟨by decide +kernel, rfl⟩
theorem d3_31 : Dj prog_12_method_7_code 31 (.if_icmp .ge 35) 35 66 34 := ⟨by decide +kernel, by decide, by decide, rfl⟩
theorem d3_34 : Dc prog_12_method_7_code 34 (.aload_n 1) 1 35 := ⟨by decide +kernel, rfl⟩
theorem d3_35 : Dc prog_12_method_7_code 35 (.iload 4) 2 37 := ⟨by decide +kernel, rfl⟩
theorem d3_37 : Dc prog_12_method_7_code 37 (.iinc 4 1) 3 40 := ⟨by decide +kernel, rfl⟩
theorem d3_40 : Dc prog_12_method_7_code 40 (.iaload) 1 41 := ⟨by decide +kernel, rfl⟩
theorem d3_41 : Dj prog_12_method_7_code 41 (.ifCond .le 19) 19 60 44 := ⟨by decide +kernel, by decide, by decide, rfl⟩
theorem d3_44 : Dc prog_12_method_7_code 44 (.aload_n 3) 1 45 := ⟨by decide +kernel, rfl⟩
theorem d3_45 : Dc prog_12_method_7_code 45 (.iload 5) 2 47 := ⟨by decide +kernel, rfl⟩
theorem d3_47 : Dc prog_12_method_7_code 47 (.dup2) 1 48 := ⟨by decide +kernel, rfl⟩
theorem d3_48 : Dc prog_12_method_7_code 48 (.iaload) 1 49 := ⟨by decide +kernel, rfl⟩
theorem d3_49 : Dc prog_12_method_7_code 49 (.iconst 1) 1 50 := ⟨by decide +kernel, rfl⟩
theorem d3_50 : Dc prog_12_method_7_code 50 (.iadd) 1 51 := ⟨by decide +kernel, rfl⟩
theorem d3_51 : Dc prog_12_method_7_code 51 (.iastore) 1 52 := ⟨by decide +kernel, rfl⟩
theorem d3_52 : Dc prog_12_method_7_code 52 (.aload_n 3) 1 53 := ⟨by decide +kernel, rfl⟩
theorem d3_53 : Dc prog_12_method_7_code 53 (.iload 6) 2 55 := ⟨by decide +kernel, rfl⟩
theorem d3_55 : Dc prog_12_method_7_code 55 (.dup2) 1 56 := ⟨by decide +kernel, rfl⟩
theorem d3_56 : Dc prog_12_method_7_code 56 (.iaload) 1 57 := ⟨by decide +kernel, rfl⟩
theorem d3_57 : Dc prog_12_method_7_code 57 (.iconst 1) 1 58 := ⟨by decide +kernel, rfl⟩
theorem d3_58 : Dc prog_12_method_7_code 58 (.iadd) 1 59 := ⟨by decide +kernel, rfl⟩
theorem d3_59 : Dc prog_12_method_7_code 59 (.iastore) 1 60 := ⟨by decide +kernel, rfl⟩
theorem d3_60 : Dc prog_12_method_7_code 60 (.iinc 6 1) 3 63 := ⟨by decide +kernel, rfl⟩
theorem d3_63 : Dj prog_12_method_7_code 63 (.goto (-35)) (-35) 28 66 := ⟨by decide +kernel, by decide, by decide, rfl⟩
theorem d3_66 : Dc prog_12_method_7_code 66 (.iinc 5 1) 3 69 := ⟨by decide +kernel, rfl⟩
theorem d3_69 : Dj prog_12_method_7_code 69 (.goto (-53)) (-53) 16 72 := ⟨by decide +kernel, by decide, by decide, rfl⟩
theorem d3_72 : Dc prog_12_method_7_code 72 (.aload_n 3) 1 73 := ⟨by decide +kernel, rfl⟩
theorem d3_73 : Dc prog_12_method_7_code 73 (.areturn) 1 74 := ⟨by decide +kernel, rfl⟩
theorem pn_3 : plainFor (⟨"com/example/topicweave/topicweave/core/NodePairs", "partners", "([I)[I"⟩ : MethodName) = true := plainFor_of_name (by first | (simp [plainName, overriddenIn]; done) | decide +kernel)
theorem ef_3 (m : MethodId) (x0 : Addr) (x1 : Addr) : entryFrame m #[(.ref x0), (.ref x1)] 7 = mkF m 0 #[.val (.ref x0), .val (.ref x1), .unset, .unset, .unset, .unset, .unset] [] := by first | (simp [entryFrame, mkF, argsToLocals, Value.category]; done) | rfl
theorem pd_0 : parseMethodDescriptor "(I)V" = some ⟨[.int], none⟩ := by decide +kernel
theorem pd_1 : parseMethodDescriptor "([I)[I" = some ⟨[(.array .int)], some (.array .int)⟩ := by decide +kernel

def ps (x : Int32) : Int32 := if 0 < x.toInt then 1 else 0
theorem ps_t {x : Int32} (q : 0 < x.toInt) : ps x = 1 := if_pos q
theorem ps_f {x : Int32} (q : x.toInt ≤ 0) : ps x = 0 := if_neg (by omega)
theorem own_n (x : Int32) : (x &&& 2147483647) % 5 = 0 ∨ (x &&& 2147483647) % 5 = 1 ∨ (x &&& 2147483647) % 5 = 2 ∨ (x &&& 2147483647) % 5 = 3 ∨ (x &&& 2147483647) % 5 = 4 := by
  have m : (x &&& 2147483647).toInt = x.toInt % 2 ^ 31 := Jvm.Kit.i32_mask x 2147483647 (by decide) (by decide)
  have l : (5 : Int32).toInt = 5 := rfl
  have r : ((x &&& 2147483647) % 5).toInt = x.toInt % 2 ^ 31 % 5 := by rw [Jvm.Kit.i32_rem_nonneg (by omega), m, l]
  generalize (x &&& 2147483647) % 5 = y at *
  have : y.toInt = 0 ∨ y.toInt = 1 ∨ y.toInt = 2 ∨ y.toInt = 3 ∨ y.toInt = 4 := by omega
  rcases this with h | h | h | h | h
  · exact Or.inl (i32_inj h)
  · exact Or.inr (Or.inl (i32_inj h))
  · exact Or.inr (Or.inr (Or.inl (i32_inj h)))
  · exact Or.inr (Or.inr (Or.inr (Or.inl (i32_inj h))))
  · exact Or.inr (Or.inr (Or.inr (Or.inr (i32_inj h))))

set_option maxRecDepth 65536 in
set_option maxHeartbeats 40000000 in
theorem init0 (l : Launch) (Z : State) (a0 : Array Value) (hw : ∀ d ∈ tables_1, d.before a0 Z = true) (x0 : Addr) (n0 : Nat) (h0 : Heap) (Z0 : n0 ≤ h0.size) (g_x0 : n0 ≤ x0) (E_x0 : Exa Z h0 x0 "com/example/topicweave/topicweave/core/NodePairs") (F_rowStart_x0 : Fld Z h0 x0 "com/example/topicweave/topicweave/core/NodePairs" "rowStart" "[I" .null) :
    Ct l Z (⟨"com/example/topicweave/topicweave/core/NodePairs", "<init>", "(I)V"⟩ : MethodName) prog_12_method_1_code 3 none ({ frames := 1, cells := 1, slots := 0, locals := 12 } : Room) #[(.ref x0), (.int (0 : Int32))] h0 (fun v h' L => v = none ∧ Fr n0 L ∧ Keep h0 h' [x0] ∧ Exa Z h' x0 "com/example/topicweave/topicweave/core/NodePairs" ∧ ∃ (ar : Addr) (g : Nat → Int32), n0 ≤ ar ∧ h0.size ≤ ar ∧ Fld Z h' x0 "com/example/topicweave/topicweave/core/NodePairs" "rowStart" "[I" (.ref ar) ∧ AV Z h' ar .int 0 (iF g)) := by
  refine Ct.body pn_1 ?_
  intro p e s m below meth c T X hx hby hml hown hnm hret hlk hZ eT
  rw [ef_1]
  have N := Fr.nil n0
  have K := Keep.refl h0 [x0]
  refine w_aloadN X hx (dq hby d1_0) rfl rfl ?_
  refine w_objinit X hx hZ eT hml (by rfl) hown (hw _ (List.mem_of_getElem? (i := 8) rfl)) (hw _ (List.mem_of_getElem? (i := 9) rfl)) (hw _ (List.mem_of_getElem? (i := 10) rfl)) (dq hby d1_1) (by decide) (W := 0) rfl (by decide) fun T X eT => ?_
  refine w_iloadN X hx (dq hby d1_4) rfl ?_
  refine w_ldc X hx hZ hown (hw _ (List.mem_of_getElem? (i := 11) rfl)) (dq hby d1_5) ?_
  refine w_icmp_le X hx (dj hby d1_7) (fun hc7 => ?_) (fun hc7 => (?_ : False).elim)
  rotate_left
  · exact absurd hc7 (by decide)
  refine w_aloadN X hx (dq hby d1_24) rfl rfl ?_
  refine w_iloadN X hx (dq hby d1_25) rfl ?_
  refine w_newarr X hx hZ eT (aty := .int) (hw _ (List.mem_of_getElem? (i := 1) rfl)) (dq hby d1_26) (n := 0) (cap := 0) (rfl) ((by decide)) (by decide) (by decide) (by decide) fun T h1 b26 hb_b26 X eT EX A_b26 => ?_
  have ne_x0_b26 : x0 ≠ b26 := by rw [hb_b26]; exact Nat.ne_of_lt (Fld.lt F_rowStart_x0)
  have g_b26 : n0 ≤ b26 := by omega
  have ge_b26 : h0.size ≤ b26 := by have := K.1; omega
  replace F_rowStart_x0 := Fld.ext EX F_rowStart_x0
  replace E_x0 := Exa.ext EX E_x0
  replace Z0 := Nat.le_trans Z0 EX.1
  replace K := K.ext EX
  replace A_b26 : AV Z h1 b26 .int 0 (iF (fun _ => (0 : Int32))) := A_b26
  refine w_putf X hx hZ eT hown (hw _ (List.mem_of_getElem? (i := 12) rfl)) F_rowStart_x0 E_x0 (Or.inr ⟨(hw _ (List.mem_of_getElem? (i := 13) rfl)), rfl, hnm⟩) (hw _ (List.mem_of_getElem? (i := 3) rfl)) (ty := (.array .int)) (by decide) rfl rfl (dq hby d1_28) fun T h2 X eT W => ?_
  replace E_x0 := Exa.wr W E_x0
  replace A_b26 := AV.other A_b26 W (Ne.symm ne_x0_b26)
  replace Z0 := Nat.le_trans Z0 (Nat.le_of_eq W.size.symm)
  replace K := K.wr W (Or.inl (List.mem_singleton.mpr rfl))
  replace N := Fr.snoc X N g_x0
  replace F_rowStart_x0 := Fld.same W F_rowStart_x0
  refine w_iconst X hx (dq hby d1_31) (z := 0) rfl ?_
  refine w_istoreN X hx (dq hby d1_32) (z := (0 : Int32)) rfl (Ls' := #[.val (.ref x0), .val (.int (0 : Int32)), .val (.int (0 : Int32))]) rfl ?_
  refine w_iloadN X hx (dq hby d1_33) rfl ?_
  refine w_iloadN X hx (dq hby d1_34) rfl ?_
  refine w_icmp_ge X hx (dj hby d1_35) (fun hc35 => ?_) (fun hc35 => (?_ : False).elim)
  rotate_left
  · exact absurd hc35 (by decide)
  refine w_ret X hx hret hlk (dq hby d1_69) (by decide) (by decide) ?_
  rw [eT]
  exact ⟨rfl, N, K, E_x0, b26, _, g_b26, ge_b26, F_rowStart_x0, A_b26⟩
set_option maxRecDepth 65536 in
set_option maxHeartbeats 40000000 in
theorem part0 (l : Launch) (Z : State) (a0 : Array Value) (hw : ∀ d ∈ tables_1, d.before a0 Z = true) (x0 x1 : Addr) (n0 : Nat) (ar : Addr) (gr pr : Nat → Int32) (h0 : Heap) (Z0 : n0 ≤ h0.size) (F_rowStart_x0 : Fld Z h0 x0 "com/example/topicweave/topicweave/core/NodePairs" "rowStart" "[I" (.ref ar)) (A_ar : AV Z h0 ar .int 0 (iF gr)) (A_x1 : AV Z h0 x1 .int 0 (iF pr)) :
    Ct l Z (⟨"com/example/topicweave/topicweave/core/NodePairs", "partners", "([I)[I"⟩ : MethodName) prog_12_method_7_code 7 (some (.array .int)) ({ frames := 0, cells := 1, slots := 0, locals := 0 } : Room) #[(.ref x0), (.ref x1)] h0 (fun v h' L => ∃ (b : Addr) (f : Nat → Int32), v = some (.ref b) ∧ Fr n0 L ∧ Keep h0 h' [] ∧ h0.size ≤ b ∧ AV Z h' b .int 0 (iF f)) := by
  refine Ct.body pn_3 ?_
  intro p e s m below meth c T X hx hby hml hown hnm hret hlk hZ eT
  rw [ef_3]
  have N := Fr.nil n0
  have K := Keep.refl h0 []
  refine w_aloadN X hx (dq hby d3_0) rfl rfl ?_
  refine w_getf X hx hZ eT hown (hw _ (List.mem_of_getElem? (i := 12) rfl)) F_rowStart_x0 (dq hby d3_1) fun T X eT => ?_
  refine w_arrlen X hx hZ eT A_ar (z := (0 : Int32)) (rfl) (dq hby d3_4) ?_
  refine w_istoreN X hx (dq hby d3_5) (z := (0 : Int32)) rfl (Ls' := #[.val (.ref x0), .val (.ref x1), .val (.int (0 : Int32)), .unset, .unset, .unset, .unset]) rfl ?_
  refine w_iloadN X hx (dq hby d3_6) rfl ?_
  refine w_newarr X hx hZ eT (aty := .int) (hw _ (List.mem_of_getElem? (i := 1) rfl)) (dq hby d3_7) (n := 0) (cap := 0) (rfl) ((by decide)) (by decide) (by decide) (by decide) fun T h1 b7 hb_b7 X eT EX A_b7 => ?_
  have ne_x0_b7 : x0 ≠ b7 := by rw [hb_b7]; exact Nat.ne_of_lt (Fld.lt F_rowStart_x0)
  have ne_ar_b7 : ar ≠ b7 := by rw [hb_b7]; exact Nat.ne_of_lt A_ar.lt
  have ne_x1_b7 : x1 ≠ b7 := by rw [hb_b7]; exact Nat.ne_of_lt A_x1.lt
  have g_b7 : n0 ≤ b7 := by omega
  have ge_b7 : h0.size ≤ b7 := by have := K.1; omega
  replace F_rowStart_x0 := Fld.ext EX F_rowStart_x0
  replace A_ar := AV.ext A_ar EX
  replace A_x1 := AV.ext A_x1 EX
  replace Z0 := Nat.le_trans Z0 EX.1
  replace K := K.ext EX
  replace A_b7 : AV Z h1 b7 .int 0 (iF (fun _ => (0 : Int32))) := A_b7
  refine w_astoreN X hx (dq hby d3_9) rfl (Ls' := #[.val (.ref x0), .val (.ref x1), .val (.int (0 : Int32)), .val (.ref b7), .unset, .unset, .unset]) rfl ?_
  refine w_iconst X hx (dq hby d3_10) (z := 0) rfl ?_
  refine w_istore X hx (dq hby d3_11) (z := (0 : Int32)) rfl (Ls' := #[.val (.ref x0), .val (.ref x1), .val (.int (0 : Int32)), .val (.ref b7), .val (.int (0 : Int32)), .unset, .unset]) rfl ?_
  refine w_iconst X hx (dq hby d3_13) (z := 0) rfl ?_
  refine w_istore X hx (dq hby d3_14) (z := (0 : Int32)) rfl (Ls' := #[.val (.ref x0), .val (.ref x1), .val (.int (0 : Int32)), .val (.ref b7), .val (.int (0 : Int32)), .val (.int (0 : Int32)), .unset]) rfl ?_
  refine w_iload X hx (dq hby d3_16) rfl ?_
  refine w_iloadN X hx (dq hby d3_18) rfl ?_
  refine w_icmp_ge X hx (dj hby d3_19) (fun hc19 => ?_) (fun hc19 => (?_ : False).elim)
  rotate_left
  · exact absurd hc19 (by decide)
  refine w_aloadN X hx (dq hby d3_72) rfl rfl ?_
  refine w_retA X hx hret rfl rfl hlk (dq hby d3_73) (by decide) (by decide) ?_
  rw [eT]
  exact ⟨b7, (fun _ => (0 : Int32)), rfl, N, K, ge_b7, A_b7⟩
set_option maxRecDepth 65536 in
set_option maxHeartbeats 40000000 in
theorem init1 (l : Launch) (Z : State) (a0 : Array Value) (hw : ∀ d ∈ tables_1, d.before a0 Z = true) (x0 : Addr) (n0 : Nat) (h0 : Heap) (Z0 : n0 ≤ h0.size) (g_x0 : n0 ≤ x0) (E_x0 : Exa Z h0 x0 "com/example/topicweave/topicweave/core/NodePairs") (F_rowStart_x0 : Fld Z h0 x0 "com/example/topicweave/topicweave/core/NodePairs" "rowStart" "[I" .null) :
    Ct l Z (⟨"com/example/topicweave/topicweave/core/NodePairs", "<init>", "(I)V"⟩ : MethodName) prog_12_method_1_code 3 none ({ frames := 1, cells := 1, slots := 1, locals := 12 } : Room) #[(.ref x0), (.int (1 : Int32))] h0 (fun v h' L => v = none ∧ Fr n0 L ∧ Keep h0 h' [x0] ∧ Exa Z h' x0 "com/example/topicweave/topicweave/core/NodePairs" ∧ ∃ (ar : Addr) (g : Nat → Int32), n0 ≤ ar ∧ h0.size ≤ ar ∧ Fld Z h' x0 "com/example/topicweave/topicweave/core/NodePairs" "rowStart" "[I" (.ref ar) ∧ AV Z h' ar .int 1 (iF g)) := by
  refine Ct.body pn_1 ?_
  intro p e s m below meth c T X hx hby hml hown hnm hret hlk hZ eT
  rw [ef_1]
  have N := Fr.nil n0
  have K := Keep.refl h0 [x0]
  refine w_aloadN X hx (dq hby d1_0) rfl rfl ?_
  refine w_objinit X hx hZ eT hml (by rfl) hown (hw _ (List.mem_of_getElem? (i := 8) rfl)) (hw _ (List.mem_of_getElem? (i := 9) rfl)) (hw _ (List.mem_of_getElem? (i := 10) rfl)) (dq hby d1_1) (by decide) (W := 0) rfl (by decide) fun T X eT => ?_
  refine w_iloadN X hx (dq hby d1_4) rfl ?_
  refine w_ldc X hx hZ hown (hw _ (List.mem_of_getElem? (i := 11) rfl)) (dq hby d1_5) ?_
  refine w_icmp_le X hx (dj hby d1_7) (fun hc7 => ?_) (fun hc7 => (?_ : False).elim)
  rotate_left
  · exact absurd hc7 (by decide)
  refine w_aloadN X hx (dq hby d1_24) rfl rfl ?_
  refine w_iloadN X hx (dq hby d1_25) rfl ?_
  refine w_newarr X hx hZ eT (aty := .int) (hw _ (List.mem_of_getElem? (i := 1) rfl)) (dq hby d1_26) (n := 1) (cap := 1) (rfl) ((by decide)) (by decide) (by decide) (by decide) fun T h1 b26 hb_b26 X eT EX A_b26 => ?_
  have ne_x0_b26 : x0 ≠ b26 := by rw [hb_b26]; exact Nat.ne_of_lt (Fld.lt F_rowStart_x0)
  have g_b26 : n0 ≤ b26 := by omega
  have ge_b26 : h0.size ≤ b26 := by have := K.1; omega
  replace F_rowStart_x0 := Fld.ext EX F_rowStart_x0
  replace E_x0 := Exa.ext EX E_x0
  replace Z0 := Nat.le_trans Z0 EX.1
  replace K := K.ext EX
  replace A_b26 : AV Z h1 b26 .int 1 (iF (fun _ => (0 : Int32))) := A_b26
  refine w_putf X hx hZ eT hown (hw _ (List.mem_of_getElem? (i := 12) rfl)) F_rowStart_x0 E_x0 (Or.inr ⟨(hw _ (List.mem_of_getElem? (i := 13) rfl)), rfl, hnm⟩) (hw _ (List.mem_of_getElem? (i := 3) rfl)) (ty := (.array .int)) (by decide) rfl rfl (dq hby d1_28) fun T h2 X eT W => ?_
  replace E_x0 := Exa.wr W E_x0
  replace A_b26 := AV.other A_b26 W (Ne.symm ne_x0_b26)
  replace Z0 := Nat.le_trans Z0 (Nat.le_of_eq W.size.symm)
  replace K := K.wr W (Or.inl (List.mem_singleton.mpr rfl))
  replace N := Fr.snoc X N g_x0
  replace F_rowStart_x0 := Fld.same W F_rowStart_x0
  refine w_iconst X hx (dq hby d1_31) (z := 0) rfl ?_
  refine w_istoreN X hx (dq hby d1_32) (z := (0 : Int32)) rfl (Ls' := #[.val (.ref x0), .val (.int (1 : Int32)), .val (.int (0 : Int32))]) rfl ?_
  refine w_iloadN X hx (dq hby d1_33) rfl ?_
  refine w_iloadN X hx (dq hby d1_34) rfl ?_
  refine w_icmp_ge X hx (dj hby d1_35) (fun hc35 => (?_ : False).elim) (fun hc35 => ?_)
  · exact absurd hc35 (by decide)
  refine w_aloadN X hx (dq hby d1_38) rfl rfl ?_
  refine w_getf X hx hZ eT hown (hw _ (List.mem_of_getElem? (i := 12) rfl)) F_rowStart_x0 (dq hby d1_39) fun T X eT => ?_
  refine w_iloadN X hx (dq hby d1_42) rfl ?_
  refine w_iloadN X hx (dq hby d1_43) rfl ?_
  refine w_i2l X hx (dq hby d1_44) ?_
  refine w_eqJ (z := (0 : Int64)) (by decide) ?_
  refine w_ldc2 X hx hZ hown (hw _ (List.mem_of_getElem? (i := 19) rfl)) (dq hby d1_45) ?_
  refine w_iloadN X hx (dq hby d1_48) rfl ?_
  refine w_i2l X hx (dq hby d1_49) ?_
  refine w_eqJ (z := (1 : Int64)) (by decide) ?_
  refine w_lmul X hx (dq hby d1_50) ?_
  refine w_eqJ (z := (2 : Int64)) (by decide) ?_
  refine w_iloadN X hx (dq hby d1_51) rfl ?_
  refine w_i2l X hx (dq hby d1_52) ?_
  refine w_eqJ (z := (0 : Int64)) (by decide) ?_
  refine w_lsub X hx (dq hby d1_53) ?_
  refine w_eqJ (z := (2 : Int64)) (by decide) ?_
  refine w_lconst X hx (dq hby d1_54) (z := 1) rfl ?_
  refine w_lsub X hx (dq hby d1_55) ?_
  refine w_eqJ (z := (1 : Int64)) (by decide) ?_
  refine w_lmul X hx (dq hby d1_56) ?_
  refine w_eqJ (z := (0 : Int64)) (by decide) ?_
  refine w_ldc2 X hx hZ hown (hw _ (List.mem_of_getElem? (i := 19) rfl)) (dq hby d1_57) ?_
  refine w_ldiv X hx (dq hby d1_60) (by decide) ?_
  refine w_eqJ (z := (0 : Int64)) (by decide) ?_
  refine w_l2i X hx (dq hby d1_61) ?_
  refine w_eqI (z := (0 : Int32)) (by decide) ?_
  refine w_iastore X hx hZ eT A_b26 (i := 0) (rfl) (by decide) (dq hby d1_62) fun T h3 X eT W A' => ?_
  replace F_rowStart_x0 := Fld.other W F_rowStart_x0 (Or.inl ne_x0_b26)
  replace E_x0 := Exa.wr W E_x0
  replace Z0 := Nat.le_trans Z0 (Nat.le_of_eq W.size.symm)
  replace K := K.wr W (Or.inr ge_b26)
  replace N := Fr.snoc X N g_b26
  replace A_b26 := A'
  obtain ⟨g1_62, hg1_62⟩ : ∃ gg, gg = (upd (fun _ => (0 : Int32)) 0 ((0 : Int32))) := ⟨_, rfl⟩
  rw [← hg1_62] at A_b26
  refine w_iinc X hx (dq hby d1_63) rfl (z := (1 : Int32)) (by decide) (Ls' := #[.val (.ref x0), .val (.int (1 : Int32)), .val (.int (1 : Int32))]) rfl ?_
  refine w_goto X hx (dj hby d1_66) ?_
  refine w_iloadN X hx (dq hby d1_33) rfl ?_
  refine w_iloadN X hx (dq hby d1_34) rfl ?_
  refine w_icmp_ge X hx (dj hby d1_35) (fun hc35 => ?_) (fun hc35 => (?_ : False).elim)
  rotate_left
  · exact absurd hc35 (by decide)
  refine w_ret X hx hret hlk (dq hby d1_69) (by decide) (by decide) ?_
  rw [eT]
  exact ⟨rfl, N, K, E_x0, b26, _, g_b26, ge_b26, F_rowStart_x0, A_b26⟩
set_option maxRecDepth 65536 in
set_option maxHeartbeats 40000000 in
theorem part1 (l : Launch) (Z : State) (a0 : Array Value) (hw : ∀ d ∈ tables_1, d.before a0 Z = true) (x0 x1 : Addr) (n0 : Nat) (ar : Addr) (gr pr : Nat → Int32) (h0 : Heap) (Z0 : n0 ≤ h0.size) (F_rowStart_x0 : Fld Z h0 x0 "com/example/topicweave/topicweave/core/NodePairs" "rowStart" "[I" (.ref ar)) (A_ar : AV Z h0 ar .int 1 (iF gr)) (A_x1 : AV Z h0 x1 .int 0 (iF pr)) :
    Ct l Z (⟨"com/example/topicweave/topicweave/core/NodePairs", "partners", "([I)[I"⟩ : MethodName) prog_12_method_7_code 7 (some (.array .int)) ({ frames := 0, cells := 1, slots := 1, locals := 0 } : Room) #[(.ref x0), (.ref x1)] h0 (fun v h' L => ∃ (b : Addr) (f : Nat → Int32), v = some (.ref b) ∧ Fr n0 L ∧ Keep h0 h' [] ∧ h0.size ≤ b ∧ AV Z h' b .int 1 (iF f) ∧ f 0 = (0 : Int32)) := by
  refine Ct.body pn_3 ?_
  intro p e s m below meth c T X hx hby hml hown hnm hret hlk hZ eT
  rw [ef_3]
  have N := Fr.nil n0
  have K := Keep.refl h0 []
  refine w_aloadN X hx (dq hby d3_0) rfl rfl ?_
  refine w_getf X hx hZ eT hown (hw _ (List.mem_of_getElem? (i := 12) rfl)) F_rowStart_x0 (dq hby d3_1) fun T X eT => ?_
  refine w_arrlen X hx hZ eT A_ar (z := (1 : Int32)) (rfl) (dq hby d3_4) ?_
  refine w_istoreN X hx (dq hby d3_5) (z := (1 : Int32)) rfl (Ls' := #[.val (.ref x0), .val (.ref x1), .val (.int (1 : Int32)), .unset, .unset, .unset, .unset]) rfl ?_
  refine w_iloadN X hx (dq hby d3_6) rfl ?_
  refine w_newarr X hx hZ eT (aty := .int) (hw _ (List.mem_of_getElem? (i := 1) rfl)) (dq hby d3_7) (n := 1) (cap := 1) (rfl) ((by decide)) (by decide) (by decide) (by decide) fun T h1 b7 hb_b7 X eT EX A_b7 => ?_
  have ne_x0_b7 : x0 ≠ b7 := by rw [hb_b7]; exact Nat.ne_of_lt (Fld.lt F_rowStart_x0)
  have ne_ar_b7 : ar ≠ b7 := by rw [hb_b7]; exact Nat.ne_of_lt A_ar.lt
  have ne_x1_b7 : x1 ≠ b7 := by rw [hb_b7]; exact Nat.ne_of_lt A_x1.lt
  have g_b7 : n0 ≤ b7 := by omega
  have ge_b7 : h0.size ≤ b7 := by have := K.1; omega
  replace F_rowStart_x0 := Fld.ext EX F_rowStart_x0
  replace A_ar := AV.ext A_ar EX
  replace A_x1 := AV.ext A_x1 EX
  replace Z0 := Nat.le_trans Z0 EX.1
  replace K := K.ext EX
  replace A_b7 : AV Z h1 b7 .int 1 (iF (fun _ => (0 : Int32))) := A_b7
  refine w_astoreN X hx (dq hby d3_9) rfl (Ls' := #[.val (.ref x0), .val (.ref x1), .val (.int (1 : Int32)), .val (.ref b7), .unset, .unset, .unset]) rfl ?_
  refine w_iconst X hx (dq hby d3_10) (z := 0) rfl ?_
  refine w_istore X hx (dq hby d3_11) (z := (0 : Int32)) rfl (Ls' := #[.val (.ref x0), .val (.ref x1), .val (.int (1 : Int32)), .val (.ref b7), .val (.int (0 : Int32)), .unset, .unset]) rfl ?_
  refine w_iconst X hx (dq hby d3_13) (z := 0) rfl ?_
  refine w_istore X hx (dq hby d3_14) (z := (0 : Int32)) rfl (Ls' := #[.val (.ref x0), .val (.ref x1), .val (.int (1 : Int32)), .val (.ref b7), .val (.int (0 : Int32)), .val (.int (0 : Int32)), .unset]) rfl ?_
  refine w_iload X hx (dq hby d3_16) rfl ?_
  refine w_iloadN X hx (dq hby d3_18) rfl ?_
  refine w_icmp_ge X hx (dj hby d3_19) (fun hc19 => (?_ : False).elim) (fun hc19 => ?_)
  · exact absurd hc19 (by decide)
  refine w_iload X hx (dq hby d3_22) rfl ?_
  refine w_iconst X hx (dq hby d3_24) (z := 1) rfl ?_
  refine w_iadd X hx (dq hby d3_25) ?_
  refine w_eqI (z := (1 : Int32)) (by decide) ?_
  refine w_istore X hx (dq hby d3_26) (z := (1 : Int32)) rfl (Ls' := #[.val (.ref x0), .val (.ref x1), .val (.int (1 : Int32)), .val (.ref b7), .val (.int (0 : Int32)), .val (.int (0 : Int32)), .val (.int (1 : Int32))]) rfl ?_
  refine w_iload X hx (dq hby d3_28) rfl ?_
  refine w_iloadN X hx (dq hby d3_30) rfl ?_
  refine w_icmp_ge X hx (dj hby d3_31) (fun hc31 => ?_) (fun hc31 => (?_ : False).elim)
  rotate_left
  · exact absurd hc31 (by decide)
  refine w_iinc X hx (dq hby d3_66) rfl (z := (1 : Int32)) (by decide) (Ls' := #[.val (.ref x0), .val (.ref x1), .val (.int (1 : Int32)), .val (.ref b7), .val (.int (0 : Int32)), .val (.int (1 : Int32)), .val (.int (1 : Int32))]) rfl ?_
  refine w_goto X hx (dj hby d3_69) ?_
  refine w_iload X hx (dq hby d3_16) rfl ?_
  refine w_iloadN X hx (dq hby d3_18) rfl ?_
  refine w_icmp_ge X hx (dj hby d3_19) (fun hc19 => ?_) (fun hc19 => (?_ : False).elim)
  rotate_left
  · exact absurd hc19 (by decide)
  refine w_aloadN X hx (dq hby d3_72) rfl rfl ?_
  refine w_retA X hx hret rfl rfl hlk (dq hby d3_73) (by decide) (by decide) ?_
  rw [eT]
  exact ⟨b7, (fun _ => (0 : Int32)), rfl, N, K, ge_b7, A_b7, rfl⟩
set_option maxRecDepth 65536 in
set_option maxHeartbeats 40000000 in
theorem init2 (l : Launch) (Z : State) (a0 : Array Value) (hw : ∀ d ∈ tables_1, d.before a0 Z = true) (x0 : Addr) (n0 : Nat) (h0 : Heap) (Z0 : n0 ≤ h0.size) (g_x0 : n0 ≤ x0) (E_x0 : Exa Z h0 x0 "com/example/topicweave/topicweave/core/NodePairs") (F_rowStart_x0 : Fld Z h0 x0 "com/example/topicweave/topicweave/core/NodePairs" "rowStart" "[I" .null) :
    Ct l Z (⟨"com/example/topicweave/topicweave/core/NodePairs", "<init>", "(I)V"⟩ : MethodName) prog_12_method_1_code 3 none ({ frames := 1, cells := 1, slots := 2, locals := 12 } : Room) #[(.ref x0), (.int (2 : Int32))] h0 (fun v h' L => v = none ∧ Fr n0 L ∧ Keep h0 h' [x0] ∧ Exa Z h' x0 "com/example/topicweave/topicweave/core/NodePairs" ∧ ∃ (ar : Addr) (g : Nat → Int32), n0 ≤ ar ∧ h0.size ≤ ar ∧ Fld Z h' x0 "com/example/topicweave/topicweave/core/NodePairs" "rowStart" "[I" (.ref ar) ∧ AV Z h' ar .int 2 (iF g)) := by
  refine Ct.body pn_1 ?_
  intro p e s m below meth c T X hx hby hml hown hnm hret hlk hZ eT
  rw [ef_1]
  have N := Fr.nil n0
  have K := Keep.refl h0 [x0]
  refine w_aloadN X hx (dq hby d1_0) rfl rfl ?_
  refine w_objinit X hx hZ eT hml (by rfl) hown (hw _ (List.mem_of_getElem? (i := 8) rfl)) (hw _ (List.mem_of_getElem? (i := 9) rfl)) (hw _ (List.mem_of_getElem? (i := 10) rfl)) (dq hby d1_1) (by decide) (W := 0) rfl (by decide) fun T X eT => ?_
  refine w_iloadN X hx (dq hby d1_4) rfl ?_
  refine w_ldc X hx hZ hown (hw _ (List.mem_of_getElem? (i := 11) rfl)) (dq hby d1_5) ?_
  refine w_icmp_le X hx (dj hby d1_7) (fun hc7 => ?_) (fun hc7 => (?_ : False).elim)
  rotate_left
  · exact absurd hc7 (by decide)
  refine w_aloadN X hx (dq hby d1_24) rfl rfl ?_
  refine w_iloadN X hx (dq hby d1_25) rfl ?_
  refine w_newarr X hx hZ eT (aty := .int) (hw _ (List.mem_of_getElem? (i := 1) rfl)) (dq hby d1_26) (n := 2) (cap := 2) (rfl) ((by decide)) (by decide) (by decide) (by decide) fun T h1 b26 hb_b26 X eT EX A_b26 => ?_
  have ne_x0_b26 : x0 ≠ b26 := by rw [hb_b26]; exact Nat.ne_of_lt (Fld.lt F_rowStart_x0)
  have g_b26 : n0 ≤ b26 := by omega
  have ge_b26 : h0.size ≤ b26 := by have := K.1; omega
  replace F_rowStart_x0 := Fld.ext EX F_rowStart_x0
  replace E_x0 := Exa.ext EX E_x0
  replace Z0 := Nat.le_trans Z0 EX.1
  replace K := K.ext EX
  replace A_b26 : AV Z h1 b26 .int 2 (iF (fun _ => (0 : Int32))) := A_b26
  refine w_putf X hx hZ eT hown (hw _ (List.mem_of_getElem? (i := 12) rfl)) F_rowStart_x0 E_x0 (Or.inr ⟨(hw _ (List.mem_of_getElem? (i := 13) rfl)), rfl, hnm⟩) (hw _ (List.mem_of_getElem? (i := 3) rfl)) (ty := (.array .int)) (by decide) rfl rfl (dq hby d1_28) fun T h2 X eT W => ?_
  replace E_x0 := Exa.wr W E_x0
  replace A_b26 := AV.other A_b26 W (Ne.symm ne_x0_b26)
  replace Z0 := Nat.le_trans Z0 (Nat.le_of_eq W.size.symm)
  replace K := K.wr W (Or.inl (List.mem_singleton.mpr rfl))
  replace N := Fr.snoc X N g_x0
  replace F_rowStart_x0 := Fld.same W F_rowStart_x0
  refine w_iconst X hx (dq hby d1_31) (z := 0) rfl ?_
  refine w_istoreN X hx (dq hby d1_32) (z := (0 : Int32)) rfl (Ls' := #[.val (.ref x0), .val (.int (2 : Int32)), .val (.int (0 : Int32))]) rfl ?_
  refine w_iloadN X hx (dq hby d1_33) rfl ?_
  refine w_iloadN X hx (dq hby d1_34) rfl ?_
  refine w_icmp_ge X hx (dj hby d1_35) (fun hc35 => (?_ : False).elim) (fun hc35 => ?_)
  · exact absurd hc35 (by decide)
  refine w_aloadN X hx (dq hby d1_38) rfl rfl ?_
  refine w_getf X hx hZ eT hown (hw _ (List.mem_of_getElem? (i := 12) rfl)) F_rowStart_x0 (dq hby d1_39) fun T X eT => ?_
  refine w_iloadN X hx (dq hby d1_42) rfl ?_
  refine w_iloadN X hx (dq hby d1_43) rfl ?_
  refine w_i2l X hx (dq hby d1_44) ?_
  refine w_eqJ (z := (0 : Int64)) (by decide) ?_
  refine w_ldc2 X hx hZ hown (hw _ (List.mem_of_getElem? (i := 19) rfl)) (dq hby d1_45) ?_
  refine w_iloadN X hx (dq hby d1_48) rfl ?_
  refine w_i2l X hx (dq hby d1_49) ?_
  refine w_eqJ (z := (2 : Int64)) (by decide) ?_
  refine w_lmul X hx (dq hby d1_50) ?_
  refine w_eqJ (z := (4 : Int64)) (by decide) ?_
  refine w_iloadN X hx (dq hby d1_51) rfl ?_
  refine w_i2l X hx (dq hby d1_52) ?_
  refine w_eqJ (z := (0 : Int64)) (by decide) ?_
  refine w_lsub X hx (dq hby d1_53) ?_
  refine w_eqJ (z := (4 : Int64)) (by decide) ?_
  refine w_lconst X hx (dq hby d1_54) (z := 1) rfl ?_
  refine w_lsub X hx (dq hby d1_55) ?_
  refine w_eqJ (z := (3 : Int64)) (by decide) ?_
  refine w_lmul X hx (dq hby d1_56) ?_
  refine w_eqJ (z := (0 : Int64)) (by decide) ?_
  refine w_ldc2 X hx hZ hown (hw _ (List.mem_of_getElem? (i := 19) rfl)) (dq hby d1_57) ?_
  refine w_ldiv X hx (dq hby d1_60) (by decide) ?_
  refine w_eqJ (z := (0 : Int64)) (by decide) ?_
  refine w_l2i X hx (dq hby d1_61) ?_
  refine w_eqI (z := (0 : Int32)) (by decide) ?_
  refine w_iastore X hx hZ eT A_b26 (i := 0) (rfl) (by decide) (dq hby d1_62) fun T h3 X eT W A' => ?_
  replace F_rowStart_x0 := Fld.other W F_rowStart_x0 (Or.inl ne_x0_b26)
  replace E_x0 := Exa.wr W E_x0
  replace Z0 := Nat.le_trans Z0 (Nat.le_of_eq W.size.symm)
  replace K := K.wr W (Or.inr ge_b26)
  replace N := Fr.snoc X N g_b26
  replace A_b26 := A'
  obtain ⟨g1_62, hg1_62⟩ : ∃ gg, gg = (upd (fun _ => (0 : Int32)) 0 ((0 : Int32))) := ⟨_, rfl⟩
  rw [← hg1_62] at A_b26
  refine w_iinc X hx (dq hby d1_63) rfl (z := (1 : Int32)) (by decide) (Ls' := #[.val (.ref x0), .val (.int (2 : Int32)), .val (.int (1 : Int32))]) rfl ?_
  refine w_goto X hx (dj hby d1_66) ?_
  refine w_iloadN X hx (dq hby d1_33) rfl ?_
  refine w_iloadN X hx (dq hby d1_34) rfl ?_
  refine w_icmp_ge X hx (dj hby d1_35) (fun hc35 => (?_ : False).elim) (fun hc35 => ?_)
  · exact absurd hc35 (by decide)
  refine w_aloadN X hx (dq hby d1_38) rfl rfl ?_
  refine w_getf X hx hZ eT hown (hw _ (List.mem_of_getElem? (i := 12) rfl)) F_rowStart_x0 (dq hby d1_39) fun T X eT => ?_
  refine w_iloadN X hx (dq hby d1_42) rfl ?_
  refine w_iloadN X hx (dq hby d1_43) rfl ?_
  refine w_i2l X hx (dq hby d1_44) ?_
  refine w_eqJ (z := (1 : Int64)) (by decide) ?_
  refine w_ldc2 X hx hZ hown (hw _ (List.mem_of_getElem? (i := 19) rfl)) (dq hby d1_45) ?_
  refine w_iloadN X hx (dq hby d1_48) rfl ?_
  refine w_i2l X hx (dq hby d1_49) ?_
  refine w_eqJ (z := (2 : Int64)) (by decide) ?_
  refine w_lmul X hx (dq hby d1_50) ?_
  refine w_eqJ (z := (4 : Int64)) (by decide) ?_
  refine w_iloadN X hx (dq hby d1_51) rfl ?_
  refine w_i2l X hx (dq hby d1_52) ?_
  refine w_eqJ (z := (1 : Int64)) (by decide) ?_
  refine w_lsub X hx (dq hby d1_53) ?_
  refine w_eqJ (z := (3 : Int64)) (by decide) ?_
  refine w_lconst X hx (dq hby d1_54) (z := 1) rfl ?_
  refine w_lsub X hx (dq hby d1_55) ?_
  refine w_eqJ (z := (2 : Int64)) (by decide) ?_
  refine w_lmul X hx (dq hby d1_56) ?_
  refine w_eqJ (z := (2 : Int64)) (by decide) ?_
  refine w_ldc2 X hx hZ hown (hw _ (List.mem_of_getElem? (i := 19) rfl)) (dq hby d1_57) ?_
  refine w_ldiv X hx (dq hby d1_60) (by decide) ?_
  refine w_eqJ (z := (1 : Int64)) (by decide) ?_
  refine w_l2i X hx (dq hby d1_61) ?_
  refine w_eqI (z := (1 : Int32)) (by decide) ?_
  refine w_iastore X hx hZ eT A_b26 (i := 1) (rfl) (by decide) (dq hby d1_62) fun T h4 X eT W A' => ?_
  replace F_rowStart_x0 := Fld.other W F_rowStart_x0 (Or.inl ne_x0_b26)
  replace E_x0 := Exa.wr W E_x0
  replace Z0 := Nat.le_trans Z0 (Nat.le_of_eq W.size.symm)
  replace K := K.wr W (Or.inr ge_b26)
  replace N := Fr.snoc X N g_b26
  replace A_b26 := A'
  obtain ⟨g1_62_r1, hg1_62_r1⟩ : ∃ gg, gg = (upd g1_62 1 ((1 : Int32))) := ⟨_, rfl⟩
  rw [← hg1_62_r1] at A_b26
  refine w_iinc X hx (dq hby d1_63) rfl (z := (2 : Int32)) (by decide) (Ls' := #[.val (.ref x0), .val (.int (2 : Int32)), .val (.int (2 : Int32))]) rfl ?_
  refine w_goto X hx (dj hby d1_66) ?_
  refine w_iloadN X hx (dq hby d1_33) rfl ?_
  refine w_iloadN X hx (dq hby d1_34) rfl ?_
  refine w_icmp_ge X hx (dj hby d1_35) (fun hc35 => ?_) (fun hc35 => (?_ : False).elim)
  rotate_left
  · exact absurd hc35 (by decide)
  refine w_ret X hx hret hlk (dq hby d1_69) (by decide) (by decide) ?_
  rw [eT]
  exact ⟨rfl, N, K, E_x0, b26, _, g_b26, ge_b26, F_rowStart_x0, A_b26⟩
set_option maxRecDepth 65536 in
set_option maxHeartbeats 40000000 in
theorem part2 (l : Launch) (Z : State) (a0 : Array Value) (hw : ∀ d ∈ tables_1, d.before a0 Z = true) (x0 x1 : Addr) (n0 : Nat) (ar : Addr) (gr pr : Nat → Int32) (h0 : Heap) (Z0 : n0 ≤ h0.size) (F_rowStart_x0 : Fld Z h0 x0 "com/example/topicweave/topicweave/core/NodePairs" "rowStart" "[I" (.ref ar)) (A_ar : AV Z h0 ar .int 2 (iF gr)) (A_x1 : AV Z h0 x1 .int 1 (iF pr)) :
    Ct l Z (⟨"com/example/topicweave/topicweave/core/NodePairs", "partners", "([I)[I"⟩ : MethodName) prog_12_method_7_code 7 (some (.array .int)) ({ frames := 0, cells := 1, slots := 2, locals := 0 } : Room) #[(.ref x0), (.ref x1)] h0 (fun v h' L => ∃ (b : Addr) (f : Nat → Int32), v = some (.ref b) ∧ Fr n0 L ∧ Keep h0 h' [] ∧ h0.size ≤ b ∧ AV Z h' b .int 2 (iF f) ∧ f 0 = (0 : Int32) + ps (pr 0) ∧ f 1 = (0 : Int32) + ps (pr 0)) := by
  refine Ct.body pn_3 ?_
  intro p e s m below meth c T X hx hby hml hown hnm hret hlk hZ eT
  rw [ef_3]
  have N := Fr.nil n0
  have K := Keep.refl h0 []
  refine w_aloadN X hx (dq hby d3_0) rfl rfl ?_
  refine w_getf X hx hZ eT hown (hw _ (List.mem_of_getElem? (i := 12) rfl)) F_rowStart_x0 (dq hby d3_1) fun T X eT => ?_
  refine w_arrlen X hx hZ eT A_ar (z := (2 : Int32)) (rfl) (dq hby d3_4) ?_
  refine w_istoreN X hx (dq hby d3_5) (z := (2 : Int32)) rfl (Ls' := #[.val (.ref x0), .val (.ref x1), .val (.int (2 : Int32)), .unset, .unset, .unset, .unset]) rfl ?_
  refine w_iloadN X hx (dq hby d3_6) rfl ?_
  refine w_newarr X hx hZ eT (aty := .int) (hw _ (List.mem_of_getElem? (i := 1) rfl)) (dq hby d3_7) (n := 2) (cap := 2) (rfl) ((by decide)) (by decide) (by decide) (by decide) fun T h1 b7 hb_b7 X eT EX A_b7 => ?_
  have ne_x0_b7 : x0 ≠ b7 := by rw [hb_b7]; exact Nat.ne_of_lt (Fld.lt F_rowStart_x0)
  have ne_ar_b7 : ar ≠ b7 := by rw [hb_b7]; exact Nat.ne_of_lt A_ar.lt
  have ne_x1_b7 : x1 ≠ b7 := by rw [hb_b7]; exact Nat.ne_of_lt A_x1.lt
  have g_b7 : n0 ≤ b7 := by omega
  have ge_b7 : h0.size ≤ b7 := by have := K.1; omega
  replace F_rowStart_x0 := Fld.ext EX F_rowStart_x0
  replace A_ar := AV.ext A_ar EX
  replace A_x1 := AV.ext A_x1 EX
  replace Z0 := Nat.le_trans Z0 EX.1
  replace K := K.ext EX
  replace A_b7 : AV Z h1 b7 .int 2 (iF (fun _ => (0 : Int32))) := A_b7
  refine w_astoreN X hx (dq hby d3_9) rfl (Ls' := #[.val (.ref x0), .val (.ref x1), .val (.int (2 : Int32)), .val (.ref b7), .unset, .unset, .unset]) rfl ?_
  refine w_iconst X hx (dq hby d3_10) (z := 0) rfl ?_
  refine w_istore X hx (dq hby d3_11) (z := (0 : Int32)) rfl (Ls' := #[.val (.ref x0), .val (.ref x1), .val (.int (2 : Int32)), .val (.ref b7), .val (.int (0 : Int32)), .unset, .unset]) rfl ?_
  refine w_iconst X hx (dq hby d3_13) (z := 0) rfl ?_
  refine w_istore X hx (dq hby d3_14) (z := (0 : Int32)) rfl (Ls' := #[.val (.ref x0), .val (.ref x1), .val (.int (2 : Int32)), .val (.ref b7), .val (.int (0 : Int32)), .val (.int (0 : Int32)), .unset]) rfl ?_
  refine w_iload X hx (dq hby d3_16) rfl ?_
  refine w_iloadN X hx (dq hby d3_18) rfl ?_
  refine w_icmp_ge X hx (dj hby d3_19) (fun hc19 => (?_ : False).elim) (fun hc19 => ?_)
  · exact absurd hc19 (by decide)
  refine w_iload X hx (dq hby d3_22) rfl ?_
  refine w_iconst X hx (dq hby d3_24) (z := 1) rfl ?_
  refine w_iadd X hx (dq hby d3_25) ?_
  refine w_eqI (z := (1 : Int32)) (by decide) ?_
  refine w_istore X hx (dq hby d3_26) (z := (1 : Int32)) rfl (Ls' := #[.val (.ref x0), .val (.ref x1), .val (.int (2 : Int32)), .val (.ref b7), .val (.int (0 : Int32)), .val (.int (0 : Int32)), .val (.int (1 : Int32))]) rfl ?_
  refine w_iload X hx (dq hby d3_28) rfl ?_
  refine w_iloadN X hx (dq hby d3_30) rfl ?_
  refine w_icmp_ge X hx (dj hby d3_31) (fun hc31 => (?_ : False).elim) (fun hc31 => ?_)
  · exact absurd hc31 (by decide)
  refine w_j4 (fun (T : State) (locs : List Loc) (hj0 : Heap) (gj0 : Nat → Int32) => T.setTop (mkF m 60 #[.val (.ref x0), .val (.ref x1), .val (.int (2 : Int32)), .val (.ref b7), .val (.int (1 : Int32)), .val (.int (0 : Int32)), .val (.int (1 : Int32))] [])) (fun T locs hj0 gj0 => Stand p l e ({ frames := 0, cells := 1, slots := 2, locals := 0 } : Room) s m #[(.ref x0), (.ref x1)] below meth c T locs 1 2 ∧ T.heap = hj0 ∧ n0 ≤ hj0.size ∧ Fr n0 locs ∧ Keep h0 hj0 [] ∧ AV Z hj0 x1 .int 1 (iF pr) ∧ AV Z hj0 b7 .int 2 (iF gj0) ∧ gj0 0 = (fun _ => (0 : Int32)) 0 + ps (pr 0) ∧ gj0 1 = (fun _ => (0 : Int32)) 1 + ps (pr 0) ∧ ∀ i, i ≠ 0 → i ≠ 1 → gj0 i = (fun _ => (0 : Int32)) i) (fun T locs hj0 gj0 hq => ?_) (fun J60 => ?_)
  · try dsimp only at hq ⊢
    obtain ⟨X, eT, hq⟩ := hq
    obtain ⟨Z0, N, K, A_x1, A_b7, ea0, eb0, eo0⟩ := hq
    refine w_iinc X hx (dq hby d3_60) rfl (z := (2 : Int32)) (by decide) (Ls' := #[.val (.ref x0), .val (.ref x1), .val (.int (2 : Int32)), .val (.ref b7), .val (.int (1 : Int32)), .val (.int (0 : Int32)), .val (.int (2 : Int32))]) rfl ?_
    refine w_goto X hx (dj hby d3_63) ?_
    refine w_iload X hx (dq hby d3_28) rfl ?_
    refine w_iloadN X hx (dq hby d3_30) rfl ?_
    refine w_icmp_ge X hx (dj hby d3_31) (fun hc31 => ?_) (fun hc31 => (?_ : False).elim)
    rotate_left
    · exact absurd hc31 (by decide)
    refine w_iinc X hx (dq hby d3_66) rfl (z := (1 : Int32)) (by decide) (Ls' := #[.val (.ref x0), .val (.ref x1), .val (.int (2 : Int32)), .val (.ref b7), .val (.int (1 : Int32)), .val (.int (1 : Int32)), .val (.int (2 : Int32))]) rfl ?_
    refine w_goto X hx (dj hby d3_69) ?_
    refine w_iload X hx (dq hby d3_16) rfl ?_
    refine w_iloadN X hx (dq hby d3_18) rfl ?_
    refine w_icmp_ge X hx (dj hby d3_19) (fun hc19 => (?_ : False).elim) (fun hc19 => ?_)
    · exact absurd hc19 (by decide)
    refine w_iload X hx (dq hby d3_22) rfl ?_
    refine w_iconst X hx (dq hby d3_24) (z := 1) rfl ?_
    refine w_iadd X hx (dq hby d3_25) ?_
    refine w_eqI (z := (2 : Int32)) (by decide) ?_
    refine w_istore X hx (dq hby d3_26) (z := (2 : Int32)) rfl (Ls' := #[.val (.ref x0), .val (.ref x1), .val (.int (2 : Int32)), .val (.ref b7), .val (.int (1 : Int32)), .val (.int (1 : Int32)), .val (.int (2 : Int32))]) rfl ?_
    refine w_iload X hx (dq hby d3_28) rfl ?_
    refine w_iloadN X hx (dq hby d3_30) rfl ?_
    refine w_icmp_ge X hx (dj hby d3_31) (fun hc31 => ?_) (fun hc31 => (?_ : False).elim)
    rotate_left
    · exact absurd hc31 (by decide)
    refine w_iinc X hx (dq hby d3_66) rfl (z := (2 : Int32)) (by decide) (Ls' := #[.val (.ref x0), .val (.ref x1), .val (.int (2 : Int32)), .val (.ref b7), .val (.int (1 : Int32)), .val (.int (2 : Int32)), .val (.int (2 : Int32))]) rfl ?_
    refine w_goto X hx (dj hby d3_69) ?_
    refine w_iload X hx (dq hby d3_16) rfl ?_
    refine w_iloadN X hx (dq hby d3_18) rfl ?_
    refine w_icmp_ge X hx (dj hby d3_19) (fun hc19 => ?_) (fun hc19 => (?_ : False).elim)
    rotate_left
    · exact absurd hc19 (by decide)
    refine w_aloadN X hx (dq hby d3_72) rfl rfl ?_
    refine w_retA X hx hret rfl rfl hlk (dq hby d3_73) (by decide) (by decide) ?_
    rw [eT]
    exact ⟨b7, gj0, rfl, N, K, ge_b7, A_b7, by rw [ea0], by rw [eb0]⟩
  refine w_aloadN X hx (dq hby d3_34) rfl rfl ?_
  refine w_iload X hx (dq hby d3_35) rfl ?_
  refine w_iinc X hx (dq hby d3_37) rfl (z := (1 : Int32)) (by decide) (Ls' := #[.val (.ref x0), .val (.ref x1), .val (.int (2 : Int32)), .val (.ref b7), .val (.int (1 : Int32)), .val (.int (0 : Int32)), .val (.int (1 : Int32))]) rfl ?_
  refine w_iaload X hx hZ eT A_x1 (i := 0) (rfl) (by decide) (z := (pr 0)) (rfl) (dq hby d3_40) ?_
  refine w_if_le X hx (dj hby d3_41) (fun hc41 => ?_) (fun hc41 => ?_)
  · exact J60 T _ h1 (fun _ => (0 : Int32)) ⟨X, eT, Z0, N, K, A_x1, A_b7, by rw [ps_f hc41, Int32.add_zero], by rw [ps_f hc41, Int32.add_zero], fun i _ _ => rfl⟩
  · refine w_aloadN X hx (dq hby d3_44) rfl rfl ?_
    refine w_iload X hx (dq hby d3_45) rfl ?_
    refine w_dup2 X hx (dq hby d3_47) rfl rfl ?_
    refine w_iaload X hx hZ eT A_b7 (i := 0) (rfl) (by decide) (z := ((fun _ => (0 : Int32)) 0)) (rfl) (dq hby d3_48) ?_
    refine w_iconst X hx (dq hby d3_49) (z := 1) rfl ?_
    refine w_iadd X hx (dq hby d3_50) ?_
    refine w_iastore X hx hZ eT A_b7 (i := 0) (rfl) (by decide) (dq hby d3_51) fun T h2 X eT W A' => ?_
    replace A_x1 := AV.other A_x1 W ne_x1_b7
    replace Z0 := Nat.le_trans Z0 (Nat.le_of_eq W.size.symm)
    replace K := K.wr W (Or.inr ge_b7)
    replace N := Fr.snoc X N g_b7
    replace A_b7 := A'
    obtain ⟨g3_51, hg3_51⟩ : ∃ gg, gg = (upd (fun _ => (0 : Int32)) 0 ((((fun _ => (0 : Int32)) 0) + (1 : Int32)))) := ⟨_, rfl⟩
    rw [← hg3_51] at A_b7
    refine w_aloadN X hx (dq hby d3_52) rfl rfl ?_
    refine w_iload X hx (dq hby d3_53) rfl ?_
    refine w_dup2 X hx (dq hby d3_55) rfl rfl ?_
    refine w_iaload X hx hZ eT A_b7 (i := 1) (rfl) (by decide) (z := (g3_51 1)) (rfl) (dq hby d3_56) ?_
    refine w_iconst X hx (dq hby d3_57) (z := 1) rfl ?_
    refine w_iadd X hx (dq hby d3_58) ?_
    refine w_iastore X hx hZ eT A_b7 (i := 1) (rfl) (by decide) (dq hby d3_59) fun T h3 X eT W A' => ?_
    replace A_x1 := AV.other A_x1 W ne_x1_b7
    replace Z0 := Nat.le_trans Z0 (Nat.le_of_eq W.size.symm)
    replace K := K.wr W (Or.inr ge_b7)
    replace N := Fr.snoc X N g_b7
    replace A_b7 := A'
    obtain ⟨g3_59, hg3_59⟩ : ∃ gg, gg = (upd g3_51 1 (((g3_51 1) + (1 : Int32)))) := ⟨_, rfl⟩
    rw [← hg3_59] at A_b7
    exact J60 T _ h3 g3_59 ⟨X, eT, Z0, N, K, A_x1, A_b7, by rw [ps_t hc41, hg3_59, upd_ne _ _ (by decide), hg3_51, upd_at], by rw [ps_t hc41, hg3_59, upd_at, hg3_51, upd_ne _ _ (by decide)], fun i q1 q2 => by rw [hg3_59, upd_ne _ _ q2, hg3_51, upd_ne _ _ q1]⟩
set_option maxRecDepth 65536 in
set_option maxHeartbeats 40000000 in
theorem init3 (l : Launch) (Z : State) (a0 : Array Value) (hw : ∀ d ∈ tables_1, d.before a0 Z = true) (x0 : Addr) (n0 : Nat) (h0 : Heap) (Z0 : n0 ≤ h0.size) (g_x0 : n0 ≤ x0) (E_x0 : Exa Z h0 x0 "com/example/topicweave/topicweave/core/NodePairs") (F_rowStart_x0 : Fld Z h0 x0 "com/example/topicweave/topicweave/core/NodePairs" "rowStart" "[I" .null) :
    Ct l Z (⟨"com/example/topicweave/topicweave/core/NodePairs", "<init>", "(I)V"⟩ : MethodName) prog_12_method_1_code 3 none ({ frames := 1, cells := 1, slots := 3, locals := 12 } : Room) #[(.ref x0), (.int (3 : Int32))] h0 (fun v h' L => v = none ∧ Fr n0 L ∧ Keep h0 h' [x0] ∧ Exa Z h' x0 "com/example/topicweave/topicweave/core/NodePairs" ∧ ∃ (ar : Addr) (g : Nat → Int32), n0 ≤ ar ∧ h0.size ≤ ar ∧ Fld Z h' x0 "com/example/topicweave/topicweave/core/NodePairs" "rowStart" "[I" (.ref ar) ∧ AV Z h' ar .int 3 (iF g)) := by
  refine Ct.body pn_1 ?_
  intro p e s m below meth c T X hx hby hml hown hnm hret hlk hZ eT
  rw [ef_1]
  have N := Fr.nil n0
  have K := Keep.refl h0 [x0]
  refine w_aloadN X hx (dq hby d1_0) rfl rfl ?_
  refine w_objinit X hx hZ eT hml (by rfl) hown (hw _ (List.mem_of_getElem? (i := 8) rfl)) (hw _ (List.mem_of_getElem? (i := 9) rfl)) (hw _ (List.mem_of_getElem? (i := 10) rfl)) (dq hby d1_1) (by decide) (W := 0) rfl (by decide) fun T X eT => ?_
  refine w_iloadN X hx (dq hby d1_4) rfl ?_
  refine w_ldc X hx hZ hown (hw _ (List.mem_of_getElem? (i := 11) rfl)) (dq hby d1_5) ?_
  refine w_icmp_le X hx (dj hby d1_7) (fun hc7 => ?_) (fun hc7 => (?_ : False).elim)
  rotate_left
  · exact absurd hc7 (by decide)
  refine w_aloadN X hx (dq hby d1_24) rfl rfl ?_
  refine w_iloadN X hx (dq hby d1_25) rfl ?_
  refine w_newarr X hx hZ eT (aty := .int) (hw _ (List.mem_of_getElem? (i := 1) rfl)) (dq hby d1_26) (n := 3) (cap := 3) (rfl) ((by decide)) (by decide) (by decide) (by decide) fun T h1 b26 hb_b26 X eT EX A_b26 => ?_
  have ne_x0_b26 : x0 ≠ b26 := by rw [hb_b26]; exact Nat.ne_of_lt (Fld.lt F_rowStart_x0)
  have g_b26 : n0 ≤ b26 := by omega
  have ge_b26 : h0.size ≤ b26 := by have := K.1; omega
  replace F_rowStart_x0 := Fld.ext EX F_rowStart_x0
  replace E_x0 := Exa.ext EX E_x0
  replace Z0 := Nat.le_trans Z0 EX.1
  replace K := K.ext EX
  replace A_b26 : AV Z h1 b26 .int 3 (iF (fun _ => (0 : Int32))) := A_b26
  refine w_putf X hx hZ eT hown (hw _ (List.mem_of_getElem? (i := 12) rfl)) F_rowStart_x0 E_x0 (Or.inr ⟨(hw _ (List.mem_of_getElem? (i := 13) rfl)), rfl, hnm⟩) (hw _ (List.mem_of_getElem? (i := 3) rfl)) (ty := (.array .int)) (by decide) rfl rfl (dq hby d1_28) fun T h2 X eT W => ?_
  replace E_x0 := Exa.wr W E_x0
  replace A_b26 := AV.other A_b26 W (Ne.symm ne_x0_b26)
  replace Z0 := Nat.le_trans Z0 (Nat.le_of_eq W.size.symm)
  replace K := K.wr W (Or.inl (List.mem_singleton.mpr rfl))
  replace N := Fr.snoc X N g_x0
  replace F_rowStart_x0 := Fld.same W F_rowStart_x0
  refine w_iconst X hx (dq hby d1_31) (z := 0) rfl ?_
  refine w_istoreN X hx (dq hby d1_32) (z := (0 : Int32)) rfl (Ls' := #[.val (.ref x0), .val (.int (3 : Int32)), .val (.int (0 : Int32))]) rfl ?_
  refine w_iloadN X hx (dq hby d1_33) rfl ?_
  refine w_iloadN X hx (dq hby d1_34) rfl ?_
  refine w_icmp_ge X hx (dj hby d1_35) (fun hc35 => (?_ : False).elim) (fun hc35 => ?_)
  · exact absurd hc35 (by decide)
  refine w_aloadN X hx (dq hby d1_38) rfl rfl ?_
  refine w_getf X hx hZ eT hown (hw _ (List.mem_of_getElem? (i := 12) rfl)) F_rowStart_x0 (dq hby d1_39) fun T X eT => ?_
  refine w_iloadN X hx (dq hby d1_42) rfl ?_
  refine w_iloadN X hx (dq hby d1_43) rfl ?_
  refine w_i2l X hx (dq hby d1_44) ?_
  refine w_eqJ (z := (0 : Int64)) (by decide) ?_
  refine w_ldc2 X hx hZ hown (hw _ (List.mem_of_getElem? (i := 19) rfl)) (dq hby d1_45) ?_
  refine w_iloadN X hx (dq hby d1_48) rfl ?_
  refine w_i2l X hx (dq hby d1_49) ?_
  refine w_eqJ (z := (3 : Int64)) (by decide) ?_
  refine w_lmul X hx (dq hby d1_50) ?_
  refine w_eqJ (z := (6 : Int64)) (by decide) ?_
  refine w_iloadN X hx (dq hby d1_51) rfl ?_
  refine w_i2l X hx (dq hby d1_52) ?_
  refine w_eqJ (z := (0 : Int64)) (by decide) ?_
  refine w_lsub X hx (dq hby d1_53) ?_
  refine w_eqJ (z := (6 : Int64)) (by decide) ?_
  refine w_lconst X hx (dq hby d1_54) (z := 1) rfl ?_
  refine w_lsub X hx (dq hby d1_55) ?_
  refine w_eqJ (z := (5 : Int64)) (by decide) ?_
  refine w_lmul X hx (dq hby d1_56) ?_
  refine w_eqJ (z := (0 : Int64)) (by decide) ?_
  refine w_ldc2 X hx hZ hown (hw _ (List.mem_of_getElem? (i := 19) rfl)) (dq hby d1_57) ?_
  refine w_ldiv X hx (dq hby d1_60) (by decide) ?_
  refine w_eqJ (z := (0 : Int64)) (by decide) ?_
  refine w_l2i X hx (dq hby d1_61) ?_
  refine w_eqI (z := (0 : Int32)) (by decide) ?_
  refine w_iastore X hx hZ eT A_b26 (i := 0) (rfl) (by decide) (dq hby d1_62) fun T h3 X eT W A' => ?_
  replace F_rowStart_x0 := Fld.other W F_rowStart_x0 (Or.inl ne_x0_b26)
  replace E_x0 := Exa.wr W E_x0
  replace Z0 := Nat.le_trans Z0 (Nat.le_of_eq W.size.symm)
  replace K := K.wr W (Or.inr ge_b26)
  replace N := Fr.snoc X N g_b26
  replace A_b26 := A'
  obtain ⟨g1_62, hg1_62⟩ : ∃ gg, gg = (upd (fun _ => (0 : Int32)) 0 ((0 : Int32))) := ⟨_, rfl⟩
  rw [← hg1_62] at A_b26
  refine w_iinc X hx (dq hby d1_63) rfl (z := (1 : Int32)) (by decide) (Ls' := #[.val (.ref x0), .val (.int (3 : Int32)), .val (.int (1 : Int32))]) rfl ?_
  refine w_goto X hx (dj hby d1_66) ?_
  refine w_iloadN X hx (dq hby d1_33) rfl ?_
  refine w_iloadN X hx (dq hby d1_34) rfl ?_
  refine w_icmp_ge X hx (dj hby d1_35) (fun hc35 => (?_ : False).elim) (fun hc35 => ?_)
  · exact absurd hc35 (by decide)
  refine w_aloadN X hx (dq hby d1_38) rfl rfl ?_
  refine w_getf X hx hZ eT hown (hw _ (List.mem_of_getElem? (i := 12) rfl)) F_rowStart_x0 (dq hby d1_39) fun T X eT => ?_
  refine w_iloadN X hx (dq hby d1_42) rfl ?_
  refine w_iloadN X hx (dq hby d1_43) rfl ?_
  refine w_i2l X hx (dq hby d1_44) ?_
  refine w_eqJ (z := (1 : Int64)) (by decide) ?_
  refine w_ldc2 X hx hZ hown (hw _ (List.mem_of_getElem? (i := 19) rfl)) (dq hby d1_45) ?_
  refine w_iloadN X hx (dq hby d1_48) rfl ?_
  refine w_i2l X hx (dq hby d1_49) ?_
  refine w_eqJ (z := (3 : Int64)) (by decide) ?_
  refine w_lmul X hx (dq hby d1_50) ?_
  refine w_eqJ (z := (6 : Int64)) (by decide) ?_
  refine w_iloadN X hx (dq hby d1_51) rfl ?_
  refine w_i2l X hx (dq hby d1_52) ?_
  refine w_eqJ (z := (1 : Int64)) (by decide) ?_
  refine w_lsub X hx (dq hby d1_53) ?_
  refine w_eqJ (z := (5 : Int64)) (by decide) ?_
  refine w_lconst X hx (dq hby d1_54) (z := 1) rfl ?_
  refine w_lsub X hx (dq hby d1_55) ?_
  refine w_eqJ (z := (4 : Int64)) (by decide) ?_
  refine w_lmul X hx (dq hby d1_56) ?_
  refine w_eqJ (z := (4 : Int64)) (by decide) ?_
  refine w_ldc2 X hx hZ hown (hw _ (List.mem_of_getElem? (i := 19) rfl)) (dq hby d1_57) ?_
  refine w_ldiv X hx (dq hby d1_60) (by decide) ?_
  refine w_eqJ (z := (2 : Int64)) (by decide) ?_
  refine w_l2i X hx (dq hby d1_61) ?_
  refine w_eqI (z := (2 : Int32)) (by decide) ?_
  refine w_iastore X hx hZ eT A_b26 (i := 1) (rfl) (by decide) (dq hby d1_62) fun T h4 X eT W A' => ?_
  replace F_rowStart_x0 := Fld.other W F_rowStart_x0 (Or.inl ne_x0_b26)
  replace E_x0 := Exa.wr W E_x0
  replace Z0 := Nat.le_trans Z0 (Nat.le_of_eq W.size.symm)
  replace K := K.wr W (Or.inr ge_b26)
  replace N := Fr.snoc X N g_b26
  replace A_b26 := A'
  obtain ⟨g1_62_r1, hg1_62_r1⟩ : ∃ gg, gg = (upd g1_62 1 ((2 : Int32))) := ⟨_, rfl⟩
  rw [← hg1_62_r1] at A_b26
  refine w_iinc X hx (dq hby d1_63) rfl (z := (2 : Int32)) (by decide) (Ls' := #[.val (.ref x0), .val (.int (3 : Int32)), .val (.int (2 : Int32))]) rfl ?_
  refine w_goto X hx (dj hby d1_66) ?_
  refine w_iloadN X hx (dq hby d1_33) rfl ?_
  refine w_iloadN X hx (dq hby d1_34) rfl ?_
  refine w_icmp_ge X hx (dj hby d1_35) (fun hc35 => (?_ : False).elim) (fun hc35 => ?_)
  · exact absurd hc35 (by decide)
  refine w_aloadN X hx (dq hby d1_38) rfl rfl ?_
  refine w_getf X hx hZ eT hown (hw _ (List.mem_of_getElem? (i := 12) rfl)) F_rowStart_x0 (dq hby d1_39) fun T X eT => ?_
  refine w_iloadN X hx (dq hby d1_42) rfl ?_
  refine w_iloadN X hx (dq hby d1_43) rfl ?_
  refine w_i2l X hx (dq hby d1_44) ?_
  refine w_eqJ (z := (2 : Int64)) (by decide) ?_
  refine w_ldc2 X hx hZ hown (hw _ (List.mem_of_getElem? (i := 19) rfl)) (dq hby d1_45) ?_
  refine w_iloadN X hx (dq hby d1_48) rfl ?_
  refine w_i2l X hx (dq hby d1_49) ?_
  refine w_eqJ (z := (3 : Int64)) (by decide) ?_
  refine w_lmul X hx (dq hby d1_50) ?_
  refine w_eqJ (z := (6 : Int64)) (by decide) ?_
  refine w_iloadN X hx (dq hby d1_51) rfl ?_
  refine w_i2l X hx (dq hby d1_52) ?_
  refine w_eqJ (z := (2 : Int64)) (by decide) ?_
  refine w_lsub X hx (dq hby d1_53) ?_
  refine w_eqJ (z := (4 : Int64)) (by decide) ?_
  refine w_lconst X hx (dq hby d1_54) (z := 1) rfl ?_
  refine w_lsub X hx (dq hby d1_55) ?_
  refine w_eqJ (z := (3 : Int64)) (by decide) ?_
  refine w_lmul X hx (dq hby d1_56) ?_
  refine w_eqJ (z := (6 : Int64)) (by decide) ?_
  refine w_ldc2 X hx hZ hown (hw _ (List.mem_of_getElem? (i := 19) rfl)) (dq hby d1_57) ?_
  refine w_ldiv X hx (dq hby d1_60) (by decide) ?_
  refine w_eqJ (z := (3 : Int64)) (by decide) ?_
  refine w_l2i X hx (dq hby d1_61) ?_
  refine w_eqI (z := (3 : Int32)) (by decide) ?_
  refine w_iastore X hx hZ eT A_b26 (i := 2) (rfl) (by decide) (dq hby d1_62) fun T h5 X eT W A' => ?_
  replace F_rowStart_x0 := Fld.other W F_rowStart_x0 (Or.inl ne_x0_b26)
  replace E_x0 := Exa.wr W E_x0
  replace Z0 := Nat.le_trans Z0 (Nat.le_of_eq W.size.symm)
  replace K := K.wr W (Or.inr ge_b26)
  replace N := Fr.snoc X N g_b26
  replace A_b26 := A'
  obtain ⟨g1_62_r2, hg1_62_r2⟩ : ∃ gg, gg = (upd g1_62_r1 2 ((3 : Int32))) := ⟨_, rfl⟩
  rw [← hg1_62_r2] at A_b26
  refine w_iinc X hx (dq hby d1_63) rfl (z := (3 : Int32)) (by decide) (Ls' := #[.val (.ref x0), .val (.int (3 : Int32)), .val (.int (3 : Int32))]) rfl ?_
  refine w_goto X hx (dj hby d1_66) ?_
  refine w_iloadN X hx (dq hby d1_33) rfl ?_
  refine w_iloadN X hx (dq hby d1_34) rfl ?_
  refine w_icmp_ge X hx (dj hby d1_35) (fun hc35 => ?_) (fun hc35 => (?_ : False).elim)
  rotate_left
  · exact absurd hc35 (by decide)
  refine w_ret X hx hret hlk (dq hby d1_69) (by decide) (by decide) ?_
  rw [eT]
  exact ⟨rfl, N, K, E_x0, b26, _, g_b26, ge_b26, F_rowStart_x0, A_b26⟩
set_option maxRecDepth 65536 in
set_option maxHeartbeats 40000000 in
theorem part3 (l : Launch) (Z : State) (a0 : Array Value) (hw : ∀ d ∈ tables_1, d.before a0 Z = true) (x0 x1 : Addr) (n0 : Nat) (ar : Addr) (gr pr : Nat → Int32) (h0 : Heap) (Z0 : n0 ≤ h0.size) (F_rowStart_x0 : Fld Z h0 x0 "com/example/topicweave/topicweave/core/NodePairs" "rowStart" "[I" (.ref ar)) (A_ar : AV Z h0 ar .int 3 (iF gr)) (A_x1 : AV Z h0 x1 .int 3 (iF pr)) :
    Ct l Z (⟨"com/example/topicweave/topicweave/core/NodePairs", "partners", "([I)[I"⟩ : MethodName) prog_12_method_7_code 7 (some (.array .int)) ({ frames := 0, cells := 1, slots := 3, locals := 0 } : Room) #[(.ref x0), (.ref x1)] h0 (fun v h' L => ∃ (b : Addr) (f : Nat → Int32), v = some (.ref b) ∧ Fr n0 L ∧ Keep h0 h' [] ∧ h0.size ≤ b ∧ AV Z h' b .int 3 (iF f) ∧ f 0 = (0 : Int32) + ps (pr 0) + ps (pr 1) ∧ f 1 = (0 : Int32) + ps (pr 0) + ps (pr 2) ∧ f 2 = (0 : Int32) + ps (pr 1) + ps (pr 2)) := by
  refine Ct.body pn_3 ?_
  intro p e s m below meth c T X hx hby hml hown hnm hret hlk hZ eT
  rw [ef_3]
  have N := Fr.nil n0
  have K := Keep.refl h0 []
  refine w_aloadN X hx (dq hby d3_0) rfl rfl ?_
  refine w_getf X hx hZ eT hown (hw _ (List.mem_of_getElem? (i := 12) rfl)) F_rowStart_x0 (dq hby d3_1) fun T X eT => ?_
  refine w_arrlen X hx hZ eT A_ar (z := (3 : Int32)) (rfl) (dq hby d3_4) ?_
  refine w_istoreN X hx (dq hby d3_5) (z := (3 : Int32)) rfl (Ls' := #[.val (.ref x0), .val (.ref x1), .val (.int (3 : Int32)), .unset, .unset, .unset, .unset]) rfl ?_
  refine w_iloadN X hx (dq hby d3_6) rfl ?_
  refine w_newarr X hx hZ eT (aty := .int) (hw _ (List.mem_of_getElem? (i := 1) rfl)) (dq hby d3_7) (n := 3) (cap := 3) (rfl) ((by decide)) (by decide) (by decide) (by decide) fun T h1 b7 hb_b7 X eT EX A_b7 => ?_
  have ne_x0_b7 : x0 ≠ b7 := by rw [hb_b7]; exact Nat.ne_of_lt (Fld.lt F_rowStart_x0)
  have ne_ar_b7 : ar ≠ b7 := by rw [hb_b7]; exact Nat.ne_of_lt A_ar.lt
  have ne_x1_b7 : x1 ≠ b7 := by rw [hb_b7]; exact Nat.ne_of_lt A_x1.lt
  have g_b7 : n0 ≤ b7 := by omega
  have ge_b7 : h0.size ≤ b7 := by have := K.1; omega
  replace F_rowStart_x0 := Fld.ext EX F_rowStart_x0
  replace A_ar := AV.ext A_ar EX
  replace A_x1 := AV.ext A_x1 EX
  replace Z0 := Nat.le_trans Z0 EX.1
  replace K := K.ext EX
  replace A_b7 : AV Z h1 b7 .int 3 (iF (fun _ => (0 : Int32))) := A_b7
  refine w_astoreN X hx (dq hby d3_9) rfl (Ls' := #[.val (.ref x0), .val (.ref x1), .val (.int (3 : Int32)), .val (.ref b7), .unset, .unset, .unset]) rfl ?_
  refine w_iconst X hx (dq hby d3_10) (z := 0) rfl ?_
  refine w_istore X hx (dq hby d3_11) (z := (0 : Int32)) rfl (Ls' := #[.val (.ref x0), .val (.ref x1), .val (.int (3 : Int32)), .val (.ref b7), .val (.int (0 : Int32)), .unset, .unset]) rfl ?_
  refine w_iconst X hx (dq hby d3_13) (z := 0) rfl ?_
  refine w_istore X hx (dq hby d3_14) (z := (0 : Int32)) rfl (Ls' := #[.val (.ref x0), .val (.ref x1), .val (.int (3 : Int32)), .val (.ref b7), .val (.int (0 : Int32)), .val (.int (0 : Int32)), .unset]) rfl ?_
  refine w_iload X hx (dq hby d3_16) rfl ?_
  refine w_iloadN X hx (dq hby d3_18) rfl ?_
  refine w_icmp_ge X hx (dj hby d3_19) (fun hc19 => (?_ : False).elim) (fun hc19 => ?_)
  · exact absurd hc19 (by decide)
  refine w_iload X hx (dq hby d3_22) rfl ?_
  refine w_iconst X hx (dq hby d3_24) (z := 1) rfl ?_
  refine w_iadd X hx (dq hby d3_25) ?_
  refine w_eqI (z := (1 : Int32)) (by decide) ?_
  refine w_istore X hx (dq hby d3_26) (z := (1 : Int32)) rfl (Ls' := #[.val (.ref x0), .val (.ref x1), .val (.int (3 : Int32)), .val (.ref b7), .val (.int (0 : Int32)), .val (.int (0 : Int32)), .val (.int (1 : Int32))]) rfl ?_
  refine w_iload X hx (dq hby d3_28) rfl ?_
  refine w_iloadN X hx (dq hby d3_30) rfl ?_
  refine w_icmp_ge X hx (dj hby d3_31) (fun hc31 => (?_ : False).elim) (fun hc31 => ?_)
  · exact absurd hc31 (by decide)
  refine w_j4 (fun (T : State) (locs : List Loc) (hj0 : Heap) (gj0 : Nat → Int32) => T.setTop (mkF m 60 #[.val (.ref x0), .val (.ref x1), .val (.int (3 : Int32)), .val (.ref b7), .val (.int (1 : Int32)), .val (.int (0 : Int32)), .val (.int (1 : Int32))] [])) (fun T locs hj0 gj0 => Stand p l e ({ frames := 0, cells := 1, slots := 3, locals := 0 } : Room) s m #[(.ref x0), (.ref x1)] below meth c T locs 1 3 ∧ T.heap = hj0 ∧ n0 ≤ hj0.size ∧ Fr n0 locs ∧ Keep h0 hj0 [] ∧ AV Z hj0 x1 .int 3 (iF pr) ∧ AV Z hj0 b7 .int 3 (iF gj0) ∧ gj0 0 = (fun _ => (0 : Int32)) 0 + ps (pr 0) ∧ gj0 1 = (fun _ => (0 : Int32)) 1 + ps (pr 0) ∧ ∀ i, i ≠ 0 → i ≠ 1 → gj0 i = (fun _ => (0 : Int32)) i) (fun T locs hj0 gj0 hq => ?_) (fun J60 => ?_)
  · try dsimp only at hq ⊢
    obtain ⟨X, eT, hq⟩ := hq
    obtain ⟨Z0, N, K, A_x1, A_b7, ea0, eb0, eo0⟩ := hq
    refine w_iinc X hx (dq hby d3_60) rfl (z := (2 : Int32)) (by decide) (Ls' := #[.val (.ref x0), .val (.ref x1), .val (.int (3 : Int32)), .val (.ref b7), .val (.int (1 : Int32)), .val (.int (0 : Int32)), .val (.int (2 : Int32))]) rfl ?_
    refine w_goto X hx (dj hby d3_63) ?_
    refine w_iload X hx (dq hby d3_28) rfl ?_
    refine w_iloadN X hx (dq hby d3_30) rfl ?_
    refine w_icmp_ge X hx (dj hby d3_31) (fun hc31 => (?_ : False).elim) (fun hc31 => ?_)
    · exact absurd hc31 (by decide)
    refine w_j4 (fun (T : State) (locs : List Loc) (hj1 : Heap) (gj1 : Nat → Int32) => T.setTop (mkF m 60 #[.val (.ref x0), .val (.ref x1), .val (.int (3 : Int32)), .val (.ref b7), .val (.int (2 : Int32)), .val (.int (0 : Int32)), .val (.int (2 : Int32))] [])) (fun T locs hj1 gj1 => Stand p l e ({ frames := 0, cells := 1, slots := 3, locals := 0 } : Room) s m #[(.ref x0), (.ref x1)] below meth c T locs 1 3 ∧ T.heap = hj1 ∧ n0 ≤ hj1.size ∧ Fr n0 locs ∧ Keep h0 hj1 [] ∧ AV Z hj1 x1 .int 3 (iF pr) ∧ AV Z hj1 b7 .int 3 (iF gj1) ∧ gj1 0 = gj0 0 + ps (pr 1) ∧ gj1 2 = gj0 2 + ps (pr 1) ∧ ∀ i, i ≠ 0 → i ≠ 2 → gj1 i = gj0 i) (fun T locs hj1 gj1 hq => ?_) (fun J60 => ?_)
    · try dsimp only at hq ⊢
      obtain ⟨X, eT, hq⟩ := hq
      obtain ⟨Z0, N, K, A_x1, A_b7, ea1, eb1, eo1⟩ := hq
      refine w_iinc X hx (dq hby d3_60) rfl (z := (3 : Int32)) (by decide) (Ls' := #[.val (.ref x0), .val (.ref x1), .val (.int (3 : Int32)), .val (.ref b7), .val (.int (2 : Int32)), .val (.int (0 : Int32)), .val (.int (3 : Int32))]) rfl ?_
      refine w_goto X hx (dj hby d3_63) ?_
      refine w_iload X hx (dq hby d3_28) rfl ?_
      refine w_iloadN X hx (dq hby d3_30) rfl ?_
      refine w_icmp_ge X hx (dj hby d3_31) (fun hc31 => ?_) (fun hc31 => (?_ : False).elim)
      rotate_left
      · exact absurd hc31 (by decide)
      refine w_iinc X hx (dq hby d3_66) rfl (z := (1 : Int32)) (by decide) (Ls' := #[.val (.ref x0), .val (.ref x1), .val (.int (3 : Int32)), .val (.ref b7), .val (.int (2 : Int32)), .val (.int (1 : Int32)), .val (.int (3 : Int32))]) rfl ?_
      refine w_goto X hx (dj hby d3_69) ?_
      refine w_iload X hx (dq hby d3_16) rfl ?_
      refine w_iloadN X hx (dq hby d3_18) rfl ?_
      refine w_icmp_ge X hx (dj hby d3_19) (fun hc19 => (?_ : False).elim) (fun hc19 => ?_)
      · exact absurd hc19 (by decide)
      refine w_iload X hx (dq hby d3_22) rfl ?_
      refine w_iconst X hx (dq hby d3_24) (z := 1) rfl ?_
      refine w_iadd X hx (dq hby d3_25) ?_
      refine w_eqI (z := (2 : Int32)) (by decide) ?_
      refine w_istore X hx (dq hby d3_26) (z := (2 : Int32)) rfl (Ls' := #[.val (.ref x0), .val (.ref x1), .val (.int (3 : Int32)), .val (.ref b7), .val (.int (2 : Int32)), .val (.int (1 : Int32)), .val (.int (2 : Int32))]) rfl ?_
      refine w_iload X hx (dq hby d3_28) rfl ?_
      refine w_iloadN X hx (dq hby d3_30) rfl ?_
      refine w_icmp_ge X hx (dj hby d3_31) (fun hc31 => (?_ : False).elim) (fun hc31 => ?_)
      · exact absurd hc31 (by decide)
      refine w_j4 (fun (T : State) (locs : List Loc) (hj2 : Heap) (gj2 : Nat → Int32) => T.setTop (mkF m 60 #[.val (.ref x0), .val (.ref x1), .val (.int (3 : Int32)), .val (.ref b7), .val (.int (3 : Int32)), .val (.int (1 : Int32)), .val (.int (2 : Int32))] [])) (fun T locs hj2 gj2 => Stand p l e ({ frames := 0, cells := 1, slots := 3, locals := 0 } : Room) s m #[(.ref x0), (.ref x1)] below meth c T locs 1 3 ∧ T.heap = hj2 ∧ n0 ≤ hj2.size ∧ Fr n0 locs ∧ Keep h0 hj2 [] ∧ AV Z hj2 x1 .int 3 (iF pr) ∧ AV Z hj2 b7 .int 3 (iF gj2) ∧ gj2 1 = gj1 1 + ps (pr 2) ∧ gj2 2 = gj1 2 + ps (pr 2) ∧ ∀ i, i ≠ 1 → i ≠ 2 → gj2 i = gj1 i) (fun T locs hj2 gj2 hq => ?_) (fun J60 => ?_)
      · try dsimp only at hq ⊢
        obtain ⟨X, eT, hq⟩ := hq
        obtain ⟨Z0, N, K, A_x1, A_b7, ea2, eb2, eo2⟩ := hq
        refine w_iinc X hx (dq hby d3_60) rfl (z := (3 : Int32)) (by decide) (Ls' := #[.val (.ref x0), .val (.ref x1), .val (.int (3 : Int32)), .val (.ref b7), .val (.int (3 : Int32)), .val (.int (1 : Int32)), .val (.int (3 : Int32))]) rfl ?_
        refine w_goto X hx (dj hby d3_63) ?_
        refine w_iload X hx (dq hby d3_28) rfl ?_
        refine w_iloadN X hx (dq hby d3_30) rfl ?_
        refine w_icmp_ge X hx (dj hby d3_31) (fun hc31 => ?_) (fun hc31 => (?_ : False).elim)
        rotate_left
        · exact absurd hc31 (by decide)
        refine w_iinc X hx (dq hby d3_66) rfl (z := (2 : Int32)) (by decide) (Ls' := #[.val (.ref x0), .val (.ref x1), .val (.int (3 : Int32)), .val (.ref b7), .val (.int (3 : Int32)), .val (.int (2 : Int32)), .val (.int (3 : Int32))]) rfl ?_
        refine w_goto X hx (dj hby d3_69) ?_
        refine w_iload X hx (dq hby d3_16) rfl ?_
        refine w_iloadN X hx (dq hby d3_18) rfl ?_
        refine w_icmp_ge X hx (dj hby d3_19) (fun hc19 => (?_ : False).elim) (fun hc19 => ?_)
        · exact absurd hc19 (by decide)
        refine w_iload X hx (dq hby d3_22) rfl ?_
        refine w_iconst X hx (dq hby d3_24) (z := 1) rfl ?_
        refine w_iadd X hx (dq hby d3_25) ?_
        refine w_eqI (z := (3 : Int32)) (by decide) ?_
        refine w_istore X hx (dq hby d3_26) (z := (3 : Int32)) rfl (Ls' := #[.val (.ref x0), .val (.ref x1), .val (.int (3 : Int32)), .val (.ref b7), .val (.int (3 : Int32)), .val (.int (2 : Int32)), .val (.int (3 : Int32))]) rfl ?_
        refine w_iload X hx (dq hby d3_28) rfl ?_
        refine w_iloadN X hx (dq hby d3_30) rfl ?_
        refine w_icmp_ge X hx (dj hby d3_31) (fun hc31 => ?_) (fun hc31 => (?_ : False).elim)
        rotate_left
        · exact absurd hc31 (by decide)
        refine w_iinc X hx (dq hby d3_66) rfl (z := (3 : Int32)) (by decide) (Ls' := #[.val (.ref x0), .val (.ref x1), .val (.int (3 : Int32)), .val (.ref b7), .val (.int (3 : Int32)), .val (.int (3 : Int32)), .val (.int (3 : Int32))]) rfl ?_
        refine w_goto X hx (dj hby d3_69) ?_
        refine w_iload X hx (dq hby d3_16) rfl ?_
        refine w_iloadN X hx (dq hby d3_18) rfl ?_
        refine w_icmp_ge X hx (dj hby d3_19) (fun hc19 => ?_) (fun hc19 => (?_ : False).elim)
        rotate_left
        · exact absurd hc19 (by decide)
        refine w_aloadN X hx (dq hby d3_72) rfl rfl ?_
        refine w_retA X hx hret rfl rfl hlk (dq hby d3_73) (by decide) (by decide) ?_
        rw [eT]
        exact ⟨b7, gj2, rfl, N, K, ge_b7, A_b7, by rw [eo2 0 (by decide) (by decide), ea1, ea0], by rw [ea2, eo1 1 (by decide) (by decide), eb0], by rw [eb2, eb1, eo0 2 (by decide) (by decide)]⟩
      refine w_aloadN X hx (dq hby d3_34) rfl rfl ?_
      refine w_iload X hx (dq hby d3_35) rfl ?_
      refine w_iinc X hx (dq hby d3_37) rfl (z := (3 : Int32)) (by decide) (Ls' := #[.val (.ref x0), .val (.ref x1), .val (.int (3 : Int32)), .val (.ref b7), .val (.int (3 : Int32)), .val (.int (1 : Int32)), .val (.int (2 : Int32))]) rfl ?_
      refine w_iaload X hx hZ eT A_x1 (i := 2) (rfl) (by decide) (z := (pr 2)) (rfl) (dq hby d3_40) ?_
      refine w_if_le X hx (dj hby d3_41) (fun hc41 => ?_) (fun hc41 => ?_)
      · exact J60 T _ hj1 gj1 ⟨X, eT, Z0, N, K, A_x1, A_b7, by rw [ps_f hc41, Int32.add_zero], by rw [ps_f hc41, Int32.add_zero], fun i _ _ => rfl⟩
      · refine w_aloadN X hx (dq hby d3_44) rfl rfl ?_
        refine w_iload X hx (dq hby d3_45) rfl ?_
        refine w_dup2 X hx (dq hby d3_47) rfl rfl ?_
        refine w_iaload X hx hZ eT A_b7 (i := 1) (rfl) (by decide) (z := (gj1 1)) (rfl) (dq hby d3_48) ?_
        refine w_iconst X hx (dq hby d3_49) (z := 1) rfl ?_
        refine w_iadd X hx (dq hby d3_50) ?_
        refine w_iastore X hx hZ eT A_b7 (i := 1) (rfl) (by decide) (dq hby d3_51) fun T h2 X eT W A' => ?_
        replace A_x1 := AV.other A_x1 W ne_x1_b7
        replace Z0 := Nat.le_trans Z0 (Nat.le_of_eq W.size.symm)
        replace K := K.wr W (Or.inr ge_b7)
        replace N := Fr.snoc X N g_b7
        replace A_b7 := A'
        obtain ⟨g3_51, hg3_51⟩ : ∃ gg, gg = (upd gj1 1 (((gj1 1) + (1 : Int32)))) := ⟨_, rfl⟩
        rw [← hg3_51] at A_b7
        refine w_aloadN X hx (dq hby d3_52) rfl rfl ?_
        refine w_iload X hx (dq hby d3_53) rfl ?_
        refine w_dup2 X hx (dq hby d3_55) rfl rfl ?_
        refine w_iaload X hx hZ eT A_b7 (i := 2) (rfl) (by decide) (z := (g3_51 2)) (rfl) (dq hby d3_56) ?_
        refine w_iconst X hx (dq hby d3_57) (z := 1) rfl ?_
        refine w_iadd X hx (dq hby d3_58) ?_
        refine w_iastore X hx hZ eT A_b7 (i := 2) (rfl) (by decide) (dq hby d3_59) fun T h3 X eT W A' => ?_
        replace A_x1 := AV.other A_x1 W ne_x1_b7
        replace Z0 := Nat.le_trans Z0 (Nat.le_of_eq W.size.symm)
        replace K := K.wr W (Or.inr ge_b7)
        replace N := Fr.snoc X N g_b7
        replace A_b7 := A'
        obtain ⟨g3_59, hg3_59⟩ : ∃ gg, gg = (upd g3_51 2 (((g3_51 2) + (1 : Int32)))) := ⟨_, rfl⟩
        rw [← hg3_59] at A_b7
        exact J60 T _ h3 g3_59 ⟨X, eT, Z0, N, K, A_x1, A_b7, by rw [ps_t hc41, hg3_59, upd_ne _ _ (by decide), hg3_51, upd_at], by rw [ps_t hc41, hg3_59, upd_at, hg3_51, upd_ne _ _ (by decide)], fun i q1 q2 => by rw [hg3_59, upd_ne _ _ q2, hg3_51, upd_ne _ _ q1]⟩
    refine w_aloadN X hx (dq hby d3_34) rfl rfl ?_
    refine w_iload X hx (dq hby d3_35) rfl ?_
    refine w_iinc X hx (dq hby d3_37) rfl (z := (2 : Int32)) (by decide) (Ls' := #[.val (.ref x0), .val (.ref x1), .val (.int (3 : Int32)), .val (.ref b7), .val (.int (2 : Int32)), .val (.int (0 : Int32)), .val (.int (2 : Int32))]) rfl ?_
    refine w_iaload X hx hZ eT A_x1 (i := 1) (rfl) (by decide) (z := (pr 1)) (rfl) (dq hby d3_40) ?_
    refine w_if_le X hx (dj hby d3_41) (fun hc41 => ?_) (fun hc41 => ?_)
    · exact J60 T _ hj0 gj0 ⟨X, eT, Z0, N, K, A_x1, A_b7, by rw [ps_f hc41, Int32.add_zero], by rw [ps_f hc41, Int32.add_zero], fun i _ _ => rfl⟩
    · refine w_aloadN X hx (dq hby d3_44) rfl rfl ?_
      refine w_iload X hx (dq hby d3_45) rfl ?_
      refine w_dup2 X hx (dq hby d3_47) rfl rfl ?_
      refine w_iaload X hx hZ eT A_b7 (i := 0) (rfl) (by decide) (z := (gj0 0)) (rfl) (dq hby d3_48) ?_
      refine w_iconst X hx (dq hby d3_49) (z := 1) rfl ?_
      refine w_iadd X hx (dq hby d3_50) ?_
      refine w_iastore X hx hZ eT A_b7 (i := 0) (rfl) (by decide) (dq hby d3_51) fun T h4 X eT W A' => ?_
      replace A_x1 := AV.other A_x1 W ne_x1_b7
      replace Z0 := Nat.le_trans Z0 (Nat.le_of_eq W.size.symm)
      replace K := K.wr W (Or.inr ge_b7)
      replace N := Fr.snoc X N g_b7
      replace A_b7 := A'
      obtain ⟨g3_51, hg3_51⟩ : ∃ gg, gg = (upd gj0 0 (((gj0 0) + (1 : Int32)))) := ⟨_, rfl⟩
      rw [← hg3_51] at A_b7
      refine w_aloadN X hx (dq hby d3_52) rfl rfl ?_
      refine w_iload X hx (dq hby d3_53) rfl ?_
      refine w_dup2 X hx (dq hby d3_55) rfl rfl ?_
      refine w_iaload X hx hZ eT A_b7 (i := 2) (rfl) (by decide) (z := (g3_51 2)) (rfl) (dq hby d3_56) ?_
      refine w_iconst X hx (dq hby d3_57) (z := 1) rfl ?_
      refine w_iadd X hx (dq hby d3_58) ?_
      refine w_iastore X hx hZ eT A_b7 (i := 2) (rfl) (by decide) (dq hby d3_59) fun T h5 X eT W A' => ?_
      replace A_x1 := AV.other A_x1 W ne_x1_b7
      replace Z0 := Nat.le_trans Z0 (Nat.le_of_eq W.size.symm)
      replace K := K.wr W (Or.inr ge_b7)
      replace N := Fr.snoc X N g_b7
      replace A_b7 := A'
      obtain ⟨g3_59, hg3_59⟩ : ∃ gg, gg = (upd g3_51 2 (((g3_51 2) + (1 : Int32)))) := ⟨_, rfl⟩
      rw [← hg3_59] at A_b7
      exact J60 T _ h5 g3_59 ⟨X, eT, Z0, N, K, A_x1, A_b7, by rw [ps_t hc41, hg3_59, upd_ne _ _ (by decide), hg3_51, upd_at], by rw [ps_t hc41, hg3_59, upd_at, hg3_51, upd_ne _ _ (by decide)], fun i q1 q2 => by rw [hg3_59, upd_ne _ _ q2, hg3_51, upd_ne _ _ q1]⟩
  refine w_aloadN X hx (dq hby d3_34) rfl rfl ?_
  refine w_iload X hx (dq hby d3_35) rfl ?_
  refine w_iinc X hx (dq hby d3_37) rfl (z := (1 : Int32)) (by decide) (Ls' := #[.val (.ref x0), .val (.ref x1), .val (.int (3 : Int32)), .val (.ref b7), .val (.int (1 : Int32)), .val (.int (0 : Int32)), .val (.int (1 : Int32))]) rfl ?_
  refine w_iaload X hx hZ eT A_x1 (i := 0) (rfl) (by decide) (z := (pr 0)) (rfl) (dq hby d3_40) ?_
  refine w_if_le X hx (dj hby d3_41) (fun hc41 => ?_) (fun hc41 => ?_)
  · exact J60 T _ h1 (fun _ => (0 : Int32)) ⟨X, eT, Z0, N, K, A_x1, A_b7, by rw [ps_f hc41, Int32.add_zero], by rw [ps_f hc41, Int32.add_zero], fun i _ _ => rfl⟩
  · refine w_aloadN X hx (dq hby d3_44) rfl rfl ?_
    refine w_iload X hx (dq hby d3_45) rfl ?_
    refine w_dup2 X hx (dq hby d3_47) rfl rfl ?_
    refine w_iaload X hx hZ eT A_b7 (i := 0) (rfl) (by decide) (z := ((fun _ => (0 : Int32)) 0)) (rfl) (dq hby d3_48) ?_
    refine w_iconst X hx (dq hby d3_49) (z := 1) rfl ?_
    refine w_iadd X hx (dq hby d3_50) ?_
    refine w_iastore X hx hZ eT A_b7 (i := 0) (rfl) (by decide) (dq hby d3_51) fun T h6 X eT W A' => ?_
    replace A_x1 := AV.other A_x1 W ne_x1_b7
    replace Z0 := Nat.le_trans Z0 (Nat.le_of_eq W.size.symm)
    replace K := K.wr W (Or.inr ge_b7)
    replace N := Fr.snoc X N g_b7
    replace A_b7 := A'
    obtain ⟨g3_51, hg3_51⟩ : ∃ gg, gg = (upd (fun _ => (0 : Int32)) 0 ((((fun _ => (0 : Int32)) 0) + (1 : Int32)))) := ⟨_, rfl⟩
    rw [← hg3_51] at A_b7
    refine w_aloadN X hx (dq hby d3_52) rfl rfl ?_
    refine w_iload X hx (dq hby d3_53) rfl ?_
    refine w_dup2 X hx (dq hby d3_55) rfl rfl ?_
    refine w_iaload X hx hZ eT A_b7 (i := 1) (rfl) (by decide) (z := (g3_51 1)) (rfl) (dq hby d3_56) ?_
    refine w_iconst X hx (dq hby d3_57) (z := 1) rfl ?_
    refine w_iadd X hx (dq hby d3_58) ?_
    refine w_iastore X hx hZ eT A_b7 (i := 1) (rfl) (by decide) (dq hby d3_59) fun T h7 X eT W A' => ?_
    replace A_x1 := AV.other A_x1 W ne_x1_b7
    replace Z0 := Nat.le_trans Z0 (Nat.le_of_eq W.size.symm)
    replace K := K.wr W (Or.inr ge_b7)
    replace N := Fr.snoc X N g_b7
    replace A_b7 := A'
    obtain ⟨g3_59, hg3_59⟩ : ∃ gg, gg = (upd g3_51 1 (((g3_51 1) + (1 : Int32)))) := ⟨_, rfl⟩
    rw [← hg3_59] at A_b7
    exact J60 T _ h7 g3_59 ⟨X, eT, Z0, N, K, A_x1, A_b7, by rw [ps_t hc41, hg3_59, upd_ne _ _ (by decide), hg3_51, upd_at], by rw [ps_t hc41, hg3_59, upd_at, hg3_51, upd_ne _ _ (by decide)], fun i q1 q2 => by rw [hg3_59, upd_ne _ _ q2, hg3_51, upd_ne _ _ q1]⟩
set_option maxRecDepth 65536 in
set_option maxHeartbeats 40000000 in
theorem init4 (l : Launch) (Z : State) (a0 : Array Value) (hw : ∀ d ∈ tables_1, d.before a0 Z = true) (x0 : Addr) (n0 : Nat) (h0 : Heap) (Z0 : n0 ≤ h0.size) (g_x0 : n0 ≤ x0) (E_x0 : Exa Z h0 x0 "com/example/topicweave/topicweave/core/NodePairs") (F_rowStart_x0 : Fld Z h0 x0 "com/example/topicweave/topicweave/core/NodePairs" "rowStart" "[I" .null) :
    Ct l Z (⟨"com/example/topicweave/topicweave/core/NodePairs", "<init>", "(I)V"⟩ : MethodName) prog_12_method_1_code 3 none ({ frames := 1, cells := 1, slots := 4, locals := 12 } : Room) #[(.ref x0), (.int (4 : Int32))] h0 (fun v h' L => v = none ∧ Fr n0 L ∧ Keep h0 h' [x0] ∧ Exa Z h' x0 "com/example/topicweave/topicweave/core/NodePairs" ∧ ∃ (ar : Addr) (g : Nat → Int32), n0 ≤ ar ∧ h0.size ≤ ar ∧ Fld Z h' x0 "com/example/topicweave/topicweave/core/NodePairs" "rowStart" "[I" (.ref ar) ∧ AV Z h' ar .int 4 (iF g)) := by
  refine Ct.body pn_1 ?_
  intro p e s m below meth c T X hx hby hml hown hnm hret hlk hZ eT
  rw [ef_1]
  have N := Fr.nil n0
  have K := Keep.refl h0 [x0]
  refine w_aloadN X hx (dq hby d1_0) rfl rfl ?_
  refine w_objinit X hx hZ eT hml (by rfl) hown (hw _ (List.mem_of_getElem? (i := 8) rfl)) (hw _ (List.mem_of_getElem? (i := 9) rfl)) (hw _ (List.mem_of_getElem? (i := 10) rfl)) (dq hby d1_1) (by decide) (W := 0) rfl (by decide) fun T X eT => ?_
  refine w_iloadN X hx (dq hby d1_4) rfl ?_
  refine w_ldc X hx hZ hown (hw _ (List.mem_of_getElem? (i := 11) rfl)) (dq hby d1_5) ?_
  refine w_icmp_le X hx (dj hby d1_7) (fun hc7 => ?_) (fun hc7 => (?_ : False).elim)
  rotate_left
  · exact absurd hc7 (by decide)
  refine w_aloadN X hx (dq hby d1_24) rfl rfl ?_
  refine w_iloadN X hx (dq hby d1_25) rfl ?_
  refine w_newarr X hx hZ eT (aty := .int) (hw _ (List.mem_of_getElem? (i := 1) rfl)) (dq hby d1_26) (n := 4) (cap := 4) (rfl) ((by decide)) (by decide) (by decide) (by decide) fun T h1 b26 hb_b26 X eT EX A_b26 => ?_
  have ne_x0_b26 : x0 ≠ b26 := by rw [hb_b26]; exact Nat.ne_of_lt (Fld.lt F_rowStart_x0)
  have g_b26 : n0 ≤ b26 := by omega
  have ge_b26 : h0.size ≤ b26 := by have := K.1; omega
  replace F_rowStart_x0 := Fld.ext EX F_rowStart_x0
  replace E_x0 := Exa.ext EX E_x0
  replace Z0 := Nat.le_trans Z0 EX.1
  replace K := K.ext EX
  replace A_b26 : AV Z h1 b26 .int 4 (iF (fun _ => (0 : Int32))) := A_b26
  refine w_putf X hx hZ eT hown (hw _ (List.mem_of_getElem? (i := 12) rfl)) F_rowStart_x0 E_x0 (Or.inr ⟨(hw _ (List.mem_of_getElem? (i := 13) rfl)), rfl, hnm⟩) (hw _ (List.mem_of_getElem? (i := 3) rfl)) (ty := (.array .int)) (by decide) rfl rfl (dq hby d1_28) fun T h2 X eT W => ?_
  replace E_x0 := Exa.wr W E_x0
  replace A_b26 := AV.other A_b26 W (Ne.symm ne_x0_b26)
  replace Z0 := Nat.le_trans Z0 (Nat.le_of_eq W.size.symm)
  replace K := K.wr W (Or.inl (List.mem_singleton.mpr rfl))
  replace N := Fr.snoc X N g_x0
  replace F_rowStart_x0 := Fld.same W F_rowStart_x0
  refine w_iconst X hx (dq hby d1_31) (z := 0) rfl ?_
  refine w_istoreN X hx (dq hby d1_32) (z := (0 : Int32)) rfl (Ls' := #[.val (.ref x0), .val (.int (4 : Int32)), .val (.int (0 : Int32))]) rfl ?_
  refine w_iloadN X hx (dq hby d1_33) rfl ?_
  refine w_iloadN X hx (dq hby d1_34) rfl ?_
  refine w_icmp_ge X hx (dj hby d1_35) (fun hc35 => (?_ : False).elim) (fun hc35 => ?_)
  · exact absurd hc35 (by decide)
  refine w_aloadN X hx (dq hby d1_38) rfl rfl ?_
  refine w_getf X hx hZ eT hown (hw _ (List.mem_of_getElem? (i := 12) rfl)) F_rowStart_x0 (dq hby d1_39) fun T X eT => ?_
  refine w_iloadN X hx (dq hby d1_42) rfl ?_
  refine w_iloadN X hx (dq hby d1_43) rfl ?_
  refine w_i2l X hx (dq hby d1_44) ?_
  refine w_eqJ (z := (0 : Int64)) (by decide) ?_
  refine w_ldc2 X hx hZ hown (hw _ (List.mem_of_getElem? (i := 19) rfl)) (dq hby d1_45) ?_
  refine w_iloadN X hx (dq hby d1_48) rfl ?_
  refine w_i2l X hx (dq hby d1_49) ?_
  refine w_eqJ (z := (4 : Int64)) (by decide) ?_
  refine w_lmul X hx (dq hby d1_50) ?_
  refine w_eqJ (z := (8 : Int64)) (by decide) ?_
  refine w_iloadN X hx (dq hby d1_51) rfl ?_
  refine w_i2l X hx (dq hby d1_52) ?_
  refine w_eqJ (z := (0 : Int64)) (by decide) ?_
  refine w_lsub X hx (dq hby d1_53) ?_
  refine w_eqJ (z := (8 : Int64)) (by decide) ?_
  refine w_lconst X hx (dq hby d1_54) (z := 1) rfl ?_
  refine w_lsub X hx (dq hby d1_55) ?_
  refine w_eqJ (z := (7 : Int64)) (by decide) ?_
  refine w_lmul X hx (dq hby d1_56) ?_
  refine w_eqJ (z := (0 : Int64)) (by decide) ?_
  refine w_ldc2 X hx hZ hown (hw _ (List.mem_of_getElem? (i := 19) rfl)) (dq hby d1_57) ?_
  refine w_ldiv X hx (dq hby d1_60) (by decide) ?_
  refine w_eqJ (z := (0 : Int64)) (by decide) ?_
  refine w_l2i X hx (dq hby d1_61) ?_
  refine w_eqI (z := (0 : Int32)) (by decide) ?_
  refine w_iastore X hx hZ eT A_b26 (i := 0) (rfl) (by decide) (dq hby d1_62) fun T h3 X eT W A' => ?_
  replace F_rowStart_x0 := Fld.other W F_rowStart_x0 (Or.inl ne_x0_b26)
  replace E_x0 := Exa.wr W E_x0
  replace Z0 := Nat.le_trans Z0 (Nat.le_of_eq W.size.symm)
  replace K := K.wr W (Or.inr ge_b26)
  replace N := Fr.snoc X N g_b26
  replace A_b26 := A'
  obtain ⟨g1_62, hg1_62⟩ : ∃ gg, gg = (upd (fun _ => (0 : Int32)) 0 ((0 : Int32))) := ⟨_, rfl⟩
  rw [← hg1_62] at A_b26
  refine w_iinc X hx (dq hby d1_63) rfl (z := (1 : Int32)) (by decide) (Ls' := #[.val (.ref x0), .val (.int (4 : Int32)), .val (.int (1 : Int32))]) rfl ?_
  refine w_goto X hx (dj hby d1_66) ?_
  refine w_iloadN X hx (dq hby d1_33) rfl ?_
  refine w_iloadN X hx (dq hby d1_34) rfl ?_
  refine w_icmp_ge X hx (dj hby d1_35) (fun hc35 => (?_ : False).elim) (fun hc35 => ?_)
  · exact absurd hc35 (by decide)
  refine w_aloadN X hx (dq hby d1_38) rfl rfl ?_
  refine w_getf X hx hZ eT hown (hw _ (List.mem_of_getElem? (i := 12) rfl)) F_rowStart_x0 (dq hby d1_39) fun T X eT => ?_
  refine w_iloadN X hx (dq hby d1_42) rfl ?_
  refine w_iloadN X hx (dq hby d1_43) rfl ?_
  refine w_i2l X hx (dq hby d1_44) ?_
  refine w_eqJ (z := (1 : Int64)) (by decide) ?_
  refine w_ldc2 X hx hZ hown (hw _ (List.mem_of_getElem? (i := 19) rfl)) (dq hby d1_45) ?_
  refine w_iloadN X hx (dq hby d1_48) rfl ?_
  refine w_i2l X hx (dq hby d1_49) ?_
  refine w_eqJ (z := (4 : Int64)) (by decide) ?_
  refine w_lmul X hx (dq hby d1_50) ?_
  refine w_eqJ (z := (8 : Int64)) (by decide) ?_
  refine w_iloadN X hx (dq hby d1_51) rfl ?_
  refine w_i2l X hx (dq hby d1_52) ?_
  refine w_eqJ (z := (1 : Int64)) (by decide) ?_
  refine w_lsub X hx (dq hby d1_53) ?_
  refine w_eqJ (z := (7 : Int64)) (by decide) ?_
  refine w_lconst X hx (dq hby d1_54) (z := 1) rfl ?_
  refine w_lsub X hx (dq hby d1_55) ?_
  refine w_eqJ (z := (6 : Int64)) (by decide) ?_
  refine w_lmul X hx (dq hby d1_56) ?_
  refine w_eqJ (z := (6 : Int64)) (by decide) ?_
  refine w_ldc2 X hx hZ hown (hw _ (List.mem_of_getElem? (i := 19) rfl)) (dq hby d1_57) ?_
  refine w_ldiv X hx (dq hby d1_60) (by decide) ?_
  refine w_eqJ (z := (3 : Int64)) (by decide) ?_
  refine w_l2i X hx (dq hby d1_61) ?_
  refine w_eqI (z := (3 : Int32)) (by decide) ?_
  refine w_iastore X hx hZ eT A_b26 (i := 1) (rfl) (by decide) (dq hby d1_62) fun T h4 X eT W A' => ?_
  replace F_rowStart_x0 := Fld.other W F_rowStart_x0 (Or.inl ne_x0_b26)
  replace E_x0 := Exa.wr W E_x0
  replace Z0 := Nat.le_trans Z0 (Nat.le_of_eq W.size.symm)
  replace K := K.wr W (Or.inr ge_b26)
  replace N := Fr.snoc X N g_b26
  replace A_b26 := A'
  obtain ⟨g1_62_r1, hg1_62_r1⟩ : ∃ gg, gg = (upd g1_62 1 ((3 : Int32))) := ⟨_, rfl⟩
  rw [← hg1_62_r1] at A_b26
  refine w_iinc X hx (dq hby d1_63) rfl (z := (2 : Int32)) (by decide) (Ls' := #[.val (.ref x0), .val (.int (4 : Int32)), .val (.int (2 : Int32))]) rfl ?_
  refine w_goto X hx (dj hby d1_66) ?_
  refine w_iloadN X hx (dq hby d1_33) rfl ?_
  refine w_iloadN X hx (dq hby d1_34) rfl ?_
  refine w_icmp_ge X hx (dj hby d1_35) (fun hc35 => (?_ : False).elim) (fun hc35 => ?_)
  · exact absurd hc35 (by decide)
  refine w_aloadN X hx (dq hby d1_38) rfl rfl ?_
  refine w_getf X hx hZ eT hown (hw _ (List.mem_of_getElem? (i := 12) rfl)) F_rowStart_x0 (dq hby d1_39) fun T X eT => ?_
  refine w_iloadN X hx (dq hby d1_42) rfl ?_
  refine w_iloadN X hx (dq hby d1_43) rfl ?_
  refine w_i2l X hx (dq hby d1_44) ?_
  refine w_eqJ (z := (2 : Int64)) (by decide) ?_
  refine w_ldc2 X hx hZ hown (hw _ (List.mem_of_getElem? (i := 19) rfl)) (dq hby d1_45) ?_
  refine w_iloadN X hx (dq hby d1_48) rfl ?_
  refine w_i2l X hx (dq hby d1_49) ?_
  refine w_eqJ (z := (4 : Int64)) (by decide) ?_
  refine w_lmul X hx (dq hby d1_50) ?_
  refine w_eqJ (z := (8 : Int64)) (by decide) ?_
  refine w_iloadN X hx (dq hby d1_51) rfl ?_
  refine w_i2l X hx (dq hby d1_52) ?_
  refine w_eqJ (z := (2 : Int64)) (by decide) ?_
  refine w_lsub X hx (dq hby d1_53) ?_
  refine w_eqJ (z := (6 : Int64)) (by decide) ?_
  refine w_lconst X hx (dq hby d1_54) (z := 1) rfl ?_
  refine w_lsub X hx (dq hby d1_55) ?_
  refine w_eqJ (z := (5 : Int64)) (by decide) ?_
  refine w_lmul X hx (dq hby d1_56) ?_
  refine w_eqJ (z := (10 : Int64)) (by decide) ?_
  refine w_ldc2 X hx hZ hown (hw _ (List.mem_of_getElem? (i := 19) rfl)) (dq hby d1_57) ?_
  refine w_ldiv X hx (dq hby d1_60) (by decide) ?_
  refine w_eqJ (z := (5 : Int64)) (by decide) ?_
  refine w_l2i X hx (dq hby d1_61) ?_
  refine w_eqI (z := (5 : Int32)) (by decide) ?_
  refine w_iastore X hx hZ eT A_b26 (i := 2) (rfl) (by decide) (dq hby d1_62) fun T h5 X eT W A' => ?_
  replace F_rowStart_x0 := Fld.other W F_rowStart_x0 (Or.inl ne_x0_b26)
  replace E_x0 := Exa.wr W E_x0
  replace Z0 := Nat.le_trans Z0 (Nat.le_of_eq W.size.symm)
  replace K := K.wr W (Or.inr ge_b26)
  replace N := Fr.snoc X N g_b26
  replace A_b26 := A'
  obtain ⟨g1_62_r2, hg1_62_r2⟩ : ∃ gg, gg = (upd g1_62_r1 2 ((5 : Int32))) := ⟨_, rfl⟩
  rw [← hg1_62_r2] at A_b26
  refine w_iinc X hx (dq hby d1_63) rfl (z := (3 : Int32)) (by decide) (Ls' := #[.val (.ref x0), .val (.int (4 : Int32)), .val (.int (3 : Int32))]) rfl ?_
  refine w_goto X hx (dj hby d1_66) ?_
  refine w_iloadN X hx (dq hby d1_33) rfl ?_
  refine w_iloadN X hx (dq hby d1_34) rfl ?_
  refine w_icmp_ge X hx (dj hby d1_35) (fun hc35 => (?_ : False).elim) (fun hc35 => ?_)
  · exact absurd hc35 (by decide)
  refine w_aloadN X hx (dq hby d1_38) rfl rfl ?_
  refine w_getf X hx hZ eT hown (hw _ (List.mem_of_getElem? (i := 12) rfl)) F_rowStart_x0 (dq hby d1_39) fun T X eT => ?_
  refine w_iloadN X hx (dq hby d1_42) rfl ?_
  refine w_iloadN X hx (dq hby d1_43) rfl ?_
  refine w_i2l X hx (dq hby d1_44) ?_
  refine w_eqJ (z := (3 : Int64)) (by decide) ?_
  refine w_ldc2 X hx hZ hown (hw _ (List.mem_of_getElem? (i := 19) rfl)) (dq hby d1_45) ?_
  refine w_iloadN X hx (dq hby d1_48) rfl ?_
  refine w_i2l X hx (dq hby d1_49) ?_
  refine w_eqJ (z := (4 : Int64)) (by decide) ?_
  refine w_lmul X hx (dq hby d1_50) ?_
  refine w_eqJ (z := (8 : Int64)) (by decide) ?_
  refine w_iloadN X hx (dq hby d1_51) rfl ?_
  refine w_i2l X hx (dq hby d1_52) ?_
  refine w_eqJ (z := (3 : Int64)) (by decide) ?_
  refine w_lsub X hx (dq hby d1_53) ?_
  refine w_eqJ (z := (5 : Int64)) (by decide) ?_
  refine w_lconst X hx (dq hby d1_54) (z := 1) rfl ?_
  refine w_lsub X hx (dq hby d1_55) ?_
  refine w_eqJ (z := (4 : Int64)) (by decide) ?_
  refine w_lmul X hx (dq hby d1_56) ?_
  refine w_eqJ (z := (12 : Int64)) (by decide) ?_
  refine w_ldc2 X hx hZ hown (hw _ (List.mem_of_getElem? (i := 19) rfl)) (dq hby d1_57) ?_
  refine w_ldiv X hx (dq hby d1_60) (by decide) ?_
  refine w_eqJ (z := (6 : Int64)) (by decide) ?_
  refine w_l2i X hx (dq hby d1_61) ?_
  refine w_eqI (z := (6 : Int32)) (by decide) ?_
  refine w_iastore X hx hZ eT A_b26 (i := 3) (rfl) (by decide) (dq hby d1_62) fun T h6 X eT W A' => ?_
  replace F_rowStart_x0 := Fld.other W F_rowStart_x0 (Or.inl ne_x0_b26)
  replace E_x0 := Exa.wr W E_x0
  replace Z0 := Nat.le_trans Z0 (Nat.le_of_eq W.size.symm)
  replace K := K.wr W (Or.inr ge_b26)
  replace N := Fr.snoc X N g_b26
  replace A_b26 := A'
  obtain ⟨g1_62_r3, hg1_62_r3⟩ : ∃ gg, gg = (upd g1_62_r2 3 ((6 : Int32))) := ⟨_, rfl⟩
  rw [← hg1_62_r3] at A_b26
  refine w_iinc X hx (dq hby d1_63) rfl (z := (4 : Int32)) (by decide) (Ls' := #[.val (.ref x0), .val (.int (4 : Int32)), .val (.int (4 : Int32))]) rfl ?_
  refine w_goto X hx (dj hby d1_66) ?_
  refine w_iloadN X hx (dq hby d1_33) rfl ?_
  refine w_iloadN X hx (dq hby d1_34) rfl ?_
  refine w_icmp_ge X hx (dj hby d1_35) (fun hc35 => ?_) (fun hc35 => (?_ : False).elim)
  rotate_left
  · exact absurd hc35 (by decide)
  refine w_ret X hx hret hlk (dq hby d1_69) (by decide) (by decide) ?_
  rw [eT]
  exact ⟨rfl, N, K, E_x0, b26, _, g_b26, ge_b26, F_rowStart_x0, A_b26⟩
set_option maxRecDepth 65536 in
set_option maxHeartbeats 40000000 in
theorem part4 (l : Launch) (Z : State) (a0 : Array Value) (hw : ∀ d ∈ tables_1, d.before a0 Z = true) (x0 x1 : Addr) (n0 : Nat) (ar : Addr) (gr pr : Nat → Int32) (h0 : Heap) (Z0 : n0 ≤ h0.size) (F_rowStart_x0 : Fld Z h0 x0 "com/example/topicweave/topicweave/core/NodePairs" "rowStart" "[I" (.ref ar)) (A_ar : AV Z h0 ar .int 4 (iF gr)) (A_x1 : AV Z h0 x1 .int 6 (iF pr)) :
    Ct l Z (⟨"com/example/topicweave/topicweave/core/NodePairs", "partners", "([I)[I"⟩ : MethodName) prog_12_method_7_code 7 (some (.array .int)) ({ frames := 0, cells := 1, slots := 4, locals := 0 } : Room) #[(.ref x0), (.ref x1)] h0 (fun v h' L => ∃ (b : Addr) (f : Nat → Int32), v = some (.ref b) ∧ Fr n0 L ∧ Keep h0 h' [] ∧ h0.size ≤ b ∧ AV Z h' b .int 4 (iF f) ∧ f 0 = (0 : Int32) + ps (pr 0) + ps (pr 1) + ps (pr 2) ∧ f 1 = (0 : Int32) + ps (pr 0) + ps (pr 3) + ps (pr 4) ∧ f 2 = (0 : Int32) + ps (pr 1) + ps (pr 3) + ps (pr 5) ∧ f 3 = (0 : Int32) + ps (pr 2) + ps (pr 4) + ps (pr 5)) := by
  refine Ct.body pn_3 ?_
  intro p e s m below meth c T X hx hby hml hown hnm hret hlk hZ eT
  rw [ef_3]
  have N := Fr.nil n0
  have K := Keep.refl h0 []
  refine w_aloadN X hx (dq hby d3_0) rfl rfl ?_
  refine w_getf X hx hZ eT hown (hw _ (List.mem_of_getElem? (i := 12) rfl)) F_rowStart_x0 (dq hby d3_1) fun T X eT => ?_
  refine w_arrlen X hx hZ eT A_ar (z := (4 : Int32)) (rfl) (dq hby d3_4) ?_
  refine w_istoreN X hx (dq hby d3_5) (z := (4 : Int32)) rfl (Ls' := #[.val (.ref x0), .val (.ref x1), .val (.int (4 : Int32)), .unset, .unset, .unset, .unset]) rfl ?_
  refine w_iloadN X hx (dq hby d3_6) rfl ?_
  refine w_newarr X hx hZ eT (aty := .int) (hw _ (List.mem_of_getElem? (i := 1) rfl)) (dq hby d3_7) (n := 4) (cap := 4) (rfl) ((by decide)) (by decide) (by decide) (by decide) fun T h1 b7 hb_b7 X eT EX A_b7 => ?_
  have ne_x0_b7 : x0 ≠ b7 := by rw [hb_b7]; exact Nat.ne_of_lt (Fld.lt F_rowStart_x0)
  have ne_ar_b7 : ar ≠ b7 := by rw [hb_b7]; exact Nat.ne_of_lt A_ar.lt
  have ne_x1_b7 : x1 ≠ b7 := by rw [hb_b7]; exact Nat.ne_of_lt A_x1.lt
  have g_b7 : n0 ≤ b7 := by omega
  have ge_b7 : h0.size ≤ b7 := by have := K.1; omega
  replace F_rowStart_x0 := Fld.ext EX F_rowStart_x0
  replace A_ar := AV.ext A_ar EX
  replace A_x1 := AV.ext A_x1 EX
  replace Z0 := Nat.le_trans Z0 EX.1
  replace K := K.ext EX
  replace A_b7 : AV Z h1 b7 .int 4 (iF (fun _ => (0 : Int32))) := A_b7
  refine w_astoreN X hx (dq hby d3_9) rfl (Ls' := #[.val (.ref x0), .val (.ref x1), .val (.int (4 : Int32)), .val (.ref b7), .unset, .unset, .unset]) rfl ?_
  refine w_iconst X hx (dq hby d3_10) (z := 0) rfl ?_
  refine w_istore X hx (dq hby d3_11) (z := (0 : Int32)) rfl (Ls' := #[.val (.ref x0), .val (.ref x1), .val (.int (4 : Int32)), .val (.ref b7), .val (.int (0 : Int32)), .unset, .unset]) rfl ?_
  refine w_iconst X hx (dq hby d3_13) (z := 0) rfl ?_
  refine w_istore X hx (dq hby d3_14) (z := (0 : Int32)) rfl (Ls' := #[.val (.ref x0), .val (.ref x1), .val (.int (4 : Int32)), .val (.ref b7), .val (.int (0 : Int32)), .val (.int (0 : Int32)), .unset]) rfl ?_
  refine w_iload X hx (dq hby d3_16) rfl ?_
  refine w_iloadN X hx (dq hby d3_18) rfl ?_
  refine w_icmp_ge X hx (dj hby d3_19) (fun hc19 => (?_ : False).elim) (fun hc19 => ?_)
  · exact absurd hc19 (by decide)
  refine w_iload X hx (dq hby d3_22) rfl ?_
  refine w_iconst X hx (dq hby d3_24) (z := 1) rfl ?_
  refine w_iadd X hx (dq hby d3_25) ?_
  refine w_eqI (z := (1 : Int32)) (by decide) ?_
  refine w_istore X hx (dq hby d3_26) (z := (1 : Int32)) rfl (Ls' := #[.val (.ref x0), .val (.ref x1), .val (.int (4 : Int32)), .val (.ref b7), .val (.int (0 : Int32)), .val (.int (0 : Int32)), .val (.int (1 : Int32))]) rfl ?_
  refine w_iload X hx (dq hby d3_28) rfl ?_
  refine w_iloadN X hx (dq hby d3_30) rfl ?_
  refine w_icmp_ge X hx (dj hby d3_31) (fun hc31 => (?_ : False).elim) (fun hc31 => ?_)
  · exact absurd hc31 (by decide)
  refine w_j4 (fun (T : State) (locs : List Loc) (hj0 : Heap) (gj0 : Nat → Int32) => T.setTop (mkF m 60 #[.val (.ref x0), .val (.ref x1), .val (.int (4 : Int32)), .val (.ref b7), .val (.int (1 : Int32)), .val (.int (0 : Int32)), .val (.int (1 : Int32))] [])) (fun T locs hj0 gj0 => Stand p l e ({ frames := 0, cells := 1, slots := 4, locals := 0 } : Room) s m #[(.ref x0), (.ref x1)] below meth c T locs 1 4 ∧ T.heap = hj0 ∧ n0 ≤ hj0.size ∧ Fr n0 locs ∧ Keep h0 hj0 [] ∧ AV Z hj0 x1 .int 6 (iF pr) ∧ AV Z hj0 b7 .int 4 (iF gj0) ∧ gj0 0 = (fun _ => (0 : Int32)) 0 + ps (pr 0) ∧ gj0 1 = (fun _ => (0 : Int32)) 1 + ps (pr 0) ∧ ∀ i, i ≠ 0 → i ≠ 1 → gj0 i = (fun _ => (0 : Int32)) i) (fun T locs hj0 gj0 hq => ?_) (fun J60 => ?_)
  · try dsimp only at hq ⊢
    obtain ⟨X, eT, hq⟩ := hq
    obtain ⟨Z0, N, K, A_x1, A_b7, ea0, eb0, eo0⟩ := hq
    refine w_iinc X hx (dq hby d3_60) rfl (z := (2 : Int32)) (by decide) (Ls' := #[.val (.ref x0), .val (.ref x1), .val (.int (4 : Int32)), .val (.ref b7), .val (.int (1 : Int32)), .val (.int (0 : Int32)), .val (.int (2 : Int32))]) rfl ?_
    refine w_goto X hx (dj hby d3_63) ?_
    refine w_iload X hx (dq hby d3_28) rfl ?_
    refine w_iloadN X hx (dq hby d3_30) rfl ?_
    refine w_icmp_ge X hx (dj hby d3_31) (fun hc31 => (?_ : False).elim) (fun hc31 => ?_)
    · exact absurd hc31 (by decide)
    refine w_j4 (fun (T : State) (locs : List Loc) (hj1 : Heap) (gj1 : Nat → Int32) => T.setTop (mkF m 60 #[.val (.ref x0), .val (.ref x1), .val (.int (4 : Int32)), .val (.ref b7), .val (.int (2 : Int32)), .val (.int (0 : Int32)), .val (.int (2 : Int32))] [])) (fun T locs hj1 gj1 => Stand p l e ({ frames := 0, cells := 1, slots := 4, locals := 0 } : Room) s m #[(.ref x0), (.ref x1)] below meth c T locs 1 4 ∧ T.heap = hj1 ∧ n0 ≤ hj1.size ∧ Fr n0 locs ∧ Keep h0 hj1 [] ∧ AV Z hj1 x1 .int 6 (iF pr) ∧ AV Z hj1 b7 .int 4 (iF gj1) ∧ gj1 0 = gj0 0 + ps (pr 1) ∧ gj1 2 = gj0 2 + ps (pr 1) ∧ ∀ i, i ≠ 0 → i ≠ 2 → gj1 i = gj0 i) (fun T locs hj1 gj1 hq => ?_) (fun J60 => ?_)
    · try dsimp only at hq ⊢
      obtain ⟨X, eT, hq⟩ := hq
      obtain ⟨Z0, N, K, A_x1, A_b7, ea1, eb1, eo1⟩ := hq
      refine w_iinc X hx (dq hby d3_60) rfl (z := (3 : Int32)) (by decide) (Ls' := #[.val (.ref x0), .val (.ref x1), .val (.int (4 : Int32)), .val (.ref b7), .val (.int (2 : Int32)), .val (.int (0 : Int32)), .val (.int (3 : Int32))]) rfl ?_
      refine w_goto X hx (dj hby d3_63) ?_
      refine w_iload X hx (dq hby d3_28) rfl ?_
      refine w_iloadN X hx (dq hby d3_30) rfl ?_
      refine w_icmp_ge X hx (dj hby d3_31) (fun hc31 => (?_ : False).elim) (fun hc31 => ?_)
      · exact absurd hc31 (by decide)
      refine w_j4 (fun (T : State) (locs : List Loc) (hj2 : Heap) (gj2 : Nat → Int32) => T.setTop (mkF m 60 #[.val (.ref x0), .val (.ref x1), .val (.int (4 : Int32)), .val (.ref b7), .val (.int (3 : Int32)), .val (.int (0 : Int32)), .val (.int (3 : Int32))] [])) (fun T locs hj2 gj2 => Stand p l e ({ frames := 0, cells := 1, slots := 4, locals := 0 } : Room) s m #[(.ref x0), (.ref x1)] below meth c T locs 1 4 ∧ T.heap = hj2 ∧ n0 ≤ hj2.size ∧ Fr n0 locs ∧ Keep h0 hj2 [] ∧ AV Z hj2 x1 .int 6 (iF pr) ∧ AV Z hj2 b7 .int 4 (iF gj2) ∧ gj2 0 = gj1 0 + ps (pr 2) ∧ gj2 3 = gj1 3 + ps (pr 2) ∧ ∀ i, i ≠ 0 → i ≠ 3 → gj2 i = gj1 i) (fun T locs hj2 gj2 hq => ?_) (fun J60 => ?_)
      · try dsimp only at hq ⊢
        obtain ⟨X, eT, hq⟩ := hq
        obtain ⟨Z0, N, K, A_x1, A_b7, ea2, eb2, eo2⟩ := hq
        refine w_iinc X hx (dq hby d3_60) rfl (z := (4 : Int32)) (by decide) (Ls' := #[.val (.ref x0), .val (.ref x1), .val (.int (4 : Int32)), .val (.ref b7), .val (.int (3 : Int32)), .val (.int (0 : Int32)), .val (.int (4 : Int32))]) rfl ?_
        refine w_goto X hx (dj hby d3_63) ?_
        refine w_iload X hx (dq hby d3_28) rfl ?_
        refine w_iloadN X hx (dq hby d3_30) rfl ?_
        refine w_icmp_ge X hx (dj hby d3_31) (fun hc31 => ?_) (fun hc31 => (?_ : False).elim)
        rotate_left
        · exact absurd hc31 (by decide)
        refine w_iinc X hx (dq hby d3_66) rfl (z := (1 : Int32)) (by decide) (Ls' := #[.val (.ref x0), .val (.ref x1), .val (.int (4 : Int32)), .val (.ref b7), .val (.int (3 : Int32)), .val (.int (1 : Int32)), .val (.int (4 : Int32))]) rfl ?_
        refine w_goto X hx (dj hby d3_69) ?_
        refine w_iload X hx (dq hby d3_16) rfl ?_
        refine w_iloadN X hx (dq hby d3_18) rfl ?_
        refine w_icmp_ge X hx (dj hby d3_19) (fun hc19 => (?_ : False).elim) (fun hc19 => ?_)
        · exact absurd hc19 (by decide)
        refine w_iload X hx (dq hby d3_22) rfl ?_
        refine w_iconst X hx (dq hby d3_24) (z := 1) rfl ?_
        refine w_iadd X hx (dq hby d3_25) ?_
        refine w_eqI (z := (2 : Int32)) (by decide) ?_
        refine w_istore X hx (dq hby d3_26) (z := (2 : Int32)) rfl (Ls' := #[.val (.ref x0), .val (.ref x1), .val (.int (4 : Int32)), .val (.ref b7), .val (.int (3 : Int32)), .val (.int (1 : Int32)), .val (.int (2 : Int32))]) rfl ?_
        refine w_iload X hx (dq hby d3_28) rfl ?_
        refine w_iloadN X hx (dq hby d3_30) rfl ?_
        refine w_icmp_ge X hx (dj hby d3_31) (fun hc31 => (?_ : False).elim) (fun hc31 => ?_)
        · exact absurd hc31 (by decide)
        refine w_j4 (fun (T : State) (locs : List Loc) (hj3 : Heap) (gj3 : Nat → Int32) => T.setTop (mkF m 60 #[.val (.ref x0), .val (.ref x1), .val (.int (4 : Int32)), .val (.ref b7), .val (.int (4 : Int32)), .val (.int (1 : Int32)), .val (.int (2 : Int32))] [])) (fun T locs hj3 gj3 => Stand p l e ({ frames := 0, cells := 1, slots := 4, locals := 0 } : Room) s m #[(.ref x0), (.ref x1)] below meth c T locs 1 4 ∧ T.heap = hj3 ∧ n0 ≤ hj3.size ∧ Fr n0 locs ∧ Keep h0 hj3 [] ∧ AV Z hj3 x1 .int 6 (iF pr) ∧ AV Z hj3 b7 .int 4 (iF gj3) ∧ gj3 1 = gj2 1 + ps (pr 3) ∧ gj3 2 = gj2 2 + ps (pr 3) ∧ ∀ i, i ≠ 1 → i ≠ 2 → gj3 i = gj2 i) (fun T locs hj3 gj3 hq => ?_) (fun J60 => ?_)
        · try dsimp only at hq ⊢
          obtain ⟨X, eT, hq⟩ := hq
          obtain ⟨Z0, N, K, A_x1, A_b7, ea3, eb3, eo3⟩ := hq
          refine w_iinc X hx (dq hby d3_60) rfl (z := (3 : Int32)) (by decide) (Ls' := #[.val (.ref x0), .val (.ref x1), .val (.int (4 : Int32)), .val (.ref b7), .val (.int (4 : Int32)), .val (.int (1 : Int32)), .val (.int (3 : Int32))]) rfl ?_
          refine w_goto X hx (dj hby d3_63) ?_
          refine w_iload X hx (dq hby d3_28) rfl ?_
          refine w_iloadN X hx (dq hby d3_30) rfl ?_
          refine w_icmp_ge X hx (dj hby d3_31) (fun hc31 => (?_ : False).elim) (fun hc31 => ?_)
          · exact absurd hc31 (by decide)
          refine w_j4 (fun (T : State) (locs : List Loc) (hj4 : Heap) (gj4 : Nat → Int32) => T.setTop (mkF m 60 #[.val (.ref x0), .val (.ref x1), .val (.int (4 : Int32)), .val (.ref b7), .val (.int (5 : Int32)), .val (.int (1 : Int32)), .val (.int (3 : Int32))] [])) (fun T locs hj4 gj4 => Stand p l e ({ frames := 0, cells := 1, slots := 4, locals := 0 } : Room) s m #[(.ref x0), (.ref x1)] below meth c T locs 1 4 ∧ T.heap = hj4 ∧ n0 ≤ hj4.size ∧ Fr n0 locs ∧ Keep h0 hj4 [] ∧ AV Z hj4 x1 .int 6 (iF pr) ∧ AV Z hj4 b7 .int 4 (iF gj4) ∧ gj4 1 = gj3 1 + ps (pr 4) ∧ gj4 3 = gj3 3 + ps (pr 4) ∧ ∀ i, i ≠ 1 → i ≠ 3 → gj4 i = gj3 i) (fun T locs hj4 gj4 hq => ?_) (fun J60 => ?_)
          · try dsimp only at hq ⊢
            obtain ⟨X, eT, hq⟩ := hq
            obtain ⟨Z0, N, K, A_x1, A_b7, ea4, eb4, eo4⟩ := hq
            refine w_iinc X hx (dq hby d3_60) rfl (z := (4 : Int32)) (by decide) (Ls' := #[.val (.ref x0), .val (.ref x1), .val (.int (4 : Int32)), .val (.ref b7), .val (.int (5 : Int32)), .val (.int (1 : Int32)), .val (.int (4 : Int32))]) rfl ?_
            refine w_goto X hx (dj hby d3_63) ?_
            refine w_iload X hx (dq hby d3_28) rfl ?_
            refine w_iloadN X hx (dq hby d3_30) rfl ?_
            refine w_icmp_ge X hx (dj hby d3_31) (fun hc31 => ?_) (fun hc31 => (?_ : False).elim)
            rotate_left
            · exact absurd hc31 (by decide)
            refine w_iinc X hx (dq hby d3_66) rfl (z := (2 : Int32)) (by decide) (Ls' := #[.val (.ref x0), .val (.ref x1), .val (.int (4 : Int32)), .val (.ref b7), .val (.int (5 : Int32)), .val (.int (2 : Int32)), .val (.int (4 : Int32))]) rfl ?_
            refine w_goto X hx (dj hby d3_69) ?_
            refine w_iload X hx (dq hby d3_16) rfl ?_
            refine w_iloadN X hx (dq hby d3_18) rfl ?_
            refine w_icmp_ge X hx (dj hby d3_19) (fun hc19 => (?_ : False).elim) (fun hc19 => ?_)
            · exact absurd hc19 (by decide)
            refine w_iload X hx (dq hby d3_22) rfl ?_
            refine w_iconst X hx (dq hby d3_24) (z := 1) rfl ?_
            refine w_iadd X hx (dq hby d3_25) ?_
            refine w_eqI (z := (3 : Int32)) (by decide) ?_
            refine w_istore X hx (dq hby d3_26) (z := (3 : Int32)) rfl (Ls' := #[.val (.ref x0), .val (.ref x1), .val (.int (4 : Int32)), .val (.ref b7), .val (.int (5 : Int32)), .val (.int (2 : Int32)), .val (.int (3 : Int32))]) rfl ?_
            refine w_iload X hx (dq hby d3_28) rfl ?_
            refine w_iloadN X hx (dq hby d3_30) rfl ?_
            refine w_icmp_ge X hx (dj hby d3_31) (fun hc31 => (?_ : False).elim) (fun hc31 => ?_)
            · exact absurd hc31 (by decide)
            refine w_j4 (fun (T : State) (locs : List Loc) (hj5 : Heap) (gj5 : Nat → Int32) => T.setTop (mkF m 60 #[.val (.ref x0), .val (.ref x1), .val (.int (4 : Int32)), .val (.ref b7), .val (.int (6 : Int32)), .val (.int (2 : Int32)), .val (.int (3 : Int32))] [])) (fun T locs hj5 gj5 => Stand p l e ({ frames := 0, cells := 1, slots := 4, locals := 0 } : Room) s m #[(.ref x0), (.ref x1)] below meth c T locs 1 4 ∧ T.heap = hj5 ∧ n0 ≤ hj5.size ∧ Fr n0 locs ∧ Keep h0 hj5 [] ∧ AV Z hj5 x1 .int 6 (iF pr) ∧ AV Z hj5 b7 .int 4 (iF gj5) ∧ gj5 2 = gj4 2 + ps (pr 5) ∧ gj5 3 = gj4 3 + ps (pr 5) ∧ ∀ i, i ≠ 2 → i ≠ 3 → gj5 i = gj4 i) (fun T locs hj5 gj5 hq => ?_) (fun J60 => ?_)
            · try dsimp only at hq ⊢
              obtain ⟨X, eT, hq⟩ := hq
              obtain ⟨Z0, N, K, A_x1, A_b7, ea5, eb5, eo5⟩ := hq
              refine w_iinc X hx (dq hby d3_60) rfl (z := (4 : Int32)) (by decide) (Ls' := #[.val (.ref x0), .val (.ref x1), .val (.int (4 : Int32)), .val (.ref b7), .val (.int (6 : Int32)), .val (.int (2 : Int32)), .val (.int (4 : Int32))]) rfl ?_
              refine w_goto X hx (dj hby d3_63) ?_
              refine w_iload X hx (dq hby d3_28) rfl ?_
              refine w_iloadN X hx (dq hby d3_30) rfl ?_
              refine w_icmp_ge X hx (dj hby d3_31) (fun hc31 => ?_) (fun hc31 => (?_ : False).elim)
              rotate_left
              · exact absurd hc31 (by decide)
              refine w_iinc X hx (dq hby d3_66) rfl (z := (3 : Int32)) (by decide) (Ls' := #[.val (.ref x0), .val (.ref x1), .val (.int (4 : Int32)), .val (.ref b7), .val (.int (6 : Int32)), .val (.int (3 : Int32)), .val (.int (4 : Int32))]) rfl ?_
              refine w_goto X hx (dj hby d3_69) ?_
              refine w_iload X hx (dq hby d3_16) rfl ?_
              refine w_iloadN X hx (dq hby d3_18) rfl ?_
              refine w_icmp_ge X hx (dj hby d3_19) (fun hc19 => (?_ : False).elim) (fun hc19 => ?_)
              · exact absurd hc19 (by decide)
              refine w_iload X hx (dq hby d3_22) rfl ?_
              refine w_iconst X hx (dq hby d3_24) (z := 1) rfl ?_
              refine w_iadd X hx (dq hby d3_25) ?_
              refine w_eqI (z := (4 : Int32)) (by decide) ?_
              refine w_istore X hx (dq hby d3_26) (z := (4 : Int32)) rfl (Ls' := #[.val (.ref x0), .val (.ref x1), .val (.int (4 : Int32)), .val (.ref b7), .val (.int (6 : Int32)), .val (.int (3 : Int32)), .val (.int (4 : Int32))]) rfl ?_
              refine w_iload X hx (dq hby d3_28) rfl ?_
              refine w_iloadN X hx (dq hby d3_30) rfl ?_
              refine w_icmp_ge X hx (dj hby d3_31) (fun hc31 => ?_) (fun hc31 => (?_ : False).elim)
              rotate_left
              · exact absurd hc31 (by decide)
              refine w_iinc X hx (dq hby d3_66) rfl (z := (4 : Int32)) (by decide) (Ls' := #[.val (.ref x0), .val (.ref x1), .val (.int (4 : Int32)), .val (.ref b7), .val (.int (6 : Int32)), .val (.int (4 : Int32)), .val (.int (4 : Int32))]) rfl ?_
              refine w_goto X hx (dj hby d3_69) ?_
              refine w_iload X hx (dq hby d3_16) rfl ?_
              refine w_iloadN X hx (dq hby d3_18) rfl ?_
              refine w_icmp_ge X hx (dj hby d3_19) (fun hc19 => ?_) (fun hc19 => (?_ : False).elim)
              rotate_left
              · exact absurd hc19 (by decide)
              refine w_aloadN X hx (dq hby d3_72) rfl rfl ?_
              refine w_retA X hx hret rfl rfl hlk (dq hby d3_73) (by decide) (by decide) ?_
              rw [eT]
              exact ⟨b7, gj5, rfl, N, K, ge_b7, A_b7, by rw [eo5 0 (by decide) (by decide), eo4 0 (by decide) (by decide), eo3 0 (by decide) (by decide), ea2, ea1, ea0], by rw [eo5 1 (by decide) (by decide), ea4, ea3, eo2 1 (by decide) (by decide), eo1 1 (by decide) (by decide), eb0], by rw [ea5, eo4 2 (by decide) (by decide), eb3, eo2 2 (by decide) (by decide), eb1, eo0 2 (by decide) (by decide)], by rw [eb5, eb4, eo3 3 (by decide) (by decide), eb2, eo1 3 (by decide) (by decide), eo0 3 (by decide) (by decide)]⟩
            refine w_aloadN X hx (dq hby d3_34) rfl rfl ?_
            refine w_iload X hx (dq hby d3_35) rfl ?_
            refine w_iinc X hx (dq hby d3_37) rfl (z := (6 : Int32)) (by decide) (Ls' := #[.val (.ref x0), .val (.ref x1), .val (.int (4 : Int32)), .val (.ref b7), .val (.int (6 : Int32)), .val (.int (2 : Int32)), .val (.int (3 : Int32))]) rfl ?_
            refine w_iaload X hx hZ eT A_x1 (i := 5) (rfl) (by decide) (z := (pr 5)) (rfl) (dq hby d3_40) ?_
            refine w_if_le X hx (dj hby d3_41) (fun hc41 => ?_) (fun hc41 => ?_)
            · exact J60 T _ hj4 gj4 ⟨X, eT, Z0, N, K, A_x1, A_b7, by rw [ps_f hc41, Int32.add_zero], by rw [ps_f hc41, Int32.add_zero], fun i _ _ => rfl⟩
            · refine w_aloadN X hx (dq hby d3_44) rfl rfl ?_
              refine w_iload X hx (dq hby d3_45) rfl ?_
              refine w_dup2 X hx (dq hby d3_47) rfl rfl ?_
              refine w_iaload X hx hZ eT A_b7 (i := 2) (rfl) (by decide) (z := (gj4 2)) (rfl) (dq hby d3_48) ?_
              refine w_iconst X hx (dq hby d3_49) (z := 1) rfl ?_
              refine w_iadd X hx (dq hby d3_50) ?_
              refine w_iastore X hx hZ eT A_b7 (i := 2) (rfl) (by decide) (dq hby d3_51) fun T h2 X eT W A' => ?_
              replace A_x1 := AV.other A_x1 W ne_x1_b7
              replace Z0 := Nat.le_trans Z0 (Nat.le_of_eq W.size.symm)
              replace K := K.wr W (Or.inr ge_b7)
              replace N := Fr.snoc X N g_b7
              replace A_b7 := A'
              obtain ⟨g3_51, hg3_51⟩ : ∃ gg, gg = (upd gj4 2 (((gj4 2) + (1 : Int32)))) := ⟨_, rfl⟩
              rw [← hg3_51] at A_b7
              refine w_aloadN X hx (dq hby d3_52) rfl rfl ?_
              refine w_iload X hx (dq hby d3_53) rfl ?_
              refine w_dup2 X hx (dq hby d3_55) rfl rfl ?_
              refine w_iaload X hx hZ eT A_b7 (i := 3) (rfl) (by decide) (z := (g3_51 3)) (rfl) (dq hby d3_56) ?_
              refine w_iconst X hx (dq hby d3_57) (z := 1) rfl ?_
              refine w_iadd X hx (dq hby d3_58) ?_
              refine w_iastore X hx hZ eT A_b7 (i := 3) (rfl) (by decide) (dq hby d3_59) fun T h3 X eT W A' => ?_
              replace A_x1 := AV.other A_x1 W ne_x1_b7
              replace Z0 := Nat.le_trans Z0 (Nat.le_of_eq W.size.symm)
              replace K := K.wr W (Or.inr ge_b7)
              replace N := Fr.snoc X N g_b7
              replace A_b7 := A'
              obtain ⟨g3_59, hg3_59⟩ : ∃ gg, gg = (upd g3_51 3 (((g3_51 3) + (1 : Int32)))) := ⟨_, rfl⟩
              rw [← hg3_59] at A_b7
              exact J60 T _ h3 g3_59 ⟨X, eT, Z0, N, K, A_x1, A_b7, by rw [ps_t hc41, hg3_59, upd_ne _ _ (by decide), hg3_51, upd_at], by rw [ps_t hc41, hg3_59, upd_at, hg3_51, upd_ne _ _ (by decide)], fun i q1 q2 => by rw [hg3_59, upd_ne _ _ q2, hg3_51, upd_ne _ _ q1]⟩
          refine w_aloadN X hx (dq hby d3_34) rfl rfl ?_
          refine w_iload X hx (dq hby d3_35) rfl ?_
          refine w_iinc X hx (dq hby d3_37) rfl (z := (5 : Int32)) (by decide) (Ls' := #[.val (.ref x0), .val (.ref x1), .val (.int (4 : Int32)), .val (.ref b7), .val (.int (5 : Int32)), .val (.int (1 : Int32)), .val (.int (3 : Int32))]) rfl ?_
          refine w_iaload X hx hZ eT A_x1 (i := 4) (rfl) (by decide) (z := (pr 4)) (rfl) (dq hby d3_40) ?_
          refine w_if_le X hx (dj hby d3_41) (fun hc41 => ?_) (fun hc41 => ?_)
          · exact J60 T _ hj3 gj3 ⟨X, eT, Z0, N, K, A_x1, A_b7, by rw [ps_f hc41, Int32.add_zero], by rw [ps_f hc41, Int32.add_zero], fun i _ _ => rfl⟩
          · refine w_aloadN X hx (dq hby d3_44) rfl rfl ?_
            refine w_iload X hx (dq hby d3_45) rfl ?_
            refine w_dup2 X hx (dq hby d3_47) rfl rfl ?_
            refine w_iaload X hx hZ eT A_b7 (i := 1) (rfl) (by decide) (z := (gj3 1)) (rfl) (dq hby d3_48) ?_
            refine w_iconst X hx (dq hby d3_49) (z := 1) rfl ?_
            refine w_iadd X hx (dq hby d3_50) ?_
            refine w_iastore X hx hZ eT A_b7 (i := 1) (rfl) (by decide) (dq hby d3_51) fun T h4 X eT W A' => ?_
            replace A_x1 := AV.other A_x1 W ne_x1_b7
            replace Z0 := Nat.le_trans Z0 (Nat.le_of_eq W.size.symm)
            replace K := K.wr W (Or.inr ge_b7)
            replace N := Fr.snoc X N g_b7
            replace A_b7 := A'
            obtain ⟨g3_51, hg3_51⟩ : ∃ gg, gg = (upd gj3 1 (((gj3 1) + (1 : Int32)))) := ⟨_, rfl⟩
            rw [← hg3_51] at A_b7
            refine w_aloadN X hx (dq hby d3_52) rfl rfl ?_
            refine w_iload X hx (dq hby d3_53) rfl ?_
            refine w_dup2 X hx (dq hby d3_55) rfl rfl ?_
            refine w_iaload X hx hZ eT A_b7 (i := 3) (rfl) (by decide) (z := (g3_51 3)) (rfl) (dq hby d3_56) ?_
            refine w_iconst X hx (dq hby d3_57) (z := 1) rfl ?_
            refine w_iadd X hx (dq hby d3_58) ?_
            refine w_iastore X hx hZ eT A_b7 (i := 3) (rfl) (by decide) (dq hby d3_59) fun T h5 X eT W A' => ?_
            replace A_x1 := AV.other A_x1 W ne_x1_b7
            replace Z0 := Nat.le_trans Z0 (Nat.le_of_eq W.size.symm)
            replace K := K.wr W (Or.inr ge_b7)
            replace N := Fr.snoc X N g_b7
            replace A_b7 := A'
            obtain ⟨g3_59, hg3_59⟩ : ∃ gg, gg = (upd g3_51 3 (((g3_51 3) + (1 : Int32)))) := ⟨_, rfl⟩
            rw [← hg3_59] at A_b7
            exact J60 T _ h5 g3_59 ⟨X, eT, Z0, N, K, A_x1, A_b7, by rw [ps_t hc41, hg3_59, upd_ne _ _ (by decide), hg3_51, upd_at], by rw [ps_t hc41, hg3_59, upd_at, hg3_51, upd_ne _ _ (by decide)], fun i q1 q2 => by rw [hg3_59, upd_ne _ _ q2, hg3_51, upd_ne _ _ q1]⟩
        refine w_aloadN X hx (dq hby d3_34) rfl rfl ?_
        refine w_iload X hx (dq hby d3_35) rfl ?_
        refine w_iinc X hx (dq hby d3_37) rfl (z := (4 : Int32)) (by decide) (Ls' := #[.val (.ref x0), .val (.ref x1), .val (.int (4 : Int32)), .val (.ref b7), .val (.int (4 : Int32)), .val (.int (1 : Int32)), .val (.int (2 : Int32))]) rfl ?_
        refine w_iaload X hx hZ eT A_x1 (i := 3) (rfl) (by decide) (z := (pr 3)) (rfl) (dq hby d3_40) ?_
        refine w_if_le X hx (dj hby d3_41) (fun hc41 => ?_) (fun hc41 => ?_)
        · exact J60 T _ hj2 gj2 ⟨X, eT, Z0, N, K, A_x1, A_b7, by rw [ps_f hc41, Int32.add_zero], by rw [ps_f hc41, Int32.add_zero], fun i _ _ => rfl⟩
        · refine w_aloadN X hx (dq hby d3_44) rfl rfl ?_
          refine w_iload X hx (dq hby d3_45) rfl ?_
          refine w_dup2 X hx (dq hby d3_47) rfl rfl ?_
          refine w_iaload X hx hZ eT A_b7 (i := 1) (rfl) (by decide) (z := (gj2 1)) (rfl) (dq hby d3_48) ?_
          refine w_iconst X hx (dq hby d3_49) (z := 1) rfl ?_
          refine w_iadd X hx (dq hby d3_50) ?_
          refine w_iastore X hx hZ eT A_b7 (i := 1) (rfl) (by decide) (dq hby d3_51) fun T h6 X eT W A' => ?_
          replace A_x1 := AV.other A_x1 W ne_x1_b7
          replace Z0 := Nat.le_trans Z0 (Nat.le_of_eq W.size.symm)
          replace K := K.wr W (Or.inr ge_b7)
          replace N := Fr.snoc X N g_b7
          replace A_b7 := A'
          obtain ⟨g3_51, hg3_51⟩ : ∃ gg, gg = (upd gj2 1 (((gj2 1) + (1 : Int32)))) := ⟨_, rfl⟩
          rw [← hg3_51] at A_b7
          refine w_aloadN X hx (dq hby d3_52) rfl rfl ?_
          refine w_iload X hx (dq hby d3_53) rfl ?_
          refine w_dup2 X hx (dq hby d3_55) rfl rfl ?_
          refine w_iaload X hx hZ eT A_b7 (i := 2) (rfl) (by decide) (z := (g3_51 2)) (rfl) (dq hby d3_56) ?_
          refine w_iconst X hx (dq hby d3_57) (z := 1) rfl ?_
          refine w_iadd X hx (dq hby d3_58) ?_
          refine w_iastore X hx hZ eT A_b7 (i := 2) (rfl) (by decide) (dq hby d3_59) fun T h7 X eT W A' => ?_
          replace A_x1 := AV.other A_x1 W ne_x1_b7
          replace Z0 := Nat.le_trans Z0 (Nat.le_of_eq W.size.symm)
          replace K := K.wr W (Or.inr ge_b7)
          replace N := Fr.snoc X N g_b7
          replace A_b7 := A'
          obtain ⟨g3_59, hg3_59⟩ : ∃ gg, gg = (upd g3_51 2 (((g3_51 2) + (1 : Int32)))) := ⟨_, rfl⟩
          rw [← hg3_59] at A_b7
          exact J60 T _ h7 g3_59 ⟨X, eT, Z0, N, K, A_x1, A_b7, by rw [ps_t hc41, hg3_59, upd_ne _ _ (by decide), hg3_51, upd_at], by rw [ps_t hc41, hg3_59, upd_at, hg3_51, upd_ne _ _ (by decide)], fun i q1 q2 => by rw [hg3_59, upd_ne _ _ q2, hg3_51, upd_ne _ _ q1]⟩
      refine w_aloadN X hx (dq hby d3_34) rfl rfl ?_
      refine w_iload X hx (dq hby d3_35) rfl ?_
      refine w_iinc X hx (dq hby d3_37) rfl (z := (3 : Int32)) (by decide) (Ls' := #[.val (.ref x0), .val (.ref x1), .val (.int (4 : Int32)), .val (.ref b7), .val (.int (3 : Int32)), .val (.int (0 : Int32)), .val (.int (3 : Int32))]) rfl ?_
      refine w_iaload X hx hZ eT A_x1 (i := 2) (rfl) (by decide) (z := (pr 2)) (rfl) (dq hby d3_40) ?_
      refine w_if_le X hx (dj hby d3_41) (fun hc41 => ?_) (fun hc41 => ?_)
      · exact J60 T _ hj1 gj1 ⟨X, eT, Z0, N, K, A_x1, A_b7, by rw [ps_f hc41, Int32.add_zero], by rw [ps_f hc41, Int32.add_zero], fun i _ _ => rfl⟩
      · refine w_aloadN X hx (dq hby d3_44) rfl rfl ?_
        refine w_iload X hx (dq hby d3_45) rfl ?_
        refine w_dup2 X hx (dq hby d3_47) rfl rfl ?_
        refine w_iaload X hx hZ eT A_b7 (i := 0) (rfl) (by decide) (z := (gj1 0)) (rfl) (dq hby d3_48) ?_
        refine w_iconst X hx (dq hby d3_49) (z := 1) rfl ?_
        refine w_iadd X hx (dq hby d3_50) ?_
        refine w_iastore X hx hZ eT A_b7 (i := 0) (rfl) (by decide) (dq hby d3_51) fun T h8 X eT W A' => ?_
        replace A_x1 := AV.other A_x1 W ne_x1_b7
        replace Z0 := Nat.le_trans Z0 (Nat.le_of_eq W.size.symm)
        replace K := K.wr W (Or.inr ge_b7)
        replace N := Fr.snoc X N g_b7
        replace A_b7 := A'
        obtain ⟨g3_51, hg3_51⟩ : ∃ gg, gg = (upd gj1 0 (((gj1 0) + (1 : Int32)))) := ⟨_, rfl⟩
        rw [← hg3_51] at A_b7
        refine w_aloadN X hx (dq hby d3_52) rfl rfl ?_
        refine w_iload X hx (dq hby d3_53) rfl ?_
        refine w_dup2 X hx (dq hby d3_55) rfl rfl ?_
        refine w_iaload X hx hZ eT A_b7 (i := 3) (rfl) (by decide) (z := (g3_51 3)) (rfl) (dq hby d3_56) ?_
        refine w_iconst X hx (dq hby d3_57) (z := 1) rfl ?_
        refine w_iadd X hx (dq hby d3_58) ?_
        refine w_iastore X hx hZ eT A_b7 (i := 3) (rfl) (by decide) (dq hby d3_59) fun T h9 X eT W A' => ?_
        replace A_x1 := AV.other A_x1 W ne_x1_b7
        replace Z0 := Nat.le_trans Z0 (Nat.le_of_eq W.size.symm)
        replace K := K.wr W (Or.inr ge_b7)
        replace N := Fr.snoc X N g_b7
        replace A_b7 := A'
        obtain ⟨g3_59, hg3_59⟩ : ∃ gg, gg = (upd g3_51 3 (((g3_51 3) + (1 : Int32)))) := ⟨_, rfl⟩
        rw [← hg3_59] at A_b7
        exact J60 T _ h9 g3_59 ⟨X, eT, Z0, N, K, A_x1, A_b7, by rw [ps_t hc41, hg3_59, upd_ne _ _ (by decide), hg3_51, upd_at], by rw [ps_t hc41, hg3_59, upd_at, hg3_51, upd_ne _ _ (by decide)], fun i q1 q2 => by rw [hg3_59, upd_ne _ _ q2, hg3_51, upd_ne _ _ q1]⟩
    refine w_aloadN X hx (dq hby d3_34) rfl rfl ?_
    refine w_iload X hx (dq hby d3_35) rfl ?_
    refine w_iinc X hx (dq hby d3_37) rfl (z := (2 : Int32)) (by decide) (Ls' := #[.val (.ref x0), .val (.ref x1), .val (.int (4 : Int32)), .val (.ref b7), .val (.int (2 : Int32)), .val (.int (0 : Int32)), .val (.int (2 : Int32))]) rfl ?_
    refine w_iaload X hx hZ eT A_x1 (i := 1) (rfl) (by decide) (z := (pr 1)) (rfl) (dq hby d3_40) ?_
    refine w_if_le X hx (dj hby d3_41) (fun hc41 => ?_) (fun hc41 => ?_)
    · exact J60 T _ hj0 gj0 ⟨X, eT, Z0, N, K, A_x1, A_b7, by rw [ps_f hc41, Int32.add_zero], by rw [ps_f hc41, Int32.add_zero], fun i _ _ => rfl⟩
    · refine w_aloadN X hx (dq hby d3_44) rfl rfl ?_
      refine w_iload X hx (dq hby d3_45) rfl ?_
      refine w_dup2 X hx (dq hby d3_47) rfl rfl ?_
      refine w_iaload X hx hZ eT A_b7 (i := 0) (rfl) (by decide) (z := (gj0 0)) (rfl) (dq hby d3_48) ?_
      refine w_iconst X hx (dq hby d3_49) (z := 1) rfl ?_
      refine w_iadd X hx (dq hby d3_50) ?_
      refine w_iastore X hx hZ eT A_b7 (i := 0) (rfl) (by decide) (dq hby d3_51) fun T h10 X eT W A' => ?_
      replace A_x1 := AV.other A_x1 W ne_x1_b7
      replace Z0 := Nat.le_trans Z0 (Nat.le_of_eq W.size.symm)
      replace K := K.wr W (Or.inr ge_b7)
      replace N := Fr.snoc X N g_b7
      replace A_b7 := A'
      obtain ⟨g3_51, hg3_51⟩ : ∃ gg, gg = (upd gj0 0 (((gj0 0) + (1 : Int32)))) := ⟨_, rfl⟩
      rw [← hg3_51] at A_b7
      refine w_aloadN X hx (dq hby d3_52) rfl rfl ?_
      refine w_iload X hx (dq hby d3_53) rfl ?_
      refine w_dup2 X hx (dq hby d3_55) rfl rfl ?_
      refine w_iaload X hx hZ eT A_b7 (i := 2) (rfl) (by decide) (z := (g3_51 2)) (rfl) (dq hby d3_56) ?_
      refine w_iconst X hx (dq hby d3_57) (z := 1) rfl ?_
      refine w_iadd X hx (dq hby d3_58) ?_
      refine w_iastore X hx hZ eT A_b7 (i := 2) (rfl) (by decide) (dq hby d3_59) fun T h11 X eT W A' => ?_
      replace A_x1 := AV.other A_x1 W ne_x1_b7
      replace Z0 := Nat.le_trans Z0 (Nat.le_of_eq W.size.symm)
      replace K := K.wr W (Or.inr ge_b7)
      replace N := Fr.snoc X N g_b7
      replace A_b7 := A'
      obtain ⟨g3_59, hg3_59⟩ : ∃ gg, gg = (upd g3_51 2 (((g3_51 2) + (1 : Int32)))) := ⟨_, rfl⟩
      rw [← hg3_59] at A_b7
      exact J60 T _ h11 g3_59 ⟨X, eT, Z0, N, K, A_x1, A_b7, by rw [ps_t hc41, hg3_59, upd_ne _ _ (by decide), hg3_51, upd_at], by rw [ps_t hc41, hg3_59, upd_at, hg3_51, upd_ne _ _ (by decide)], fun i q1 q2 => by rw [hg3_59, upd_ne _ _ q2, hg3_51, upd_ne _ _ q1]⟩
  refine w_aloadN X hx (dq hby d3_34) rfl rfl ?_
  refine w_iload X hx (dq hby d3_35) rfl ?_
  refine w_iinc X hx (dq hby d3_37) rfl (z := (1 : Int32)) (by decide) (Ls' := #[.val (.ref x0), .val (.ref x1), .val (.int (4 : Int32)), .val (.ref b7), .val (.int (1 : Int32)), .val (.int (0 : Int32)), .val (.int (1 : Int32))]) rfl ?_
  refine w_iaload X hx hZ eT A_x1 (i := 0) (rfl) (by decide) (z := (pr 0)) (rfl) (dq hby d3_40) ?_
  refine w_if_le X hx (dj hby d3_41) (fun hc41 => ?_) (fun hc41 => ?_)
  · exact J60 T _ h1 (fun _ => (0 : Int32)) ⟨X, eT, Z0, N, K, A_x1, A_b7, by rw [ps_f hc41, Int32.add_zero], by rw [ps_f hc41, Int32.add_zero], fun i _ _ => rfl⟩
  · refine w_aloadN X hx (dq hby d3_44) rfl rfl ?_
    refine w_iload X hx (dq hby d3_45) rfl ?_
    refine w_dup2 X hx (dq hby d3_47) rfl rfl ?_
    refine w_iaload X hx hZ eT A_b7 (i := 0) (rfl) (by decide) (z := ((fun _ => (0 : Int32)) 0)) (rfl) (dq hby d3_48) ?_
    refine w_iconst X hx (dq hby d3_49) (z := 1) rfl ?_
    refine w_iadd X hx (dq hby d3_50) ?_
    refine w_iastore X hx hZ eT A_b7 (i := 0) (rfl) (by decide) (dq hby d3_51) fun T h12 X eT W A' => ?_
    replace A_x1 := AV.other A_x1 W ne_x1_b7
    replace Z0 := Nat.le_trans Z0 (Nat.le_of_eq W.size.symm)
    replace K := K.wr W (Or.inr ge_b7)
    replace N := Fr.snoc X N g_b7
    replace A_b7 := A'
    obtain ⟨g3_51, hg3_51⟩ : ∃ gg, gg = (upd (fun _ => (0 : Int32)) 0 ((((fun _ => (0 : Int32)) 0) + (1 : Int32)))) := ⟨_, rfl⟩
    rw [← hg3_51] at A_b7
    refine w_aloadN X hx (dq hby d3_52) rfl rfl ?_
    refine w_iload X hx (dq hby d3_53) rfl ?_
    refine w_dup2 X hx (dq hby d3_55) rfl rfl ?_
    refine w_iaload X hx hZ eT A_b7 (i := 1) (rfl) (by decide) (z := (g3_51 1)) (rfl) (dq hby d3_56) ?_
    refine w_iconst X hx (dq hby d3_57) (z := 1) rfl ?_
    refine w_iadd X hx (dq hby d3_58) ?_
    refine w_iastore X hx hZ eT A_b7 (i := 1) (rfl) (by decide) (dq hby d3_59) fun T h13 X eT W A' => ?_
    replace A_x1 := AV.other A_x1 W ne_x1_b7
    replace Z0 := Nat.le_trans Z0 (Nat.le_of_eq W.size.symm)
    replace K := K.wr W (Or.inr ge_b7)
    replace N := Fr.snoc X N g_b7
    replace A_b7 := A'
    obtain ⟨g3_59, hg3_59⟩ : ∃ gg, gg = (upd g3_51 1 (((g3_51 1) + (1 : Int32)))) := ⟨_, rfl⟩
    rw [← hg3_59] at A_b7
    exact J60 T _ h13 g3_59 ⟨X, eT, Z0, N, K, A_x1, A_b7, by rw [ps_t hc41, hg3_59, upd_ne _ _ (by decide), hg3_51, upd_at], by rw [ps_t hc41, hg3_59, upd_at, hg3_51, upd_ne _ _ (by decide)], fun i q1 q2 => by rw [hg3_59, upd_ne _ _ q2, hg3_51, upd_ne _ _ q1]⟩
def Q0 (n0 : Nat) (v : Option Value) (h : Heap) (L : List Loc) : Prop := v = some (.int (1 : Int32)) ∧ Fr n0 L
set_option maxRecDepth 65536 in
set_option maxHeartbeats 40000000 in
theorem rm0 (l : Launch) (Z : State) (a0 : Array Value) (hw : ∀ d ∈ tables_1, d.before a0 Z = true) (ws : List Jvm.Cond) (i0 : Int32) (i1 : Int64) (i2 : Int64) (i3 : Int64) (h0 : Heap) (n0 : Nat) (Z0 : n0 ≤ h0.size) :
    MetFree l x (head1 (Jvm.Cond.code x code maxLocals ret :: ws) room_1) (fun a U => a = #[(.int i0), (.long i1), (.long i2), (.long i3)] ∧ Z.Warmed39 U.vm ∧ U.heap = h0) (fun _ _ _ _ _ => True) (fun _ U o U' => ∃ v L, o = .returned v ∧ Q0 n0 v U'.heap L ∧ FrameEnd U o U' L 24 128) := by
  refine w_body pn_0 ?_
  intro p e s m below meth c T X hx hby hml hown hnm hret hlk hZ eT
  rw [ef_0]
  have N := Fr.nil n0
  refine w_iloadN X hx (dq hby d0_0) rfl ?_
  refine w_ldc X hx hZ hown (hw _ (List.mem_of_getElem? (i := 0) rfl)) (dq hby d0_1) ?_
  refine w_iand X hx (dq hby d0_3) ?_
  refine w_iconst X hx (dq hby d0_4) (z := 5) rfl ?_
  refine w_irem X hx (dq hby d0_5) (by decide) ?_
  obtain ⟨v7_6, hv7_6⟩ : ∃ z : Int32, z = ((i0 &&& (2147483647 : Int32)) % (5 : Int32)) := ⟨_, rfl⟩
  refine w_istore X hx (dq hby d0_6) (z := v7_6) hv7_6 (Ls' := #[.val (.int i0), .val (.long i1), .second, .val (.long i2), .second, .val (.long i3), .second, .val (.int v7_6), .unset, .unset, .unset, .unset, .unset, .unset, .unset, .unset, .unset, .unset, .unset, .unset, .unset, .unset, .unset, .unset, .unset]) rfl ?_
  refine w_lloadN X hx (dq hby d0_8) rfl ?_
  refine w_l2i X hx (dq hby d0_9) ?_
  obtain ⟨v8_10, hv8_10⟩ : ∃ z : Int32, z = (i1.toInt32) := ⟨_, rfl⟩
  refine w_istore X hx (dq hby d0_10) (z := v8_10) hv8_10 (Ls' := #[.val (.int i0), .val (.long i1), .second, .val (.long i2), .second, .val (.long i3), .second, .val (.int v7_6), .val (.int v8_10), .unset, .unset, .unset, .unset, .unset, .unset, .unset, .unset, .unset, .unset, .unset, .unset, .unset, .unset, .unset, .unset]) rfl ?_
  refine w_lloadN X hx (dq hby d0_12) rfl ?_
  refine w_bipush X hx (dq hby d0_13) (z := 32) rfl ?_
  refine w_lushr X hx (dq hby d0_15) ?_
  refine w_l2i X hx (dq hby d0_16) ?_
  obtain ⟨v9_17, hv9_17⟩ : ∃ z : Int32, z = ((LUshr i1 (32 : Int32)).toInt32) := ⟨_, rfl⟩
  refine w_istore X hx (dq hby d0_17) (z := v9_17) hv9_17 (Ls' := #[.val (.int i0), .val (.long i1), .second, .val (.long i2), .second, .val (.long i3), .second, .val (.int v7_6), .val (.int v8_10), .val (.int v9_17), .unset, .unset, .unset, .unset, .unset, .unset, .unset, .unset, .unset, .unset, .unset, .unset, .unset, .unset, .unset]) rfl ?_
  refine w_lloadN X hx (dq hby d0_19) rfl ?_
  refine w_l2i X hx (dq hby d0_20) ?_
  obtain ⟨v10_21, hv10_21⟩ : ∃ z : Int32, z = (i2.toInt32) := ⟨_, rfl⟩
  refine w_istore X hx (dq hby d0_21) (z := v10_21) hv10_21 (Ls' := #[.val (.int i0), .val (.long i1), .second, .val (.long i2), .second, .val (.long i3), .second, .val (.int v7_6), .val (.int v8_10), .val (.int v9_17), .val (.int v10_21), .unset, .unset, .unset, .unset, .unset, .unset, .unset, .unset, .unset, .unset, .unset, .unset, .unset, .unset]) rfl ?_
  refine w_lloadN X hx (dq hby d0_23) rfl ?_
  refine w_bipush X hx (dq hby d0_24) (z := 32) rfl ?_
  refine w_lushr X hx (dq hby d0_26) ?_
  refine w_l2i X hx (dq hby d0_27) ?_
  obtain ⟨v11_28, hv11_28⟩ : ∃ z : Int32, z = ((LUshr i2 (32 : Int32)).toInt32) := ⟨_, rfl⟩
  refine w_istore X hx (dq hby d0_28) (z := v11_28) hv11_28 (Ls' := #[.val (.int i0), .val (.long i1), .second, .val (.long i2), .second, .val (.long i3), .second, .val (.int v7_6), .val (.int v8_10), .val (.int v9_17), .val (.int v10_21), .val (.int v11_28), .unset, .unset, .unset, .unset, .unset, .unset, .unset, .unset, .unset, .unset, .unset, .unset, .unset]) rfl ?_
  refine w_lload X hx (dq hby d0_30) rfl ?_
  refine w_l2i X hx (dq hby d0_32) ?_
  obtain ⟨v12_33, hv12_33⟩ : ∃ z : Int32, z = (i3.toInt32) := ⟨_, rfl⟩
  refine w_istore X hx (dq hby d0_33) (z := v12_33) hv12_33 (Ls' := #[.val (.int i0), .val (.long i1), .second, .val (.long i2), .second, .val (.long i3), .second, .val (.int v7_6), .val (.int v8_10), .val (.int v9_17), .val (.int v10_21), .val (.int v11_28), .val (.int v12_33), .unset, .unset, .unset, .unset, .unset, .unset, .unset, .unset, .unset, .unset, .unset, .unset]) rfl ?_
  refine w_lload X hx (dq hby d0_35) rfl ?_
  refine w_bipush X hx (dq hby d0_37) (z := 32) rfl ?_
  refine w_lushr X hx (dq hby d0_39) ?_
  refine w_l2i X hx (dq hby d0_40) ?_
  obtain ⟨v13_41, hv13_41⟩ : ∃ z : Int32, z = ((LUshr i3 (32 : Int32)).toInt32) := ⟨_, rfl⟩
  refine w_istore X hx (dq hby d0_41) (z := v13_41) hv13_41 (Ls' := #[.val (.int i0), .val (.long i1), .second, .val (.long i2), .second, .val (.long i3), .second, .val (.int v7_6), .val (.int v8_10), .val (.int v9_17), .val (.int v10_21), .val (.int v11_28), .val (.int v12_33), .val (.int v13_41), .unset, .unset, .unset, .unset, .unset, .unset, .unset, .unset, .unset, .unset, .unset]) rfl ?_
  rcases own_n i0 with hn | hn | hn | hn | hn
  · obtain rfl : v7_6 = 0 := hv7_6.trans hn
    refine w_iload X hx (dq hby d0_43) rfl ?_
    refine w_iload X hx (dq hby d0_45) rfl ?_
    refine w_iconst X hx (dq hby d0_47) (z := 1) rfl ?_
    refine w_isub X hx (dq hby d0_48) ?_
    refine w_eqI (z := (-1 : Int32)) (by decide) ?_
    refine w_imul X hx (dq hby d0_49) ?_
    refine w_eqI (z := (0 : Int32)) (by decide) ?_
    refine w_iconst X hx (dq hby d0_50) (z := 2) rfl ?_
    refine w_idiv X hx (dq hby d0_51) (by decide) ?_
    refine w_eqI (z := (0 : Int32)) (by decide) ?_
    refine w_istore X hx (dq hby d0_52) (z := (0 : Int32)) rfl (Ls' := #[.val (.int i0), .val (.long i1), .second, .val (.long i2), .second, .val (.long i3), .second, .val (.int (0 : Int32)), .val (.int v8_10), .val (.int v9_17), .val (.int v10_21), .val (.int v11_28), .val (.int v12_33), .val (.int v13_41), .val (.int (0 : Int32)), .unset, .unset, .unset, .unset, .unset, .unset, .unset, .unset, .unset, .unset]) rfl ?_
    refine w_iload X hx (dq hby d0_54) rfl ?_
    refine w_newarr X hx hZ eT (aty := .int) (hw _ (List.mem_of_getElem? (i := 1) rfl)) (dq hby d0_56) (n := 0) (cap := 0) (rfl) ((by decide)) (by decide) (by decide) (by decide) fun T h1 b56 hb_b56 X eT EX A_b56 => ?_
    have g_b56 : n0 ≤ b56 := by omega
    replace Z0 := Nat.le_trans Z0 EX.1
    replace A_b56 : AV Z h1 b56 .int 0 (iF (fun _ => (0 : Int32))) := A_b56
    refine w_astore X hx (dq hby d0_58) rfl (Ls' := #[.val (.int i0), .val (.long i1), .second, .val (.long i2), .second, .val (.long i3), .second, .val (.int (0 : Int32)), .val (.int v8_10), .val (.int v9_17), .val (.int v10_21), .val (.int v11_28), .val (.int v12_33), .val (.int v13_41), .val (.int (0 : Int32)), .val (.ref b56), .unset, .unset, .unset, .unset, .unset, .unset, .unset, .unset, .unset]) rfl ?_
    refine w_iload X hx (dq hby d0_60) rfl ?_
    refine w_if_le X hx (dj hby d0_62) (fun hc62 => ?_) (fun hc62 => (?_ : False).elim)
    rotate_left
    · exact absurd hc62 (by decide)
    refine w_iload X hx (dq hby d0_71) rfl ?_
    refine w_iconst X hx (dq hby d0_73) (z := 1) rfl ?_
    refine w_icmp_le X hx (dj hby d0_74) (fun hc74 => ?_) (fun hc74 => (?_ : False).elim)
    rotate_left
    · exact absurd hc74 (by decide)
    refine w_iload X hx (dq hby d0_83) rfl ?_
    refine w_iconst X hx (dq hby d0_85) (z := 2) rfl ?_
    refine w_icmp_le X hx (dj hby d0_86) (fun hc86 => ?_) (fun hc86 => (?_ : False).elim)
    rotate_left
    · exact absurd hc86 (by decide)
    refine w_iload X hx (dq hby d0_95) rfl ?_
    refine w_iconst X hx (dq hby d0_97) (z := 3) rfl ?_
    refine w_icmp_le X hx (dj hby d0_98) (fun hc98 => ?_) (fun hc98 => (?_ : False).elim)
    rotate_left
    · exact absurd hc98 (by decide)
    refine w_iload X hx (dq hby d0_107) rfl ?_
    refine w_iconst X hx (dq hby d0_109) (z := 4) rfl ?_
    refine w_icmp_le X hx (dj hby d0_110) (fun hc110 => ?_) (fun hc110 => (?_ : False).elim)
    rotate_left
    · exact absurd hc110 (by decide)
    refine w_iload X hx (dq hby d0_119) rfl ?_
    refine w_iconst X hx (dq hby d0_121) (z := 5) rfl ?_
    refine w_icmp_le X hx (dj hby d0_122) (fun hc122 => ?_) (fun hc122 => (?_ : False).elim)
    rotate_left
    · exact absurd hc122 (by decide)
    refine w_new X hx hZ eT hown (hw _ (List.mem_of_getElem? (i := 2) rfl)) (hw _ (List.mem_of_getElem? (i := 3) rfl)) (hw _ (List.mem_of_getElem? (i := 4) rfl)) (dq hby d0_131) (by decide) (by decide) fun T h2 b131 hb_b131 X eT EX E_b131 D_b131 => ?_
    have ne_b56_b131 : b56 ≠ b131 := by rw [hb_b131]; exact Nat.ne_of_lt A_b56.lt
    have g_b131 : n0 ≤ b131 := by omega
    replace A_b56 := AV.ext A_b56 EX
    replace Z0 := Nat.le_trans Z0 EX.1
    have F_rowStart_b131 : Fld Z h2 b131 "com/example/topicweave/topicweave/core/NodePairs" "rowStart" "[I" .null := D_b131 (Or.inr (hw _ (List.mem_of_getElem? (i := 13) rfl))) (ty := (.array .int)) (by decide)
    refine w_dup X hx (dq hby d0_134) rfl ?_
    refine w_iload X hx (dq hby d0_135) rfl ?_
    refine w_callI X hx hZ eT hml (by rfl) hown rfl (hw _ (List.mem_of_getElem? (i := 5) rfl)) (hw _ (List.mem_of_getElem? (i := 6) rfl)) (hw _ (List.mem_of_getElem? (i := 4) rfl)) (hw _ (List.mem_of_getElem? (i := 7) rfl)) (by decide) (init0 l Z a0 hw b131 n0 h2 Z0 g_b131 E_b131 F_rowStart_b131) (b := b131) (dq hby d0_137) pd_0 (argsL := [(.int (0 : Int32))]) (rest := [(.ref b131)]) rfl rfl rfl (W := 1) rfl (by decide) (by decide) (by decide) (by decide) fun v T L X hQ => ?_
    generalize eT : T.heap = h3 at hQ
    obtain ⟨rfl, N', K', E_b131, ar, gr, g_ar, ge_ar, F_rowStart_b131, A_ar⟩ := hQ
    replace A_b56 := AV.keep A_b56 K' (ninS ne_b56_b131 nin0)
    replace Z0 := Nat.le_trans Z0 K'.1
    replace N := Fr.app N N'
    refine w_astore X hx (dq hby d0_140) rfl (Ls' := #[.val (.int i0), .val (.long i1), .second, .val (.long i2), .second, .val (.long i3), .second, .val (.int (0 : Int32)), .val (.int v8_10), .val (.int v9_17), .val (.int v10_21), .val (.int v11_28), .val (.int v12_33), .val (.int v13_41), .val (.int (0 : Int32)), .val (.ref b56), .val (.ref b131), .unset, .unset, .unset, .unset, .unset, .unset, .unset, .unset]) rfl ?_
    refine w_aload X hx (dq hby d0_142) rfl rfl ?_
    refine w_aload X hx (dq hby d0_144) rfl rfl ?_
    refine w_callV X hx hZ eT hml (by rfl) hown (hw _ (List.mem_of_getElem? (i := 14) rfl)) (hw _ (List.mem_of_getElem? (i := 15) rfl)) (hw _ (List.mem_of_getElem? (i := 17) rfl)) (hw _ (List.mem_of_getElem? (i := 16) rfl)) (hw _ (List.mem_of_getElem? (i := 4) rfl)) (hw _ (List.mem_of_getElem? (i := 18) rfl)) (by decide) (part0 l Z a0 hw b131 b56 n0 ar gr (fun _ => (0 : Int32)) h3 Z0 F_rowStart_b131 A_ar A_b56) E_b131 (dq hby d0_146) pd_1 (argsL := [(.ref b56)]) (rest := []) rfl rfl rfl (W := 0) rfl (by decide) (by decide) (by decide) (by decide) fun v T L X hQ => ?_
    generalize eT : T.heap = h4 at hQ
    obtain ⟨bg, fg, rfl, N', K', ge_bg, A_bg⟩ := hQ
    replace N := Fr.app N N'
    have g_bg : n0 ≤ bg := Nat.le_trans Z0 ge_bg
    replace Z0 := Nat.le_trans Z0 K'.1
    refine w_astore X hx (dq hby d0_149) rfl (Ls' := #[.val (.int i0), .val (.long i1), .second, .val (.long i2), .second, .val (.long i3), .second, .val (.int (0 : Int32)), .val (.int v8_10), .val (.int v9_17), .val (.int v10_21), .val (.int v11_28), .val (.int v12_33), .val (.int v13_41), .val (.int (0 : Int32)), .val (.ref b56), .val (.ref b131), .val (.ref bg), .unset, .unset, .unset, .unset, .unset, .unset, .unset]) rfl ?_
    refine w_j1 (fun (z8 : Int32) => T.setTop (mkF m 161 #[.val (.int i0), .val (.long i1), .second, .val (.long i2), .second, .val (.long i3), .second, .val (.int (0 : Int32)), .val (.int v8_10), .val (.int v9_17), .val (.int v10_21), .val (.int v11_28), .val (.int v12_33), .val (.int v13_41), .val (.int (0 : Int32)), .val (.ref b56), .val (.ref b131), .val (.ref bg), .unset, .unset, .unset, .unset, .unset, .unset, .unset] [(.int z8)])) (fun z8 => z8 = ps v8_10) (fun z8 hq => ?_) (fun J161 => ?_)
    · try dsimp only at hq ⊢
      have hz8 := hq
      refine w_istore X hx (dq hby d0_161) (z := z8) rfl (Ls' := #[.val (.int i0), .val (.long i1), .second, .val (.long i2), .second, .val (.long i3), .second, .val (.int (0 : Int32)), .val (.int v8_10), .val (.int v9_17), .val (.int v10_21), .val (.int v11_28), .val (.int v12_33), .val (.int v13_41), .val (.int (0 : Int32)), .val (.ref b56), .val (.ref b131), .val (.ref bg), .val (.int z8), .unset, .unset, .unset, .unset, .unset, .unset]) rfl ?_
      refine w_j1 (fun (z9 : Int32) => T.setTop (mkF m 173 #[.val (.int i0), .val (.long i1), .second, .val (.long i2), .second, .val (.long i3), .second, .val (.int (0 : Int32)), .val (.int v8_10), .val (.int v9_17), .val (.int v10_21), .val (.int v11_28), .val (.int v12_33), .val (.int v13_41), .val (.int (0 : Int32)), .val (.ref b56), .val (.ref b131), .val (.ref bg), .val (.int z8), .unset, .unset, .unset, .unset, .unset, .unset] [(.int z9)])) (fun z9 => z9 = ps v9_17) (fun z9 hq => ?_) (fun J173 => ?_)
      · try dsimp only at hq ⊢
        have hz9 := hq
        refine w_istore X hx (dq hby d0_173) (z := z9) rfl (Ls' := #[.val (.int i0), .val (.long i1), .second, .val (.long i2), .second, .val (.long i3), .second, .val (.int (0 : Int32)), .val (.int v8_10), .val (.int v9_17), .val (.int v10_21), .val (.int v11_28), .val (.int v12_33), .val (.int v13_41), .val (.int (0 : Int32)), .val (.ref b56), .val (.ref b131), .val (.ref bg), .val (.int z8), .val (.int z9), .unset, .unset, .unset, .unset, .unset]) rfl ?_
        refine w_j1 (fun (z10 : Int32) => T.setTop (mkF m 185 #[.val (.int i0), .val (.long i1), .second, .val (.long i2), .second, .val (.long i3), .second, .val (.int (0 : Int32)), .val (.int v8_10), .val (.int v9_17), .val (.int v10_21), .val (.int v11_28), .val (.int v12_33), .val (.int v13_41), .val (.int (0 : Int32)), .val (.ref b56), .val (.ref b131), .val (.ref bg), .val (.int z8), .val (.int z9), .unset, .unset, .unset, .unset, .unset] [(.int z10)])) (fun z10 => z10 = ps v10_21) (fun z10 hq => ?_) (fun J185 => ?_)
        · try dsimp only at hq ⊢
          have hz10 := hq
          refine w_istore X hx (dq hby d0_185) (z := z10) rfl (Ls' := #[.val (.int i0), .val (.long i1), .second, .val (.long i2), .second, .val (.long i3), .second, .val (.int (0 : Int32)), .val (.int v8_10), .val (.int v9_17), .val (.int v10_21), .val (.int v11_28), .val (.int v12_33), .val (.int v13_41), .val (.int (0 : Int32)), .val (.ref b56), .val (.ref b131), .val (.ref bg), .val (.int z8), .val (.int z9), .val (.int z10), .unset, .unset, .unset, .unset]) rfl ?_
          refine w_j1 (fun (z11 : Int32) => T.setTop (mkF m 197 #[.val (.int i0), .val (.long i1), .second, .val (.long i2), .second, .val (.long i3), .second, .val (.int (0 : Int32)), .val (.int v8_10), .val (.int v9_17), .val (.int v10_21), .val (.int v11_28), .val (.int v12_33), .val (.int v13_41), .val (.int (0 : Int32)), .val (.ref b56), .val (.ref b131), .val (.ref bg), .val (.int z8), .val (.int z9), .val (.int z10), .unset, .unset, .unset, .unset] [(.int z11)])) (fun z11 => z11 = ps v11_28) (fun z11 hq => ?_) (fun J197 => ?_)
          · try dsimp only at hq ⊢
            have hz11 := hq
            refine w_istore X hx (dq hby d0_197) (z := z11) rfl (Ls' := #[.val (.int i0), .val (.long i1), .second, .val (.long i2), .second, .val (.long i3), .second, .val (.int (0 : Int32)), .val (.int v8_10), .val (.int v9_17), .val (.int v10_21), .val (.int v11_28), .val (.int v12_33), .val (.int v13_41), .val (.int (0 : Int32)), .val (.ref b56), .val (.ref b131), .val (.ref bg), .val (.int z8), .val (.int z9), .val (.int z10), .val (.int z11), .unset, .unset, .unset]) rfl ?_
            refine w_j1 (fun (z12 : Int32) => T.setTop (mkF m 209 #[.val (.int i0), .val (.long i1), .second, .val (.long i2), .second, .val (.long i3), .second, .val (.int (0 : Int32)), .val (.int v8_10), .val (.int v9_17), .val (.int v10_21), .val (.int v11_28), .val (.int v12_33), .val (.int v13_41), .val (.int (0 : Int32)), .val (.ref b56), .val (.ref b131), .val (.ref bg), .val (.int z8), .val (.int z9), .val (.int z10), .val (.int z11), .unset, .unset, .unset] [(.int z12)])) (fun z12 => z12 = ps v12_33) (fun z12 hq => ?_) (fun J209 => ?_)
            · try dsimp only at hq ⊢
              have hz12 := hq
              refine w_istore X hx (dq hby d0_209) (z := z12) rfl (Ls' := #[.val (.int i0), .val (.long i1), .second, .val (.long i2), .second, .val (.long i3), .second, .val (.int (0 : Int32)), .val (.int v8_10), .val (.int v9_17), .val (.int v10_21), .val (.int v11_28), .val (.int v12_33), .val (.int v13_41), .val (.int (0 : Int32)), .val (.ref b56), .val (.ref b131), .val (.ref bg), .val (.int z8), .val (.int z9), .val (.int z10), .val (.int z11), .val (.int z12), .unset, .unset]) rfl ?_
              refine w_j1 (fun (z13 : Int32) => T.setTop (mkF m 221 #[.val (.int i0), .val (.long i1), .second, .val (.long i2), .second, .val (.long i3), .second, .val (.int (0 : Int32)), .val (.int v8_10), .val (.int v9_17), .val (.int v10_21), .val (.int v11_28), .val (.int v12_33), .val (.int v13_41), .val (.int (0 : Int32)), .val (.ref b56), .val (.ref b131), .val (.ref bg), .val (.int z8), .val (.int z9), .val (.int z10), .val (.int z11), .val (.int z12), .unset, .unset] [(.int z13)])) (fun z13 => z13 = ps v13_41) (fun z13 hq => ?_) (fun J221 => ?_)
              · try dsimp only at hq ⊢
                have hz13 := hq
                refine w_istore X hx (dq hby d0_221) (z := z13) rfl (Ls' := #[.val (.int i0), .val (.long i1), .second, .val (.long i2), .second, .val (.long i3), .second, .val (.int (0 : Int32)), .val (.int v8_10), .val (.int v9_17), .val (.int v10_21), .val (.int v11_28), .val (.int v12_33), .val (.int v13_41), .val (.int (0 : Int32)), .val (.ref b56), .val (.ref b131), .val (.ref bg), .val (.int z8), .val (.int z9), .val (.int z10), .val (.int z11), .val (.int z12), .val (.int z13), .unset]) rfl ?_
                refine w_iconst X hx (dq hby d0_223) (z := 4) rfl ?_
                refine w_newarr X hx hZ eT (aty := .int) (hw _ (List.mem_of_getElem? (i := 1) rfl)) (dq hby d0_224) (n := 4) (cap := 4) (rfl) ((by decide)) (by decide) (by decide) (by decide) fun T h5 b224 hb_b224 X eT EX A_b224 => ?_
                have ne_bg_b224 : bg ≠ b224 := by rw [hb_b224]; exact Nat.ne_of_lt A_bg.lt
                have g_b224 : n0 ≤ b224 := by omega
                replace A_bg := AV.ext A_bg EX
                replace Z0 := Nat.le_trans Z0 EX.1
                replace A_b224 : AV Z h5 b224 .int 4 (iF (fun _ => (0 : Int32))) := A_b224
                refine w_astore X hx (dq hby d0_226) rfl (Ls' := #[.val (.int i0), .val (.long i1), .second, .val (.long i2), .second, .val (.long i3), .second, .val (.int (0 : Int32)), .val (.int v8_10), .val (.int v9_17), .val (.int v10_21), .val (.int v11_28), .val (.int v12_33), .val (.int v13_41), .val (.int (0 : Int32)), .val (.ref b56), .val (.ref b131), .val (.ref bg), .val (.int z8), .val (.int z9), .val (.int z10), .val (.int z11), .val (.int z12), .val (.int z13), .val (.ref b224)]) rfl ?_
                refine w_iload X hx (dq hby d0_228) rfl ?_
                refine w_iconst X hx (dq hby d0_230) (z := 2) rfl ?_
                refine w_icmp_ne X hx (dj hby d0_231) (fun hc231 => ?_) (fun hc231 => (?_ : False).elim)
                rotate_left
                · exact absurd hc231 (by decide)
                refine w_iload X hx (dq hby d0_249) rfl ?_
                refine w_iconst X hx (dq hby d0_251) (z := 3) rfl ?_
                refine w_icmp_ne X hx (dj hby d0_252) (fun hc252 => ?_) (fun hc252 => (?_ : False).elim)
                rotate_left
                · exact absurd hc252 (by decide)
                refine w_iload X hx (dq hby d0_285) rfl ?_
                refine w_iconst X hx (dq hby d0_287) (z := 4) rfl ?_
                refine w_icmp_ne X hx (dj hby d0_288) (fun hc288 => ?_) (fun hc288 => (?_ : False).elim)
                rotate_left
                · exact absurd hc288 (by decide)
                refine w_aload X hx (dq hby d0_339) rfl rfl ?_
                refine w_ifnullR X hx (dj hby d0_341) ?_
                refine w_aload X hx (dq hby d0_344) rfl rfl ?_
                refine w_arrlen X hx hZ eT A_bg (z := (0 : Int32)) (rfl) (dq hby d0_346) ?_
                refine w_iload X hx (dq hby d0_347) rfl ?_
                refine w_icmp_eq X hx (dj hby d0_349) (fun hc349 => ?_) (fun hc349 => (?_ : False).elim)
                rotate_left
                · exact hc349 rfl
                refine w_iload X hx (dq hby d0_354) rfl ?_
                refine w_if_le X hx (dj hby d0_356) (fun hc356 => ?_) (fun hc356 => (?_ : False).elim)
                rotate_left
                · exact absurd hc356 (by decide)
                refine w_iload X hx (dq hby d0_372) rfl ?_
                refine w_iconst X hx (dq hby d0_374) (z := 1) rfl ?_
                refine w_icmp_le X hx (dj hby d0_375) (fun hc375 => ?_) (fun hc375 => (?_ : False).elim)
                rotate_left
                · exact absurd hc375 (by decide)
                refine w_iload X hx (dq hby d0_391) rfl ?_
                refine w_iconst X hx (dq hby d0_393) (z := 2) rfl ?_
                refine w_icmp_le X hx (dj hby d0_394) (fun hc394 => ?_) (fun hc394 => (?_ : False).elim)
                rotate_left
                · exact absurd hc394 (by decide)
                refine w_iload X hx (dq hby d0_410) rfl ?_
                refine w_iconst X hx (dq hby d0_412) (z := 3) rfl ?_
                refine w_icmp_le X hx (dj hby d0_413) (fun hc413 => ?_) (fun hc413 => (?_ : False).elim)
                rotate_left
                · exact absurd hc413 (by decide)
                refine w_iconst X hx (dq hby d0_429) (z := 1) rfl ?_
                refine w_retN X hx hret (by simp) hlk (dq hby d0_430) (by decide) (by decide) ?_
                exact ⟨by simp [nar], N⟩
              refine w_iload X hx (dq hby d0_211) rfl ?_
              refine w_if_le X hx (dj hby d0_213) (fun hc213 => ?_) (fun hc213 => ?_)
              · refine w_iconst X hx (dq hby d0_220) (z := 0) rfl ?_
                exact J221 _ (ps_f hc213).symm
              · refine w_iconst X hx (dq hby d0_216) (z := 1) rfl ?_
                refine w_goto X hx (dj hby d0_217) ?_
                exact J221 _ (ps_t hc213).symm
            refine w_iload X hx (dq hby d0_199) rfl ?_
            refine w_if_le X hx (dj hby d0_201) (fun hc201 => ?_) (fun hc201 => ?_)
            · refine w_iconst X hx (dq hby d0_208) (z := 0) rfl ?_
              exact J209 _ (ps_f hc201).symm
            · refine w_iconst X hx (dq hby d0_204) (z := 1) rfl ?_
              refine w_goto X hx (dj hby d0_205) ?_
              exact J209 _ (ps_t hc201).symm
          refine w_iload X hx (dq hby d0_187) rfl ?_
          refine w_if_le X hx (dj hby d0_189) (fun hc189 => ?_) (fun hc189 => ?_)
          · refine w_iconst X hx (dq hby d0_196) (z := 0) rfl ?_
            exact J197 _ (ps_f hc189).symm
          · refine w_iconst X hx (dq hby d0_192) (z := 1) rfl ?_
            refine w_goto X hx (dj hby d0_193) ?_
            exact J197 _ (ps_t hc189).symm
        refine w_iload X hx (dq hby d0_175) rfl ?_
        refine w_if_le X hx (dj hby d0_177) (fun hc177 => ?_) (fun hc177 => ?_)
        · refine w_iconst X hx (dq hby d0_184) (z := 0) rfl ?_
          exact J185 _ (ps_f hc177).symm
        · refine w_iconst X hx (dq hby d0_180) (z := 1) rfl ?_
          refine w_goto X hx (dj hby d0_181) ?_
          exact J185 _ (ps_t hc177).symm
      refine w_iload X hx (dq hby d0_163) rfl ?_
      refine w_if_le X hx (dj hby d0_165) (fun hc165 => ?_) (fun hc165 => ?_)
      · refine w_iconst X hx (dq hby d0_172) (z := 0) rfl ?_
        exact J173 _ (ps_f hc165).symm
      · refine w_iconst X hx (dq hby d0_168) (z := 1) rfl ?_
        refine w_goto X hx (dj hby d0_169) ?_
        exact J173 _ (ps_t hc165).symm
    refine w_iload X hx (dq hby d0_151) rfl ?_
    refine w_if_le X hx (dj hby d0_153) (fun hc153 => ?_) (fun hc153 => ?_)
    · refine w_iconst X hx (dq hby d0_160) (z := 0) rfl ?_
      exact J161 _ (ps_f hc153).symm
    · refine w_iconst X hx (dq hby d0_156) (z := 1) rfl ?_
      refine w_goto X hx (dj hby d0_157) ?_
      exact J161 _ (ps_t hc153).symm
  · obtain rfl : v7_6 = 1 := hv7_6.trans hn
    refine w_iload X hx (dq hby d0_43) rfl ?_
    refine w_iload X hx (dq hby d0_45) rfl ?_
    refine w_iconst X hx (dq hby d0_47) (z := 1) rfl ?_
    refine w_isub X hx (dq hby d0_48) ?_
    refine w_eqI (z := (0 : Int32)) (by decide) ?_
    refine w_imul X hx (dq hby d0_49) ?_
    refine w_eqI (z := (0 : Int32)) (by decide) ?_
    refine w_iconst X hx (dq hby d0_50) (z := 2) rfl ?_
    refine w_idiv X hx (dq hby d0_51) (by decide) ?_
    refine w_eqI (z := (0 : Int32)) (by decide) ?_
    refine w_istore X hx (dq hby d0_52) (z := (0 : Int32)) rfl (Ls' := #[.val (.int i0), .val (.long i1), .second, .val (.long i2), .second, .val (.long i3), .second, .val (.int (1 : Int32)), .val (.int v8_10), .val (.int v9_17), .val (.int v10_21), .val (.int v11_28), .val (.int v12_33), .val (.int v13_41), .val (.int (0 : Int32)), .unset, .unset, .unset, .unset, .unset, .unset, .unset, .unset, .unset, .unset]) rfl ?_
    refine w_iload X hx (dq hby d0_54) rfl ?_
    refine w_newarr X hx hZ eT (aty := .int) (hw _ (List.mem_of_getElem? (i := 1) rfl)) (dq hby d0_56) (n := 0) (cap := 0) (rfl) ((by decide)) (by decide) (by decide) (by decide) fun T h6 b56 hb_b56 X eT EX A_b56 => ?_
    have g_b56 : n0 ≤ b56 := by omega
    replace Z0 := Nat.le_trans Z0 EX.1
    replace A_b56 : AV Z h6 b56 .int 0 (iF (fun _ => (0 : Int32))) := A_b56
    refine w_astore X hx (dq hby d0_58) rfl (Ls' := #[.val (.int i0), .val (.long i1), .second, .val (.long i2), .second, .val (.long i3), .second, .val (.int (1 : Int32)), .val (.int v8_10), .val (.int v9_17), .val (.int v10_21), .val (.int v11_28), .val (.int v12_33), .val (.int v13_41), .val (.int (0 : Int32)), .val (.ref b56), .unset, .unset, .unset, .unset, .unset, .unset, .unset, .unset, .unset]) rfl ?_
    refine w_iload X hx (dq hby d0_60) rfl ?_
    refine w_if_le X hx (dj hby d0_62) (fun hc62 => ?_) (fun hc62 => (?_ : False).elim)
    rotate_left
    · exact absurd hc62 (by decide)
    refine w_iload X hx (dq hby d0_71) rfl ?_
    refine w_iconst X hx (dq hby d0_73) (z := 1) rfl ?_
    refine w_icmp_le X hx (dj hby d0_74) (fun hc74 => ?_) (fun hc74 => (?_ : False).elim)
    rotate_left
    · exact absurd hc74 (by decide)
    refine w_iload X hx (dq hby d0_83) rfl ?_
    refine w_iconst X hx (dq hby d0_85) (z := 2) rfl ?_
    refine w_icmp_le X hx (dj hby d0_86) (fun hc86 => ?_) (fun hc86 => (?_ : False).elim)
    rotate_left
    · exact absurd hc86 (by decide)
    refine w_iload X hx (dq hby d0_95) rfl ?_
    refine w_iconst X hx (dq hby d0_97) (z := 3) rfl ?_
    refine w_icmp_le X hx (dj hby d0_98) (fun hc98 => ?_) (fun hc98 => (?_ : False).elim)
    rotate_left
    · exact absurd hc98 (by decide)
    refine w_iload X hx (dq hby d0_107) rfl ?_
    refine w_iconst X hx (dq hby d0_109) (z := 4) rfl ?_
    refine w_icmp_le X hx (dj hby d0_110) (fun hc110 => ?_) (fun hc110 => (?_ : False).elim)
    rotate_left
    · exact absurd hc110 (by decide)
    refine w_iload X hx (dq hby d0_119) rfl ?_
    refine w_iconst X hx (dq hby d0_121) (z := 5) rfl ?_
    refine w_icmp_le X hx (dj hby d0_122) (fun hc122 => ?_) (fun hc122 => (?_ : False).elim)
    rotate_left
    · exact absurd hc122 (by decide)
    refine w_new X hx hZ eT hown (hw _ (List.mem_of_getElem? (i := 2) rfl)) (hw _ (List.mem_of_getElem? (i := 3) rfl)) (hw _ (List.mem_of_getElem? (i := 4) rfl)) (dq hby d0_131) (by decide) (by decide) fun T h7 b131 hb_b131 X eT EX E_b131 D_b131 => ?_
    have ne_b56_b131 : b56 ≠ b131 := by rw [hb_b131]; exact Nat.ne_of_lt A_b56.lt
    have g_b131 : n0 ≤ b131 := by omega
    replace A_b56 := AV.ext A_b56 EX
    replace Z0 := Nat.le_trans Z0 EX.1
    have F_rowStart_b131 : Fld Z h7 b131 "com/example/topicweave/topicweave/core/NodePairs" "rowStart" "[I" .null := D_b131 (Or.inr (hw _ (List.mem_of_getElem? (i := 13) rfl))) (ty := (.array .int)) (by decide)
    refine w_dup X hx (dq hby d0_134) rfl ?_
    refine w_iload X hx (dq hby d0_135) rfl ?_
    refine w_callI X hx hZ eT hml (by rfl) hown rfl (hw _ (List.mem_of_getElem? (i := 5) rfl)) (hw _ (List.mem_of_getElem? (i := 6) rfl)) (hw _ (List.mem_of_getElem? (i := 4) rfl)) (hw _ (List.mem_of_getElem? (i := 7) rfl)) (by decide) (init1 l Z a0 hw b131 n0 h7 Z0 g_b131 E_b131 F_rowStart_b131) (b := b131) (dq hby d0_137) pd_0 (argsL := [(.int (1 : Int32))]) (rest := [(.ref b131)]) rfl rfl rfl (W := 1) rfl (by decide) (by decide) (by decide) (by decide) fun v T L X hQ => ?_
    generalize eT : T.heap = h8 at hQ
    obtain ⟨rfl, N', K', E_b131, ar, gr, g_ar, ge_ar, F_rowStart_b131, A_ar⟩ := hQ
    replace A_b56 := AV.keep A_b56 K' (ninS ne_b56_b131 nin0)
    replace Z0 := Nat.le_trans Z0 K'.1
    replace N := Fr.app N N'
    refine w_astore X hx (dq hby d0_140) rfl (Ls' := #[.val (.int i0), .val (.long i1), .second, .val (.long i2), .second, .val (.long i3), .second, .val (.int (1 : Int32)), .val (.int v8_10), .val (.int v9_17), .val (.int v10_21), .val (.int v11_28), .val (.int v12_33), .val (.int v13_41), .val (.int (0 : Int32)), .val (.ref b56), .val (.ref b131), .unset, .unset, .unset, .unset, .unset, .unset, .unset, .unset]) rfl ?_
    refine w_aload X hx (dq hby d0_142) rfl rfl ?_
    refine w_aload X hx (dq hby d0_144) rfl rfl ?_
    refine w_callV X hx hZ eT hml (by rfl) hown (hw _ (List.mem_of_getElem? (i := 14) rfl)) (hw _ (List.mem_of_getElem? (i := 15) rfl)) (hw _ (List.mem_of_getElem? (i := 17) rfl)) (hw _ (List.mem_of_getElem? (i := 16) rfl)) (hw _ (List.mem_of_getElem? (i := 4) rfl)) (hw _ (List.mem_of_getElem? (i := 18) rfl)) (by decide) (part1 l Z a0 hw b131 b56 n0 ar gr (fun _ => (0 : Int32)) h8 Z0 F_rowStart_b131 A_ar A_b56) E_b131 (dq hby d0_146) pd_1 (argsL := [(.ref b56)]) (rest := []) rfl rfl rfl (W := 0) rfl (by decide) (by decide) (by decide) (by decide) fun v T L X hQ => ?_
    generalize eT : T.heap = h9 at hQ
    obtain ⟨bg, fg, rfl, N', K', ge_bg, A_bg, fe0⟩ := hQ
    replace N := Fr.app N N'
    have g_bg : n0 ≤ bg := Nat.le_trans Z0 ge_bg
    replace Z0 := Nat.le_trans Z0 K'.1
    refine w_astore X hx (dq hby d0_149) rfl (Ls' := #[.val (.int i0), .val (.long i1), .second, .val (.long i2), .second, .val (.long i3), .second, .val (.int (1 : Int32)), .val (.int v8_10), .val (.int v9_17), .val (.int v10_21), .val (.int v11_28), .val (.int v12_33), .val (.int v13_41), .val (.int (0 : Int32)), .val (.ref b56), .val (.ref b131), .val (.ref bg), .unset, .unset, .unset, .unset, .unset, .unset, .unset]) rfl ?_
    refine w_j1 (fun (z8 : Int32) => T.setTop (mkF m 161 #[.val (.int i0), .val (.long i1), .second, .val (.long i2), .second, .val (.long i3), .second, .val (.int (1 : Int32)), .val (.int v8_10), .val (.int v9_17), .val (.int v10_21), .val (.int v11_28), .val (.int v12_33), .val (.int v13_41), .val (.int (0 : Int32)), .val (.ref b56), .val (.ref b131), .val (.ref bg), .unset, .unset, .unset, .unset, .unset, .unset, .unset] [(.int z8)])) (fun z8 => z8 = ps v8_10) (fun z8 hq => ?_) (fun J161 => ?_)
    · try dsimp only at hq ⊢
      have hz8 := hq
      refine w_istore X hx (dq hby d0_161) (z := z8) rfl (Ls' := #[.val (.int i0), .val (.long i1), .second, .val (.long i2), .second, .val (.long i3), .second, .val (.int (1 : Int32)), .val (.int v8_10), .val (.int v9_17), .val (.int v10_21), .val (.int v11_28), .val (.int v12_33), .val (.int v13_41), .val (.int (0 : Int32)), .val (.ref b56), .val (.ref b131), .val (.ref bg), .val (.int z8), .unset, .unset, .unset, .unset, .unset, .unset]) rfl ?_
      refine w_j1 (fun (z9 : Int32) => T.setTop (mkF m 173 #[.val (.int i0), .val (.long i1), .second, .val (.long i2), .second, .val (.long i3), .second, .val (.int (1 : Int32)), .val (.int v8_10), .val (.int v9_17), .val (.int v10_21), .val (.int v11_28), .val (.int v12_33), .val (.int v13_41), .val (.int (0 : Int32)), .val (.ref b56), .val (.ref b131), .val (.ref bg), .val (.int z8), .unset, .unset, .unset, .unset, .unset, .unset] [(.int z9)])) (fun z9 => z9 = ps v9_17) (fun z9 hq => ?_) (fun J173 => ?_)
      · try dsimp only at hq ⊢
        have hz9 := hq
        refine w_istore X hx (dq hby d0_173) (z := z9) rfl (Ls' := #[.val (.int i0), .val (.long i1), .second, .val (.long i2), .second, .val (.long i3), .second, .val (.int (1 : Int32)), .val (.int v8_10), .val (.int v9_17), .val (.int v10_21), .val (.int v11_28), .val (.int v12_33), .val (.int v13_41), .val (.int (0 : Int32)), .val (.ref b56), .val (.ref b131), .val (.ref bg), .val (.int z8), .val (.int z9), .unset, .unset, .unset, .unset, .unset]) rfl ?_
        refine w_j1 (fun (z10 : Int32) => T.setTop (mkF m 185 #[.val (.int i0), .val (.long i1), .second, .val (.long i2), .second, .val (.long i3), .second, .val (.int (1 : Int32)), .val (.int v8_10), .val (.int v9_17), .val (.int v10_21), .val (.int v11_28), .val (.int v12_33), .val (.int v13_41), .val (.int (0 : Int32)), .val (.ref b56), .val (.ref b131), .val (.ref bg), .val (.int z8), .val (.int z9), .unset, .unset, .unset, .unset, .unset] [(.int z10)])) (fun z10 => z10 = ps v10_21) (fun z10 hq => ?_) (fun J185 => ?_)
        · try dsimp only at hq ⊢
          have hz10 := hq
          refine w_istore X hx (dq hby d0_185) (z := z10) rfl (Ls' := #[.val (.int i0), .val (.long i1), .second, .val (.long i2), .second, .val (.long i3), .second, .val (.int (1 : Int32)), .val (.int v8_10), .val (.int v9_17), .val (.int v10_21), .val (.int v11_28), .val (.int v12_33), .val (.int v13_41), .val (.int (0 : Int32)), .val (.ref b56), .val (.ref b131), .val (.ref bg), .val (.int z8), .val (.int z9), .val (.int z10), .unset, .unset, .unset, .unset]) rfl ?_
          refine w_j1 (fun (z11 : Int32) => T.setTop (mkF m 197 #[.val (.int i0), .val (.long i1), .second, .val (.long i2), .second, .val (.long i3), .second, .val (.int (1 : Int32)), .val (.int v8_10), .val (.int v9_17), .val (.int v10_21), .val (.int v11_28), .val (.int v12_33), .val (.int v13_41), .val (.int (0 : Int32)), .val (.ref b56), .val (.ref b131), .val (.ref bg), .val (.int z8), .val (.int z9), .val (.int z10), .unset, .unset, .unset, .unset] [(.int z11)])) (fun z11 => z11 = ps v11_28) (fun z11 hq => ?_) (fun J197 => ?_)
          · try dsimp only at hq ⊢
            have hz11 := hq
            refine w_istore X hx (dq hby d0_197) (z := z11) rfl (Ls' := #[.val (.int i0), .val (.long i1), .second, .val (.long i2), .second, .val (.long i3), .second, .val (.int (1 : Int32)), .val (.int v8_10), .val (.int v9_17), .val (.int v10_21), .val (.int v11_28), .val (.int v12_33), .val (.int v13_41), .val (.int (0 : Int32)), .val (.ref b56), .val (.ref b131), .val (.ref bg), .val (.int z8), .val (.int z9), .val (.int z10), .val (.int z11), .unset, .unset, .unset]) rfl ?_
            refine w_j1 (fun (z12 : Int32) => T.setTop (mkF m 209 #[.val (.int i0), .val (.long i1), .second, .val (.long i2), .second, .val (.long i3), .second, .val (.int (1 : Int32)), .val (.int v8_10), .val (.int v9_17), .val (.int v10_21), .val (.int v11_28), .val (.int v12_33), .val (.int v13_41), .val (.int (0 : Int32)), .val (.ref b56), .val (.ref b131), .val (.ref bg), .val (.int z8), .val (.int z9), .val (.int z10), .val (.int z11), .unset, .unset, .unset] [(.int z12)])) (fun z12 => z12 = ps v12_33) (fun z12 hq => ?_) (fun J209 => ?_)
            · try dsimp only at hq ⊢
              have hz12 := hq
              refine w_istore X hx (dq hby d0_209) (z := z12) rfl (Ls' := #[.val (.int i0), .val (.long i1), .second, .val (.long i2), .second, .val (.long i3), .second, .val (.int (1 : Int32)), .val (.int v8_10), .val (.int v9_17), .val (.int v10_21), .val (.int v11_28), .val (.int v12_33), .val (.int v13_41), .val (.int (0 : Int32)), .val (.ref b56), .val (.ref b131), .val (.ref bg), .val (.int z8), .val (.int z9), .val (.int z10), .val (.int z11), .val (.int z12), .unset, .unset]) rfl ?_
              refine w_j1 (fun (z13 : Int32) => T.setTop (mkF m 221 #[.val (.int i0), .val (.long i1), .second, .val (.long i2), .second, .val (.long i3), .second, .val (.int (1 : Int32)), .val (.int v8_10), .val (.int v9_17), .val (.int v10_21), .val (.int v11_28), .val (.int v12_33), .val (.int v13_41), .val (.int (0 : Int32)), .val (.ref b56), .val (.ref b131), .val (.ref bg), .val (.int z8), .val (.int z9), .val (.int z10), .val (.int z11), .val (.int z12), .unset, .unset] [(.int z13)])) (fun z13 => z13 = ps v13_41) (fun z13 hq => ?_) (fun J221 => ?_)
              · try dsimp only at hq ⊢
                have hz13 := hq
                refine w_istore X hx (dq hby d0_221) (z := z13) rfl (Ls' := #[.val (.int i0), .val (.long i1), .second, .val (.long i2), .second, .val (.long i3), .second, .val (.int (1 : Int32)), .val (.int v8_10), .val (.int v9_17), .val (.int v10_21), .val (.int v11_28), .val (.int v12_33), .val (.int v13_41), .val (.int (0 : Int32)), .val (.ref b56), .val (.ref b131), .val (.ref bg), .val (.int z8), .val (.int z9), .val (.int z10), .val (.int z11), .val (.int z12), .val (.int z13), .unset]) rfl ?_
                refine w_iconst X hx (dq hby d0_223) (z := 4) rfl ?_
                refine w_newarr X hx hZ eT (aty := .int) (hw _ (List.mem_of_getElem? (i := 1) rfl)) (dq hby d0_224) (n := 4) (cap := 4) (rfl) ((by decide)) (by decide) (by decide) (by decide) fun T h10 b224 hb_b224 X eT EX A_b224 => ?_
                have ne_bg_b224 : bg ≠ b224 := by rw [hb_b224]; exact Nat.ne_of_lt A_bg.lt
                have g_b224 : n0 ≤ b224 := by omega
                replace A_bg := AV.ext A_bg EX
                replace Z0 := Nat.le_trans Z0 EX.1
                replace A_b224 : AV Z h10 b224 .int 4 (iF (fun _ => (0 : Int32))) := A_b224
                refine w_astore X hx (dq hby d0_226) rfl (Ls' := #[.val (.int i0), .val (.long i1), .second, .val (.long i2), .second, .val (.long i3), .second, .val (.int (1 : Int32)), .val (.int v8_10), .val (.int v9_17), .val (.int v10_21), .val (.int v11_28), .val (.int v12_33), .val (.int v13_41), .val (.int (0 : Int32)), .val (.ref b56), .val (.ref b131), .val (.ref bg), .val (.int z8), .val (.int z9), .val (.int z10), .val (.int z11), .val (.int z12), .val (.int z13), .val (.ref b224)]) rfl ?_
                refine w_iload X hx (dq hby d0_228) rfl ?_
                refine w_iconst X hx (dq hby d0_230) (z := 2) rfl ?_
                refine w_icmp_ne X hx (dj hby d0_231) (fun hc231 => ?_) (fun hc231 => (?_ : False).elim)
                rotate_left
                · exact absurd hc231 (by decide)
                refine w_iload X hx (dq hby d0_249) rfl ?_
                refine w_iconst X hx (dq hby d0_251) (z := 3) rfl ?_
                refine w_icmp_ne X hx (dj hby d0_252) (fun hc252 => ?_) (fun hc252 => (?_ : False).elim)
                rotate_left
                · exact absurd hc252 (by decide)
                refine w_iload X hx (dq hby d0_285) rfl ?_
                refine w_iconst X hx (dq hby d0_287) (z := 4) rfl ?_
                refine w_icmp_ne X hx (dj hby d0_288) (fun hc288 => ?_) (fun hc288 => (?_ : False).elim)
                rotate_left
                · exact absurd hc288 (by decide)
                refine w_aload X hx (dq hby d0_339) rfl rfl ?_
                refine w_ifnullR X hx (dj hby d0_341) ?_
                refine w_aload X hx (dq hby d0_344) rfl rfl ?_
                refine w_arrlen X hx hZ eT A_bg (z := (1 : Int32)) (rfl) (dq hby d0_346) ?_
                refine w_iload X hx (dq hby d0_347) rfl ?_
                refine w_icmp_eq X hx (dj hby d0_349) (fun hc349 => ?_) (fun hc349 => (?_ : False).elim)
                rotate_left
                · exact hc349 rfl
                refine w_iload X hx (dq hby d0_354) rfl ?_
                refine w_if_le X hx (dj hby d0_356) (fun hc356 => (?_ : False).elim) (fun hc356 => ?_)
                · exact absurd hc356 (by decide)
                refine w_aload X hx (dq hby d0_359) rfl rfl ?_
                refine w_iconst X hx (dq hby d0_361) (z := 0) rfl ?_
                refine w_iaload X hx hZ eT A_bg (i := 0) (rfl) (by decide) (z := (fg 0)) (rfl) (dq hby d0_362) ?_
                refine w_aload X hx (dq hby d0_363) rfl rfl ?_
                refine w_iconst X hx (dq hby d0_365) (z := 0) rfl ?_
                refine w_iaload X hx hZ eT A_b224 (i := 0) (rfl) (by decide) (z := ((fun _ => (0 : Int32)) 0)) (rfl) (dq hby d0_366) ?_
                refine w_icmp_eq X hx (dj hby d0_367) (fun hc367 => ?_) (fun hc367 => (?_ : False).elim)
                rotate_left
                · exact hc367 (fe0.trans (by simp [upd, Int32.zero_add, hz8, hz9, hz10, hz11, hz12, hz13]))
                refine w_iload X hx (dq hby d0_372) rfl ?_
                refine w_iconst X hx (dq hby d0_374) (z := 1) rfl ?_
                refine w_icmp_le X hx (dj hby d0_375) (fun hc375 => ?_) (fun hc375 => (?_ : False).elim)
                rotate_left
                · exact absurd hc375 (by decide)
                refine w_iload X hx (dq hby d0_391) rfl ?_
                refine w_iconst X hx (dq hby d0_393) (z := 2) rfl ?_
                refine w_icmp_le X hx (dj hby d0_394) (fun hc394 => ?_) (fun hc394 => (?_ : False).elim)
                rotate_left
                · exact absurd hc394 (by decide)
                refine w_iload X hx (dq hby d0_410) rfl ?_
                refine w_iconst X hx (dq hby d0_412) (z := 3) rfl ?_
                refine w_icmp_le X hx (dj hby d0_413) (fun hc413 => ?_) (fun hc413 => (?_ : False).elim)
                rotate_left
                · exact absurd hc413 (by decide)
                refine w_iconst X hx (dq hby d0_429) (z := 1) rfl ?_
                refine w_retN X hx hret (by simp) hlk (dq hby d0_430) (by decide) (by decide) ?_
                exact ⟨by simp [nar], N⟩
              refine w_iload X hx (dq hby d0_211) rfl ?_
              refine w_if_le X hx (dj hby d0_213) (fun hc213 => ?_) (fun hc213 => ?_)
              · refine w_iconst X hx (dq hby d0_220) (z := 0) rfl ?_
                exact J221 _ (ps_f hc213).symm
              · refine w_iconst X hx (dq hby d0_216) (z := 1) rfl ?_
                refine w_goto X hx (dj hby d0_217) ?_
                exact J221 _ (ps_t hc213).symm
            refine w_iload X hx (dq hby d0_199) rfl ?_
            refine w_if_le X hx (dj hby d0_201) (fun hc201 => ?_) (fun hc201 => ?_)
            · refine w_iconst X hx (dq hby d0_208) (z := 0) rfl ?_
              exact J209 _ (ps_f hc201).symm
            · refine w_iconst X hx (dq hby d0_204) (z := 1) rfl ?_
              refine w_goto X hx (dj hby d0_205) ?_
              exact J209 _ (ps_t hc201).symm
          refine w_iload X hx (dq hby d0_187) rfl ?_
          refine w_if_le X hx (dj hby d0_189) (fun hc189 => ?_) (fun hc189 => ?_)
          · refine w_iconst X hx (dq hby d0_196) (z := 0) rfl ?_
            exact J197 _ (ps_f hc189).symm
          · refine w_iconst X hx (dq hby d0_192) (z := 1) rfl ?_
            refine w_goto X hx (dj hby d0_193) ?_
            exact J197 _ (ps_t hc189).symm
        refine w_iload X hx (dq hby d0_175) rfl ?_
        refine w_if_le X hx (dj hby d0_177) (fun hc177 => ?_) (fun hc177 => ?_)
        · refine w_iconst X hx (dq hby d0_184) (z := 0) rfl ?_
          exact J185 _ (ps_f hc177).symm
        · refine w_iconst X hx (dq hby d0_180) (z := 1) rfl ?_
          refine w_goto X hx (dj hby d0_181) ?_
          exact J185 _ (ps_t hc177).symm
      refine w_iload X hx (dq hby d0_163) rfl ?_
      refine w_if_le X hx (dj hby d0_165) (fun hc165 => ?_) (fun hc165 => ?_)
      · refine w_iconst X hx (dq hby d0_172) (z := 0) rfl ?_
        exact J173 _ (ps_f hc165).symm
      · refine w_iconst X hx (dq hby d0_168) (z := 1) rfl ?_
        refine w_goto X hx (dj hby d0_169) ?_
        exact J173 _ (ps_t hc165).symm
    refine w_iload X hx (dq hby d0_151) rfl ?_
    refine w_if_le X hx (dj hby d0_153) (fun hc153 => ?_) (fun hc153 => ?_)
    · refine w_iconst X hx (dq hby d0_160) (z := 0) rfl ?_
      exact J161 _ (ps_f hc153).symm
    · refine w_iconst X hx (dq hby d0_156) (z := 1) rfl ?_
      refine w_goto X hx (dj hby d0_157) ?_
      exact J161 _ (ps_t hc153).symm
  · obtain rfl : v7_6 = 2 := hv7_6.trans hn
    refine w_iload X hx (dq hby d0_43) rfl ?_
    refine w_iload X hx (dq hby d0_45) rfl ?_
    refine w_iconst X hx (dq hby d0_47) (z := 1) rfl ?_
    refine w_isub X hx (dq hby d0_48) ?_
    refine w_eqI (z := (1 : Int32)) (by decide) ?_
    refine w_imul X hx (dq hby d0_49) ?_
    refine w_eqI (z := (2 : Int32)) (by decide) ?_
    refine w_iconst X hx (dq hby d0_50) (z := 2) rfl ?_
    refine w_idiv X hx (dq hby d0_51) (by decide) ?_
    refine w_eqI (z := (1 : Int32)) (by decide) ?_
    refine w_istore X hx (dq hby d0_52) (z := (1 : Int32)) rfl (Ls' := #[.val (.int i0), .val (.long i1), .second, .val (.long i2), .second, .val (.long i3), .second, .val (.int (2 : Int32)), .val (.int v8_10), .val (.int v9_17), .val (.int v10_21), .val (.int v11_28), .val (.int v12_33), .val (.int v13_41), .val (.int (1 : Int32)), .unset, .unset, .unset, .unset, .unset, .unset, .unset, .unset, .unset, .unset]) rfl ?_
    refine w_iload X hx (dq hby d0_54) rfl ?_
    refine w_newarr X hx hZ eT (aty := .int) (hw _ (List.mem_of_getElem? (i := 1) rfl)) (dq hby d0_56) (n := 1) (cap := 1) (rfl) ((by decide)) (by decide) (by decide) (by decide) fun T h11 b56 hb_b56 X eT EX A_b56 => ?_
    have g_b56 : n0 ≤ b56 := by omega
    replace Z0 := Nat.le_trans Z0 EX.1
    replace A_b56 : AV Z h11 b56 .int 1 (iF (fun _ => (0 : Int32))) := A_b56
    refine w_astore X hx (dq hby d0_58) rfl (Ls' := #[.val (.int i0), .val (.long i1), .second, .val (.long i2), .second, .val (.long i3), .second, .val (.int (2 : Int32)), .val (.int v8_10), .val (.int v9_17), .val (.int v10_21), .val (.int v11_28), .val (.int v12_33), .val (.int v13_41), .val (.int (1 : Int32)), .val (.ref b56), .unset, .unset, .unset, .unset, .unset, .unset, .unset, .unset, .unset]) rfl ?_
    refine w_iload X hx (dq hby d0_60) rfl ?_
    refine w_if_le X hx (dj hby d0_62) (fun hc62 => (?_ : False).elim) (fun hc62 => ?_)
    · exact absurd hc62 (by decide)
    refine w_aload X hx (dq hby d0_65) rfl rfl ?_
    refine w_iconst X hx (dq hby d0_67) (z := 0) rfl ?_
    refine w_iload X hx (dq hby d0_68) rfl ?_
    refine w_iastore X hx hZ eT A_b56 (i := 0) (rfl) (by decide) (dq hby d0_70) fun T h12 X eT W A' => ?_
    replace Z0 := Nat.le_trans Z0 (Nat.le_of_eq W.size.symm)
    replace N := Fr.snoc X N g_b56
    replace A_b56 := A'
    obtain ⟨g0_70, hg0_70⟩ : ∃ gg, gg = (upd (fun _ => (0 : Int32)) 0 (v8_10)) := ⟨_, rfl⟩
    rw [← hg0_70] at A_b56
    refine w_iload X hx (dq hby d0_71) rfl ?_
    refine w_iconst X hx (dq hby d0_73) (z := 1) rfl ?_
    refine w_icmp_le X hx (dj hby d0_74) (fun hc74 => ?_) (fun hc74 => (?_ : False).elim)
    rotate_left
    · exact absurd hc74 (by decide)
    refine w_iload X hx (dq hby d0_83) rfl ?_
    refine w_iconst X hx (dq hby d0_85) (z := 2) rfl ?_
    refine w_icmp_le X hx (dj hby d0_86) (fun hc86 => ?_) (fun hc86 => (?_ : False).elim)
    rotate_left
    · exact absurd hc86 (by decide)
    refine w_iload X hx (dq hby d0_95) rfl ?_
    refine w_iconst X hx (dq hby d0_97) (z := 3) rfl ?_
    refine w_icmp_le X hx (dj hby d0_98) (fun hc98 => ?_) (fun hc98 => (?_ : False).elim)
    rotate_left
    · exact absurd hc98 (by decide)
    refine w_iload X hx (dq hby d0_107) rfl ?_
    refine w_iconst X hx (dq hby d0_109) (z := 4) rfl ?_
    refine w_icmp_le X hx (dj hby d0_110) (fun hc110 => ?_) (fun hc110 => (?_ : False).elim)
    rotate_left
    · exact absurd hc110 (by decide)
    refine w_iload X hx (dq hby d0_119) rfl ?_
    refine w_iconst X hx (dq hby d0_121) (z := 5) rfl ?_
    refine w_icmp_le X hx (dj hby d0_122) (fun hc122 => ?_) (fun hc122 => (?_ : False).elim)
    rotate_left
    · exact absurd hc122 (by decide)
    refine w_new X hx hZ eT hown (hw _ (List.mem_of_getElem? (i := 2) rfl)) (hw _ (List.mem_of_getElem? (i := 3) rfl)) (hw _ (List.mem_of_getElem? (i := 4) rfl)) (dq hby d0_131) (by decide) (by decide) fun T h13 b131 hb_b131 X eT EX E_b131 D_b131 => ?_
    have ne_b56_b131 : b56 ≠ b131 := by rw [hb_b131]; exact Nat.ne_of_lt A_b56.lt
    have g_b131 : n0 ≤ b131 := by omega
    replace A_b56 := AV.ext A_b56 EX
    replace Z0 := Nat.le_trans Z0 EX.1
    have F_rowStart_b131 : Fld Z h13 b131 "com/example/topicweave/topicweave/core/NodePairs" "rowStart" "[I" .null := D_b131 (Or.inr (hw _ (List.mem_of_getElem? (i := 13) rfl))) (ty := (.array .int)) (by decide)
    refine w_dup X hx (dq hby d0_134) rfl ?_
    refine w_iload X hx (dq hby d0_135) rfl ?_
    refine w_callI X hx hZ eT hml (by rfl) hown rfl (hw _ (List.mem_of_getElem? (i := 5) rfl)) (hw _ (List.mem_of_getElem? (i := 6) rfl)) (hw _ (List.mem_of_getElem? (i := 4) rfl)) (hw _ (List.mem_of_getElem? (i := 7) rfl)) (by decide) (init2 l Z a0 hw b131 n0 h13 Z0 g_b131 E_b131 F_rowStart_b131) (b := b131) (dq hby d0_137) pd_0 (argsL := [(.int (2 : Int32))]) (rest := [(.ref b131)]) rfl rfl rfl (W := 1) rfl (by decide) (by decide) (by decide) (by decide) fun v T L X hQ => ?_
    generalize eT : T.heap = h14 at hQ
    obtain ⟨rfl, N', K', E_b131, ar, gr, g_ar, ge_ar, F_rowStart_b131, A_ar⟩ := hQ
    replace A_b56 := AV.keep A_b56 K' (ninS ne_b56_b131 nin0)
    replace Z0 := Nat.le_trans Z0 K'.1
    replace N := Fr.app N N'
    refine w_astore X hx (dq hby d0_140) rfl (Ls' := #[.val (.int i0), .val (.long i1), .second, .val (.long i2), .second, .val (.long i3), .second, .val (.int (2 : Int32)), .val (.int v8_10), .val (.int v9_17), .val (.int v10_21), .val (.int v11_28), .val (.int v12_33), .val (.int v13_41), .val (.int (1 : Int32)), .val (.ref b56), .val (.ref b131), .unset, .unset, .unset, .unset, .unset, .unset, .unset, .unset]) rfl ?_
    refine w_aload X hx (dq hby d0_142) rfl rfl ?_
    refine w_aload X hx (dq hby d0_144) rfl rfl ?_
    refine w_callV X hx hZ eT hml (by rfl) hown (hw _ (List.mem_of_getElem? (i := 14) rfl)) (hw _ (List.mem_of_getElem? (i := 15) rfl)) (hw _ (List.mem_of_getElem? (i := 17) rfl)) (hw _ (List.mem_of_getElem? (i := 16) rfl)) (hw _ (List.mem_of_getElem? (i := 4) rfl)) (hw _ (List.mem_of_getElem? (i := 18) rfl)) (by decide) (part2 l Z a0 hw b131 b56 n0 ar gr g0_70 h14 Z0 F_rowStart_b131 A_ar A_b56) E_b131 (dq hby d0_146) pd_1 (argsL := [(.ref b56)]) (rest := []) rfl rfl rfl (W := 0) rfl (by decide) (by decide) (by decide) (by decide) fun v T L X hQ => ?_
    generalize eT : T.heap = h15 at hQ
    obtain ⟨bg, fg, rfl, N', K', ge_bg, A_bg, fe0, fe1⟩ := hQ
    replace N := Fr.app N N'
    have g_bg : n0 ≤ bg := Nat.le_trans Z0 ge_bg
    replace Z0 := Nat.le_trans Z0 K'.1
    have pk0 : g0_70 0 = v8_10 := by simp [hg0_70, upd]
    rw [pk0] at fe0
    rw [pk0] at fe1
    refine w_astore X hx (dq hby d0_149) rfl (Ls' := #[.val (.int i0), .val (.long i1), .second, .val (.long i2), .second, .val (.long i3), .second, .val (.int (2 : Int32)), .val (.int v8_10), .val (.int v9_17), .val (.int v10_21), .val (.int v11_28), .val (.int v12_33), .val (.int v13_41), .val (.int (1 : Int32)), .val (.ref b56), .val (.ref b131), .val (.ref bg), .unset, .unset, .unset, .unset, .unset, .unset, .unset]) rfl ?_
    refine w_j1 (fun (z8 : Int32) => T.setTop (mkF m 161 #[.val (.int i0), .val (.long i1), .second, .val (.long i2), .second, .val (.long i3), .second, .val (.int (2 : Int32)), .val (.int v8_10), .val (.int v9_17), .val (.int v10_21), .val (.int v11_28), .val (.int v12_33), .val (.int v13_41), .val (.int (1 : Int32)), .val (.ref b56), .val (.ref b131), .val (.ref bg), .unset, .unset, .unset, .unset, .unset, .unset, .unset] [(.int z8)])) (fun z8 => z8 = ps v8_10) (fun z8 hq => ?_) (fun J161 => ?_)
    · try dsimp only at hq ⊢
      have hz8 := hq
      refine w_istore X hx (dq hby d0_161) (z := z8) rfl (Ls' := #[.val (.int i0), .val (.long i1), .second, .val (.long i2), .second, .val (.long i3), .second, .val (.int (2 : Int32)), .val (.int v8_10), .val (.int v9_17), .val (.int v10_21), .val (.int v11_28), .val (.int v12_33), .val (.int v13_41), .val (.int (1 : Int32)), .val (.ref b56), .val (.ref b131), .val (.ref bg), .val (.int z8), .unset, .unset, .unset, .unset, .unset, .unset]) rfl ?_
      refine w_j1 (fun (z9 : Int32) => T.setTop (mkF m 173 #[.val (.int i0), .val (.long i1), .second, .val (.long i2), .second, .val (.long i3), .second, .val (.int (2 : Int32)), .val (.int v8_10), .val (.int v9_17), .val (.int v10_21), .val (.int v11_28), .val (.int v12_33), .val (.int v13_41), .val (.int (1 : Int32)), .val (.ref b56), .val (.ref b131), .val (.ref bg), .val (.int z8), .unset, .unset, .unset, .unset, .unset, .unset] [(.int z9)])) (fun z9 => z9 = ps v9_17) (fun z9 hq => ?_) (fun J173 => ?_)
      · try dsimp only at hq ⊢
        have hz9 := hq
        refine w_istore X hx (dq hby d0_173) (z := z9) rfl (Ls' := #[.val (.int i0), .val (.long i1), .second, .val (.long i2), .second, .val (.long i3), .second, .val (.int (2 : Int32)), .val (.int v8_10), .val (.int v9_17), .val (.int v10_21), .val (.int v11_28), .val (.int v12_33), .val (.int v13_41), .val (.int (1 : Int32)), .val (.ref b56), .val (.ref b131), .val (.ref bg), .val (.int z8), .val (.int z9), .unset, .unset, .unset, .unset, .unset]) rfl ?_
        refine w_j1 (fun (z10 : Int32) => T.setTop (mkF m 185 #[.val (.int i0), .val (.long i1), .second, .val (.long i2), .second, .val (.long i3), .second, .val (.int (2 : Int32)), .val (.int v8_10), .val (.int v9_17), .val (.int v10_21), .val (.int v11_28), .val (.int v12_33), .val (.int v13_41), .val (.int (1 : Int32)), .val (.ref b56), .val (.ref b131), .val (.ref bg), .val (.int z8), .val (.int z9), .unset, .unset, .unset, .unset, .unset] [(.int z10)])) (fun z10 => z10 = ps v10_21) (fun z10 hq => ?_) (fun J185 => ?_)
        · try dsimp only at hq ⊢
          have hz10 := hq
          refine w_istore X hx (dq hby d0_185) (z := z10) rfl (Ls' := #[.val (.int i0), .val (.long i1), .second, .val (.long i2), .second, .val (.long i3), .second, .val (.int (2 : Int32)), .val (.int v8_10), .val (.int v9_17), .val (.int v10_21), .val (.int v11_28), .val (.int v12_33), .val (.int v13_41), .val (.int (1 : Int32)), .val (.ref b56), .val (.ref b131), .val (.ref bg), .val (.int z8), .val (.int z9), .val (.int z10), .unset, .unset, .unset, .unset]) rfl ?_
          refine w_j1 (fun (z11 : Int32) => T.setTop (mkF m 197 #[.val (.int i0), .val (.long i1), .second, .val (.long i2), .second, .val (.long i3), .second, .val (.int (2 : Int32)), .val (.int v8_10), .val (.int v9_17), .val (.int v10_21), .val (.int v11_28), .val (.int v12_33), .val (.int v13_41), .val (.int (1 : Int32)), .val (.ref b56), .val (.ref b131), .val (.ref bg), .val (.int z8), .val (.int z9), .val (.int z10), .unset, .unset, .unset, .unset] [(.int z11)])) (fun z11 => z11 = ps v11_28) (fun z11 hq => ?_) (fun J197 => ?_)
          · try dsimp only at hq ⊢
            have hz11 := hq
            refine w_istore X hx (dq hby d0_197) (z := z11) rfl (Ls' := #[.val (.int i0), .val (.long i1), .second, .val (.long i2), .second, .val (.long i3), .second, .val (.int (2 : Int32)), .val (.int v8_10), .val (.int v9_17), .val (.int v10_21), .val (.int v11_28), .val (.int v12_33), .val (.int v13_41), .val (.int (1 : Int32)), .val (.ref b56), .val (.ref b131), .val (.ref bg), .val (.int z8), .val (.int z9), .val (.int z10), .val (.int z11), .unset, .unset, .unset]) rfl ?_
            refine w_j1 (fun (z12 : Int32) => T.setTop (mkF m 209 #[.val (.int i0), .val (.long i1), .second, .val (.long i2), .second, .val (.long i3), .second, .val (.int (2 : Int32)), .val (.int v8_10), .val (.int v9_17), .val (.int v10_21), .val (.int v11_28), .val (.int v12_33), .val (.int v13_41), .val (.int (1 : Int32)), .val (.ref b56), .val (.ref b131), .val (.ref bg), .val (.int z8), .val (.int z9), .val (.int z10), .val (.int z11), .unset, .unset, .unset] [(.int z12)])) (fun z12 => z12 = ps v12_33) (fun z12 hq => ?_) (fun J209 => ?_)
            · try dsimp only at hq ⊢
              have hz12 := hq
              refine w_istore X hx (dq hby d0_209) (z := z12) rfl (Ls' := #[.val (.int i0), .val (.long i1), .second, .val (.long i2), .second, .val (.long i3), .second, .val (.int (2 : Int32)), .val (.int v8_10), .val (.int v9_17), .val (.int v10_21), .val (.int v11_28), .val (.int v12_33), .val (.int v13_41), .val (.int (1 : Int32)), .val (.ref b56), .val (.ref b131), .val (.ref bg), .val (.int z8), .val (.int z9), .val (.int z10), .val (.int z11), .val (.int z12), .unset, .unset]) rfl ?_
              refine w_j1 (fun (z13 : Int32) => T.setTop (mkF m 221 #[.val (.int i0), .val (.long i1), .second, .val (.long i2), .second, .val (.long i3), .second, .val (.int (2 : Int32)), .val (.int v8_10), .val (.int v9_17), .val (.int v10_21), .val (.int v11_28), .val (.int v12_33), .val (.int v13_41), .val (.int (1 : Int32)), .val (.ref b56), .val (.ref b131), .val (.ref bg), .val (.int z8), .val (.int z9), .val (.int z10), .val (.int z11), .val (.int z12), .unset, .unset] [(.int z13)])) (fun z13 => z13 = ps v13_41) (fun z13 hq => ?_) (fun J221 => ?_)
              · try dsimp only at hq ⊢
                have hz13 := hq
                refine w_istore X hx (dq hby d0_221) (z := z13) rfl (Ls' := #[.val (.int i0), .val (.long i1), .second, .val (.long i2), .second, .val (.long i3), .second, .val (.int (2 : Int32)), .val (.int v8_10), .val (.int v9_17), .val (.int v10_21), .val (.int v11_28), .val (.int v12_33), .val (.int v13_41), .val (.int (1 : Int32)), .val (.ref b56), .val (.ref b131), .val (.ref bg), .val (.int z8), .val (.int z9), .val (.int z10), .val (.int z11), .val (.int z12), .val (.int z13), .unset]) rfl ?_
                refine w_iconst X hx (dq hby d0_223) (z := 4) rfl ?_
                refine w_newarr X hx hZ eT (aty := .int) (hw _ (List.mem_of_getElem? (i := 1) rfl)) (dq hby d0_224) (n := 4) (cap := 4) (rfl) ((by decide)) (by decide) (by decide) (by decide) fun T h16 b224 hb_b224 X eT EX A_b224 => ?_
                have ne_bg_b224 : bg ≠ b224 := by rw [hb_b224]; exact Nat.ne_of_lt A_bg.lt
                have g_b224 : n0 ≤ b224 := by omega
                replace A_bg := AV.ext A_bg EX
                replace Z0 := Nat.le_trans Z0 EX.1
                replace A_b224 : AV Z h16 b224 .int 4 (iF (fun _ => (0 : Int32))) := A_b224
                refine w_astore X hx (dq hby d0_226) rfl (Ls' := #[.val (.int i0), .val (.long i1), .second, .val (.long i2), .second, .val (.long i3), .second, .val (.int (2 : Int32)), .val (.int v8_10), .val (.int v9_17), .val (.int v10_21), .val (.int v11_28), .val (.int v12_33), .val (.int v13_41), .val (.int (1 : Int32)), .val (.ref b56), .val (.ref b131), .val (.ref bg), .val (.int z8), .val (.int z9), .val (.int z10), .val (.int z11), .val (.int z12), .val (.int z13), .val (.ref b224)]) rfl ?_
                refine w_iload X hx (dq hby d0_228) rfl ?_
                refine w_iconst X hx (dq hby d0_230) (z := 2) rfl ?_
                refine w_icmp_ne X hx (dj hby d0_231) (fun hc231 => (?_ : False).elim) (fun hc231 => ?_)
                · exact absurd hc231 (by decide)
                refine w_aload X hx (dq hby d0_234) rfl rfl ?_
                refine w_iconst X hx (dq hby d0_236) (z := 0) rfl ?_
                refine w_iload X hx (dq hby d0_237) rfl ?_
                refine w_iastore X hx hZ eT A_b224 (i := 0) (rfl) (by decide) (dq hby d0_239) fun T h17 X eT W A' => ?_
                replace A_bg := AV.other A_bg W ne_bg_b224
                replace Z0 := Nat.le_trans Z0 (Nat.le_of_eq W.size.symm)
                replace N := Fr.snoc X N g_b224
                replace A_b224 := A'
                obtain ⟨g0_239, hg0_239⟩ : ∃ gg, gg = (upd (fun _ => (0 : Int32)) 0 (z8)) := ⟨_, rfl⟩
                rw [← hg0_239] at A_b224
                refine w_aload X hx (dq hby d0_240) rfl rfl ?_
                refine w_iconst X hx (dq hby d0_242) (z := 1) rfl ?_
                refine w_iload X hx (dq hby d0_243) rfl ?_
                refine w_iastore X hx hZ eT A_b224 (i := 1) (rfl) (by decide) (dq hby d0_245) fun T h18 X eT W A' => ?_
                replace A_bg := AV.other A_bg W ne_bg_b224
                replace Z0 := Nat.le_trans Z0 (Nat.le_of_eq W.size.symm)
                replace N := Fr.snoc X N g_b224
                replace A_b224 := A'
                obtain ⟨g0_245, hg0_245⟩ : ∃ gg, gg = (upd g0_239 1 (z8)) := ⟨_, rfl⟩
                rw [← hg0_245] at A_b224
                refine w_goto X hx (dj hby d0_246) ?_
                refine w_aload X hx (dq hby d0_339) rfl rfl ?_
                refine w_ifnullR X hx (dj hby d0_341) ?_
                refine w_aload X hx (dq hby d0_344) rfl rfl ?_
                refine w_arrlen X hx hZ eT A_bg (z := (2 : Int32)) (rfl) (dq hby d0_346) ?_
                refine w_iload X hx (dq hby d0_347) rfl ?_
                refine w_icmp_eq X hx (dj hby d0_349) (fun hc349 => ?_) (fun hc349 => (?_ : False).elim)
                rotate_left
                · exact hc349 rfl
                refine w_iload X hx (dq hby d0_354) rfl ?_
                refine w_if_le X hx (dj hby d0_356) (fun hc356 => (?_ : False).elim) (fun hc356 => ?_)
                · exact absurd hc356 (by decide)
                refine w_aload X hx (dq hby d0_359) rfl rfl ?_
                refine w_iconst X hx (dq hby d0_361) (z := 0) rfl ?_
                refine w_iaload X hx hZ eT A_bg (i := 0) (rfl) (by decide) (z := (fg 0)) (rfl) (dq hby d0_362) ?_
                refine w_aload X hx (dq hby d0_363) rfl rfl ?_
                refine w_iconst X hx (dq hby d0_365) (z := 0) rfl ?_
                refine w_iaload X hx hZ eT A_b224 (i := 0) (rfl) (by decide) (z := (g0_245 0)) (rfl) (dq hby d0_366) ?_
                refine w_icmp_eq X hx (dj hby d0_367) (fun hc367 => ?_) (fun hc367 => (?_ : False).elim)
                rotate_left
                · exact hc367 (fe0.trans (by simp [hg0_245, hg0_239, upd, Int32.zero_add, hz8, hz9, hz10, hz11, hz12, hz13]))
                refine w_iload X hx (dq hby d0_372) rfl ?_
                refine w_iconst X hx (dq hby d0_374) (z := 1) rfl ?_
                refine w_icmp_le X hx (dj hby d0_375) (fun hc375 => (?_ : False).elim) (fun hc375 => ?_)
                · exact absurd hc375 (by decide)
                refine w_aload X hx (dq hby d0_378) rfl rfl ?_
                refine w_iconst X hx (dq hby d0_380) (z := 1) rfl ?_
                refine w_iaload X hx hZ eT A_bg (i := 1) (rfl) (by decide) (z := (fg 1)) (rfl) (dq hby d0_381) ?_
                refine w_aload X hx (dq hby d0_382) rfl rfl ?_
                refine w_iconst X hx (dq hby d0_384) (z := 1) rfl ?_
                refine w_iaload X hx hZ eT A_b224 (i := 1) (rfl) (by decide) (z := (g0_245 1)) (rfl) (dq hby d0_385) ?_
                refine w_icmp_eq X hx (dj hby d0_386) (fun hc386 => ?_) (fun hc386 => (?_ : False).elim)
                rotate_left
                · exact hc386 (fe1.trans (by simp [hg0_245, hg0_239, upd, Int32.zero_add, hz8, hz9, hz10, hz11, hz12, hz13]))
                refine w_iload X hx (dq hby d0_391) rfl ?_
                refine w_iconst X hx (dq hby d0_393) (z := 2) rfl ?_
                refine w_icmp_le X hx (dj hby d0_394) (fun hc394 => ?_) (fun hc394 => (?_ : False).elim)
                rotate_left
                · exact absurd hc394 (by decide)
                refine w_iload X hx (dq hby d0_410) rfl ?_
                refine w_iconst X hx (dq hby d0_412) (z := 3) rfl ?_
                refine w_icmp_le X hx (dj hby d0_413) (fun hc413 => ?_) (fun hc413 => (?_ : False).elim)
                rotate_left
                · exact absurd hc413 (by decide)
                refine w_iconst X hx (dq hby d0_429) (z := 1) rfl ?_
                refine w_retN X hx hret (by simp) hlk (dq hby d0_430) (by decide) (by decide) ?_
                exact ⟨by simp [nar], N⟩
              refine w_iload X hx (dq hby d0_211) rfl ?_
              refine w_if_le X hx (dj hby d0_213) (fun hc213 => ?_) (fun hc213 => ?_)
              · refine w_iconst X hx (dq hby d0_220) (z := 0) rfl ?_
                exact J221 _ (ps_f hc213).symm
              · refine w_iconst X hx (dq hby d0_216) (z := 1) rfl ?_
                refine w_goto X hx (dj hby d0_217) ?_
                exact J221 _ (ps_t hc213).symm
            refine w_iload X hx (dq hby d0_199) rfl ?_
            refine w_if_le X hx (dj hby d0_201) (fun hc201 => ?_) (fun hc201 => ?_)
            · refine w_iconst X hx (dq hby d0_208) (z := 0) rfl ?_
              exact J209 _ (ps_f hc201).symm
            · refine w_iconst X hx (dq hby d0_204) (z := 1) rfl ?_
              refine w_goto X hx (dj hby d0_205) ?_
              exact J209 _ (ps_t hc201).symm
          refine w_iload X hx (dq hby d0_187) rfl ?_
          refine w_if_le X hx (dj hby d0_189) (fun hc189 => ?_) (fun hc189 => ?_)
          · refine w_iconst X hx (dq hby d0_196) (z := 0) rfl ?_
            exact J197 _ (ps_f hc189).symm
          · refine w_iconst X hx (dq hby d0_192) (z := 1) rfl ?_
            refine w_goto X hx (dj hby d0_193) ?_
            exact J197 _ (ps_t hc189).symm
        refine w_iload X hx (dq hby d0_175) rfl ?_
        refine w_if_le X hx (dj hby d0_177) (fun hc177 => ?_) (fun hc177 => ?_)
        · refine w_iconst X hx (dq hby d0_184) (z := 0) rfl ?_
          exact J185 _ (ps_f hc177).symm
        · refine w_iconst X hx (dq hby d0_180) (z := 1) rfl ?_
          refine w_goto X hx (dj hby d0_181) ?_
          exact J185 _ (ps_t hc177).symm
      refine w_iload X hx (dq hby d0_163) rfl ?_
      refine w_if_le X hx (dj hby d0_165) (fun hc165 => ?_) (fun hc165 => ?_)
      · refine w_iconst X hx (dq hby d0_172) (z := 0) rfl ?_
        exact J173 _ (ps_f hc165).symm
      · refine w_iconst X hx (dq hby d0_168) (z := 1) rfl ?_
        refine w_goto X hx (dj hby d0_169) ?_
        exact J173 _ (ps_t hc165).symm
    refine w_iload X hx (dq hby d0_151) rfl ?_
    refine w_if_le X hx (dj hby d0_153) (fun hc153 => ?_) (fun hc153 => ?_)
    · refine w_iconst X hx (dq hby d0_160) (z := 0) rfl ?_
      exact J161 _ (ps_f hc153).symm
    · refine w_iconst X hx (dq hby d0_156) (z := 1) rfl ?_
      refine w_goto X hx (dj hby d0_157) ?_
      exact J161 _ (ps_t hc153).symm
  · obtain rfl : v7_6 = 3 := hv7_6.trans hn
    refine w_iload X hx (dq hby d0_43) rfl ?_
    refine w_iload X hx (dq hby d0_45) rfl ?_
    refine w_iconst X hx (dq hby d0_47) (z := 1) rfl ?_
    refine w_isub X hx (dq hby d0_48) ?_
    refine w_eqI (z := (2 : Int32)) (by decide) ?_
    refine w_imul X hx (dq hby d0_49) ?_
    refine w_eqI (z := (6 : Int32)) (by decide) ?_
    refine w_iconst X hx (dq hby d0_50) (z := 2) rfl ?_
    refine w_idiv X hx (dq hby d0_51) (by decide) ?_
    refine w_eqI (z := (3 : Int32)) (by decide) ?_
    refine w_istore X hx (dq hby d0_52) (z := (3 : Int32)) rfl (Ls' := #[.val (.int i0), .val (.long i1), .second, .val (.long i2), .second, .val (.long i3), .second, .val (.int (3 : Int32)), .val (.int v8_10), .val (.int v9_17), .val (.int v10_21), .val (.int v11_28), .val (.int v12_33), .val (.int v13_41), .val (.int (3 : Int32)), .unset, .unset, .unset, .unset, .unset, .unset, .unset, .unset, .unset, .unset]) rfl ?_
    refine w_iload X hx (dq hby d0_54) rfl ?_
    refine w_newarr X hx hZ eT (aty := .int) (hw _ (List.mem_of_getElem? (i := 1) rfl)) (dq hby d0_56) (n := 3) (cap := 3) (rfl) ((by decide)) (by decide) (by decide) (by decide) fun T h19 b56 hb_b56 X eT EX A_b56 => ?_
    have g_b56 : n0 ≤ b56 := by omega
    replace Z0 := Nat.le_trans Z0 EX.1
    replace A_b56 : AV Z h19 b56 .int 3 (iF (fun _ => (0 : Int32))) := A_b56
    refine w_astore X hx (dq hby d0_58) rfl (Ls' := #[.val (.int i0), .val (.long i1), .second, .val (.long i2), .second, .val (.long i3), .second, .val (.int (3 : Int32)), .val (.int v8_10), .val (.int v9_17), .val (.int v10_21), .val (.int v11_28), .val (.int v12_33), .val (.int v13_41), .val (.int (3 : Int32)), .val (.ref b56), .unset, .unset, .unset, .unset, .unset, .unset, .unset, .unset, .unset]) rfl ?_
    refine w_iload X hx (dq hby d0_60) rfl ?_
    refine w_if_le X hx (dj hby d0_62) (fun hc62 => (?_ : False).elim) (fun hc62 => ?_)
    · exact absurd hc62 (by decide)
    refine w_aload X hx (dq hby d0_65) rfl rfl ?_
    refine w_iconst X hx (dq hby d0_67) (z := 0) rfl ?_
    refine w_iload X hx (dq hby d0_68) rfl ?_
    refine w_iastore X hx hZ eT A_b56 (i := 0) (rfl) (by decide) (dq hby d0_70) fun T h20 X eT W A' => ?_
    replace Z0 := Nat.le_trans Z0 (Nat.le_of_eq W.size.symm)
    replace N := Fr.snoc X N g_b56
    replace A_b56 := A'
    obtain ⟨g0_70, hg0_70⟩ : ∃ gg, gg = (upd (fun _ => (0 : Int32)) 0 (v8_10)) := ⟨_, rfl⟩
    rw [← hg0_70] at A_b56
    refine w_iload X hx (dq hby d0_71) rfl ?_
    refine w_iconst X hx (dq hby d0_73) (z := 1) rfl ?_
    refine w_icmp_le X hx (dj hby d0_74) (fun hc74 => (?_ : False).elim) (fun hc74 => ?_)
    · exact absurd hc74 (by decide)
    refine w_aload X hx (dq hby d0_77) rfl rfl ?_
    refine w_iconst X hx (dq hby d0_79) (z := 1) rfl ?_
    refine w_iload X hx (dq hby d0_80) rfl ?_
    refine w_iastore X hx hZ eT A_b56 (i := 1) (rfl) (by decide) (dq hby d0_82) fun T h21 X eT W A' => ?_
    replace Z0 := Nat.le_trans Z0 (Nat.le_of_eq W.size.symm)
    replace N := Fr.snoc X N g_b56
    replace A_b56 := A'
    obtain ⟨g0_82, hg0_82⟩ : ∃ gg, gg = (upd g0_70 1 (v9_17)) := ⟨_, rfl⟩
    rw [← hg0_82] at A_b56
    refine w_iload X hx (dq hby d0_83) rfl ?_
    refine w_iconst X hx (dq hby d0_85) (z := 2) rfl ?_
    refine w_icmp_le X hx (dj hby d0_86) (fun hc86 => (?_ : False).elim) (fun hc86 => ?_)
    · exact absurd hc86 (by decide)
    refine w_aload X hx (dq hby d0_89) rfl rfl ?_
    refine w_iconst X hx (dq hby d0_91) (z := 2) rfl ?_
    refine w_iload X hx (dq hby d0_92) rfl ?_
    refine w_iastore X hx hZ eT A_b56 (i := 2) (rfl) (by decide) (dq hby d0_94) fun T h22 X eT W A' => ?_
    replace Z0 := Nat.le_trans Z0 (Nat.le_of_eq W.size.symm)
    replace N := Fr.snoc X N g_b56
    replace A_b56 := A'
    obtain ⟨g0_94, hg0_94⟩ : ∃ gg, gg = (upd g0_82 2 (v10_21)) := ⟨_, rfl⟩
    rw [← hg0_94] at A_b56
    refine w_iload X hx (dq hby d0_95) rfl ?_
    refine w_iconst X hx (dq hby d0_97) (z := 3) rfl ?_
    refine w_icmp_le X hx (dj hby d0_98) (fun hc98 => ?_) (fun hc98 => (?_ : False).elim)
    rotate_left
    · exact absurd hc98 (by decide)
    refine w_iload X hx (dq hby d0_107) rfl ?_
    refine w_iconst X hx (dq hby d0_109) (z := 4) rfl ?_
    refine w_icmp_le X hx (dj hby d0_110) (fun hc110 => ?_) (fun hc110 => (?_ : False).elim)
    rotate_left
    · exact absurd hc110 (by decide)
    refine w_iload X hx (dq hby d0_119) rfl ?_
    refine w_iconst X hx (dq hby d0_121) (z := 5) rfl ?_
    refine w_icmp_le X hx (dj hby d0_122) (fun hc122 => ?_) (fun hc122 => (?_ : False).elim)
    rotate_left
    · exact absurd hc122 (by decide)
    refine w_new X hx hZ eT hown (hw _ (List.mem_of_getElem? (i := 2) rfl)) (hw _ (List.mem_of_getElem? (i := 3) rfl)) (hw _ (List.mem_of_getElem? (i := 4) rfl)) (dq hby d0_131) (by decide) (by decide) fun T h23 b131 hb_b131 X eT EX E_b131 D_b131 => ?_
    have ne_b56_b131 : b56 ≠ b131 := by rw [hb_b131]; exact Nat.ne_of_lt A_b56.lt
    have g_b131 : n0 ≤ b131 := by omega
    replace A_b56 := AV.ext A_b56 EX
    replace Z0 := Nat.le_trans Z0 EX.1
    have F_rowStart_b131 : Fld Z h23 b131 "com/example/topicweave/topicweave/core/NodePairs" "rowStart" "[I" .null := D_b131 (Or.inr (hw _ (List.mem_of_getElem? (i := 13) rfl))) (ty := (.array .int)) (by decide)
    refine w_dup X hx (dq hby d0_134) rfl ?_
    refine w_iload X hx (dq hby d0_135) rfl ?_
    refine w_callI X hx hZ eT hml (by rfl) hown rfl (hw _ (List.mem_of_getElem? (i := 5) rfl)) (hw _ (List.mem_of_getElem? (i := 6) rfl)) (hw _ (List.mem_of_getElem? (i := 4) rfl)) (hw _ (List.mem_of_getElem? (i := 7) rfl)) (by decide) (init3 l Z a0 hw b131 n0 h23 Z0 g_b131 E_b131 F_rowStart_b131) (b := b131) (dq hby d0_137) pd_0 (argsL := [(.int (3 : Int32))]) (rest := [(.ref b131)]) rfl rfl rfl (W := 1) rfl (by decide) (by decide) (by decide) (by decide) fun v T L X hQ => ?_
    generalize eT : T.heap = h24 at hQ
    obtain ⟨rfl, N', K', E_b131, ar, gr, g_ar, ge_ar, F_rowStart_b131, A_ar⟩ := hQ
    replace A_b56 := AV.keep A_b56 K' (ninS ne_b56_b131 nin0)
    replace Z0 := Nat.le_trans Z0 K'.1
    replace N := Fr.app N N'
    refine w_astore X hx (dq hby d0_140) rfl (Ls' := #[.val (.int i0), .val (.long i1), .second, .val (.long i2), .second, .val (.long i3), .second, .val (.int (3 : Int32)), .val (.int v8_10), .val (.int v9_17), .val (.int v10_21), .val (.int v11_28), .val (.int v12_33), .val (.int v13_41), .val (.int (3 : Int32)), .val (.ref b56), .val (.ref b131), .unset, .unset, .unset, .unset, .unset, .unset, .unset, .unset]) rfl ?_
    refine w_aload X hx (dq hby d0_142) rfl rfl ?_
    refine w_aload X hx (dq hby d0_144) rfl rfl ?_
    refine w_callV X hx hZ eT hml (by rfl) hown (hw _ (List.mem_of_getElem? (i := 14) rfl)) (hw _ (List.mem_of_getElem? (i := 15) rfl)) (hw _ (List.mem_of_getElem? (i := 17) rfl)) (hw _ (List.mem_of_getElem? (i := 16) rfl)) (hw _ (List.mem_of_getElem? (i := 4) rfl)) (hw _ (List.mem_of_getElem? (i := 18) rfl)) (by decide) (part3 l Z a0 hw b131 b56 n0 ar gr g0_94 h24 Z0 F_rowStart_b131 A_ar A_b56) E_b131 (dq hby d0_146) pd_1 (argsL := [(.ref b56)]) (rest := []) rfl rfl rfl (W := 0) rfl (by decide) (by decide) (by decide) (by decide) fun v T L X hQ => ?_
    generalize eT : T.heap = h25 at hQ
    obtain ⟨bg, fg, rfl, N', K', ge_bg, A_bg, fe0, fe1, fe2⟩ := hQ
    replace N := Fr.app N N'
    have g_bg : n0 ≤ bg := Nat.le_trans Z0 ge_bg
    replace Z0 := Nat.le_trans Z0 K'.1
    have pk0 : g0_94 0 = v8_10 := by simp [hg0_70, hg0_82, hg0_94, upd]
    have pk1 : g0_94 1 = v9_17 := by simp [hg0_70, hg0_82, hg0_94, upd]
    have pk2 : g0_94 2 = v10_21 := by simp [hg0_70, hg0_82, hg0_94, upd]
    rw [pk0, pk1] at fe0
    rw [pk0, pk2] at fe1
    rw [pk1, pk2] at fe2
    refine w_astore X hx (dq hby d0_149) rfl (Ls' := #[.val (.int i0), .val (.long i1), .second, .val (.long i2), .second, .val (.long i3), .second, .val (.int (3 : Int32)), .val (.int v8_10), .val (.int v9_17), .val (.int v10_21), .val (.int v11_28), .val (.int v12_33), .val (.int v13_41), .val (.int (3 : Int32)), .val (.ref b56), .val (.ref b131), .val (.ref bg), .unset, .unset, .unset, .unset, .unset, .unset, .unset]) rfl ?_
    refine w_j1 (fun (z8 : Int32) => T.setTop (mkF m 161 #[.val (.int i0), .val (.long i1), .second, .val (.long i2), .second, .val (.long i3), .second, .val (.int (3 : Int32)), .val (.int v8_10), .val (.int v9_17), .val (.int v10_21), .val (.int v11_28), .val (.int v12_33), .val (.int v13_41), .val (.int (3 : Int32)), .val (.ref b56), .val (.ref b131), .val (.ref bg), .unset, .unset, .unset, .unset, .unset, .unset, .unset] [(.int z8)])) (fun z8 => z8 = ps v8_10) (fun z8 hq => ?_) (fun J161 => ?_)
    · try dsimp only at hq ⊢
      have hz8 := hq
      refine w_istore X hx (dq hby d0_161) (z := z8) rfl (Ls' := #[.val (.int i0), .val (.long i1), .second, .val (.long i2), .second, .val (.long i3), .second, .val (.int (3 : Int32)), .val (.int v8_10), .val (.int v9_17), .val (.int v10_21), .val (.int v11_28), .val (.int v12_33), .val (.int v13_41), .val (.int (3 : Int32)), .val (.ref b56), .val (.ref b131), .val (.ref bg), .val (.int z8), .unset, .unset, .unset, .unset, .unset, .unset]) rfl ?_
      refine w_j1 (fun (z9 : Int32) => T.setTop (mkF m 173 #[.val (.int i0), .val (.long i1), .second, .val (.long i2), .second, .val (.long i3), .second, .val (.int (3 : Int32)), .val (.int v8_10), .val (.int v9_17), .val (.int v10_21), .val (.int v11_28), .val (.int v12_33), .val (.int v13_41), .val (.int (3 : Int32)), .val (.ref b56), .val (.ref b131), .val (.ref bg), .val (.int z8), .unset, .unset, .unset, .unset, .unset, .unset] [(.int z9)])) (fun z9 => z9 = ps v9_17) (fun z9 hq => ?_) (fun J173 => ?_)
      · try dsimp only at hq ⊢
        have hz9 := hq
        refine w_istore X hx (dq hby d0_173) (z := z9) rfl (Ls' := #[.val (.int i0), .val (.long i1), .second, .val (.long i2), .second, .val (.long i3), .second, .val (.int (3 : Int32)), .val (.int v8_10), .val (.int v9_17), .val (.int v10_21), .val (.int v11_28), .val (.int v12_33), .val (.int v13_41), .val (.int (3 : Int32)), .val (.ref b56), .val (.ref b131), .val (.ref bg), .val (.int z8), .val (.int z9), .unset, .unset, .unset, .unset, .unset]) rfl ?_
        refine w_j1 (fun (z10 : Int32) => T.setTop (mkF m 185 #[.val (.int i0), .val (.long i1), .second, .val (.long i2), .second, .val (.long i3), .second, .val (.int (3 : Int32)), .val (.int v8_10), .val (.int v9_17), .val (.int v10_21), .val (.int v11_28), .val (.int v12_33), .val (.int v13_41), .val (.int (3 : Int32)), .val (.ref b56), .val (.ref b131), .val (.ref bg), .val (.int z8), .val (.int z9), .unset, .unset, .unset, .unset, .unset] [(.int z10)])) (fun z10 => z10 = ps v10_21) (fun z10 hq => ?_) (fun J185 => ?_)
        · try dsimp only at hq ⊢
          have hz10 := hq
          refine w_istore X hx (dq hby d0_185) (z := z10) rfl (Ls' := #[.val (.int i0), .val (.long i1), .second, .val (.long i2), .second, .val (.long i3), .second, .val (.int (3 : Int32)), .val (.int v8_10), .val (.int v9_17), .val (.int v10_21), .val (.int v11_28), .val (.int v12_33), .val (.int v13_41), .val (.int (3 : Int32)), .val (.ref b56), .val (.ref b131), .val (.ref bg), .val (.int z8), .val (.int z9), .val (.int z10), .unset, .unset, .unset, .unset]) rfl ?_
          refine w_j1 (fun (z11 : Int32) => T.setTop (mkF m 197 #[.val (.int i0), .val (.long i1), .second, .val (.long i2), .second, .val (.long i3), .second, .val (.int (3 : Int32)), .val (.int v8_10), .val (.int v9_17), .val (.int v10_21), .val (.int v11_28), .val (.int v12_33), .val (.int v13_41), .val (.int (3 : Int32)), .val (.ref b56), .val (.ref b131), .val (.ref bg), .val (.int z8), .val (.int z9), .val (.int z10), .unset, .unset, .unset, .unset] [(.int z11)])) (fun z11 => z11 = ps v11_28) (fun z11 hq => ?_) (fun J197 => ?_)
          · try dsimp only at hq ⊢
            have hz11 := hq
            refine w_istore X hx (dq hby d0_197) (z := z11) rfl (Ls' := #[.val (.int i0), .val (.long i1), .second, .val (.long i2), .second, .val (.long i3), .second, .val (.int (3 : Int32)), .val (.int v8_10), .val (.int v9_17), .val (.int v10_21), .val (.int v11_28), .val (.int v12_33), .val (.int v13_41), .val (.int (3 : Int32)), .val (.ref b56), .val (.ref b131), .val (.ref bg), .val (.int z8), .val (.int z9), .val (.int z10), .val (.int z11), .unset, .unset, .unset]) rfl ?_
            refine w_j1 (fun (z12 : Int32) => T.setTop (mkF m 209 #[.val (.int i0), .val (.long i1), .second, .val (.long i2), .second, .val (.long i3), .second, .val (.int (3 : Int32)), .val (.int v8_10), .val (.int v9_17), .val (.int v10_21), .val (.int v11_28), .val (.int v12_33), .val (.int v13_41), .val (.int (3 : Int32)), .val (.ref b56), .val (.ref b131), .val (.ref bg), .val (.int z8), .val (.int z9), .val (.int z10), .val (.int z11), .unset, .unset, .unset] [(.int z12)])) (fun z12 => z12 = ps v12_33) (fun z12 hq => ?_) (fun J209 => ?_)
            · try dsimp only at hq ⊢
              have hz12 := hq
              refine w_istore X hx (dq hby d0_209) (z := z12) rfl (Ls' := #[.val (.int i0), .val (.long i1), .second, .val (.long i2), .second, .val (.long i3), .second, .val (.int (3 : Int32)), .val (.int v8_10), .val (.int v9_17), .val (.int v10_21), .val (.int v11_28), .val (.int v12_33), .val (.int v13_41), .val (.int (3 : Int32)), .val (.ref b56), .val (.ref b131), .val (.ref bg), .val (.int z8), .val (.int z9), .val (.int z10), .val (.int z11), .val (.int z12), .unset, .unset]) rfl ?_
              refine w_j1 (fun (z13 : Int32) => T.setTop (mkF m 221 #[.val (.int i0), .val (.long i1), .second, .val (.long i2), .second, .val (.long i3), .second, .val (.int (3 : Int32)), .val (.int v8_10), .val (.int v9_17), .val (.int v10_21), .val (.int v11_28), .val (.int v12_33), .val (.int v13_41), .val (.int (3 : Int32)), .val (.ref b56), .val (.ref b131), .val (.ref bg), .val (.int z8), .val (.int z9), .val (.int z10), .val (.int z11), .val (.int z12), .unset, .unset] [(.int z13)])) (fun z13 => z13 = ps v13_41) (fun z13 hq => ?_) (fun J221 => ?_)
              · try dsimp only at hq ⊢
                have hz13 := hq
                refine w_istore X hx (dq hby d0_221) (z := z13) rfl (Ls' := #[.val (.int i0), .val (.long i1), .second, .val (.long i2), .second, .val (.long i3), .second, .val (.int (3 : Int32)), .val (.int v8_10), .val (.int v9_17), .val (.int v10_21), .val (.int v11_28), .val (.int v12_33), .val (.int v13_41), .val (.int (3 : Int32)), .val (.ref b56), .val (.ref b131), .val (.ref bg), .val (.int z8), .val (.int z9), .val (.int z10), .val (.int z11), .val (.int z12), .val (.int z13), .unset]) rfl ?_
                refine w_iconst X hx (dq hby d0_223) (z := 4) rfl ?_
                refine w_newarr X hx hZ eT (aty := .int) (hw _ (List.mem_of_getElem? (i := 1) rfl)) (dq hby d0_224) (n := 4) (cap := 4) (rfl) ((by decide)) (by decide) (by decide) (by decide) fun T h26 b224 hb_b224 X eT EX A_b224 => ?_
                have ne_bg_b224 : bg ≠ b224 := by rw [hb_b224]; exact Nat.ne_of_lt A_bg.lt
                have g_b224 : n0 ≤ b224 := by omega
                replace A_bg := AV.ext A_bg EX
                replace Z0 := Nat.le_trans Z0 EX.1
                replace A_b224 : AV Z h26 b224 .int 4 (iF (fun _ => (0 : Int32))) := A_b224
                refine w_astore X hx (dq hby d0_226) rfl (Ls' := #[.val (.int i0), .val (.long i1), .second, .val (.long i2), .second, .val (.long i3), .second, .val (.int (3 : Int32)), .val (.int v8_10), .val (.int v9_17), .val (.int v10_21), .val (.int v11_28), .val (.int v12_33), .val (.int v13_41), .val (.int (3 : Int32)), .val (.ref b56), .val (.ref b131), .val (.ref bg), .val (.int z8), .val (.int z9), .val (.int z10), .val (.int z11), .val (.int z12), .val (.int z13), .val (.ref b224)]) rfl ?_
                refine w_iload X hx (dq hby d0_228) rfl ?_
                refine w_iconst X hx (dq hby d0_230) (z := 2) rfl ?_
                refine w_icmp_ne X hx (dj hby d0_231) (fun hc231 => ?_) (fun hc231 => (?_ : False).elim)
                rotate_left
                · exact absurd hc231 (by decide)
                refine w_iload X hx (dq hby d0_249) rfl ?_
                refine w_iconst X hx (dq hby d0_251) (z := 3) rfl ?_
                refine w_icmp_ne X hx (dj hby d0_252) (fun hc252 => (?_ : False).elim) (fun hc252 => ?_)
                · exact absurd hc252 (by decide)
                refine w_aload X hx (dq hby d0_255) rfl rfl ?_
                refine w_iconst X hx (dq hby d0_257) (z := 0) rfl ?_
                refine w_iload X hx (dq hby d0_258) rfl ?_
                refine w_iload X hx (dq hby d0_260) rfl ?_
                refine w_iadd X hx (dq hby d0_262) ?_
                refine w_iastore X hx hZ eT A_b224 (i := 0) (rfl) (by decide) (dq hby d0_263) fun T h27 X eT W A' => ?_
                replace A_bg := AV.other A_bg W ne_bg_b224
                replace Z0 := Nat.le_trans Z0 (Nat.le_of_eq W.size.symm)
                replace N := Fr.snoc X N g_b224
                replace A_b224 := A'
                obtain ⟨g0_263, hg0_263⟩ : ∃ gg, gg = (upd (fun _ => (0 : Int32)) 0 ((z8 + z9))) := ⟨_, rfl⟩
                rw [← hg0_263] at A_b224
                refine w_aload X hx (dq hby d0_264) rfl rfl ?_
                refine w_iconst X hx (dq hby d0_266) (z := 1) rfl ?_
                refine w_iload X hx (dq hby d0_267) rfl ?_
                refine w_iload X hx (dq hby d0_269) rfl ?_
                refine w_iadd X hx (dq hby d0_271) ?_
                refine w_iastore X hx hZ eT A_b224 (i := 1) (rfl) (by decide) (dq hby d0_272) fun T h28 X eT W A' => ?_
                replace A_bg := AV.other A_bg W ne_bg_b224
                replace Z0 := Nat.le_trans Z0 (Nat.le_of_eq W.size.symm)
                replace N := Fr.snoc X N g_b224
                replace A_b224 := A'
                obtain ⟨g0_272, hg0_272⟩ : ∃ gg, gg = (upd g0_263 1 ((z8 + z10))) := ⟨_, rfl⟩
                rw [← hg0_272] at A_b224
                refine w_aload X hx (dq hby d0_273) rfl rfl ?_
                refine w_iconst X hx (dq hby d0_275) (z := 2) rfl ?_
                refine w_iload X hx (dq hby d0_276) rfl ?_
                refine w_iload X hx (dq hby d0_278) rfl ?_
                refine w_iadd X hx (dq hby d0_280) ?_
                refine w_iastore X hx hZ eT A_b224 (i := 2) (rfl) (by decide) (dq hby d0_281) fun T h29 X eT W A' => ?_
                replace A_bg := AV.other A_bg W ne_bg_b224
                replace Z0 := Nat.le_trans Z0 (Nat.le_of_eq W.size.symm)
                replace N := Fr.snoc X N g_b224
                replace A_b224 := A'
                obtain ⟨g0_281, hg0_281⟩ : ∃ gg, gg = (upd g0_272 2 ((z9 + z10))) := ⟨_, rfl⟩
                rw [← hg0_281] at A_b224
                refine w_goto X hx (dj hby d0_282) ?_
                refine w_aload X hx (dq hby d0_339) rfl rfl ?_
                refine w_ifnullR X hx (dj hby d0_341) ?_
                refine w_aload X hx (dq hby d0_344) rfl rfl ?_
                refine w_arrlen X hx hZ eT A_bg (z := (3 : Int32)) (rfl) (dq hby d0_346) ?_
                refine w_iload X hx (dq hby d0_347) rfl ?_
                refine w_icmp_eq X hx (dj hby d0_349) (fun hc349 => ?_) (fun hc349 => (?_ : False).elim)
                rotate_left
                · exact hc349 rfl
                refine w_iload X hx (dq hby d0_354) rfl ?_
                refine w_if_le X hx (dj hby d0_356) (fun hc356 => (?_ : False).elim) (fun hc356 => ?_)
                · exact absurd hc356 (by decide)
                refine w_aload X hx (dq hby d0_359) rfl rfl ?_
                refine w_iconst X hx (dq hby d0_361) (z := 0) rfl ?_
                refine w_iaload X hx hZ eT A_bg (i := 0) (rfl) (by decide) (z := (fg 0)) (rfl) (dq hby d0_362) ?_
                refine w_aload X hx (dq hby d0_363) rfl rfl ?_
                refine w_iconst X hx (dq hby d0_365) (z := 0) rfl ?_
                refine w_iaload X hx hZ eT A_b224 (i := 0) (rfl) (by decide) (z := (g0_281 0)) (rfl) (dq hby d0_366) ?_
                refine w_icmp_eq X hx (dj hby d0_367) (fun hc367 => ?_) (fun hc367 => (?_ : False).elim)
                rotate_left
                · exact hc367 (fe0.trans (by simp [hg0_281, hg0_272, hg0_263, upd, Int32.zero_add, hz8, hz9, hz10, hz11, hz12, hz13]))
                refine w_iload X hx (dq hby d0_372) rfl ?_
                refine w_iconst X hx (dq hby d0_374) (z := 1) rfl ?_
                refine w_icmp_le X hx (dj hby d0_375) (fun hc375 => (?_ : False).elim) (fun hc375 => ?_)
                · exact absurd hc375 (by decide)
                refine w_aload X hx (dq hby d0_378) rfl rfl ?_
                refine w_iconst X hx (dq hby d0_380) (z := 1) rfl ?_
                refine w_iaload X hx hZ eT A_bg (i := 1) (rfl) (by decide) (z := (fg 1)) (rfl) (dq hby d0_381) ?_
                refine w_aload X hx (dq hby d0_382) rfl rfl ?_
                refine w_iconst X hx (dq hby d0_384) (z := 1) rfl ?_
                refine w_iaload X hx hZ eT A_b224 (i := 1) (rfl) (by decide) (z := (g0_281 1)) (rfl) (dq hby d0_385) ?_
                refine w_icmp_eq X hx (dj hby d0_386) (fun hc386 => ?_) (fun hc386 => (?_ : False).elim)
                rotate_left
                · exact hc386 (fe1.trans (by simp [hg0_281, hg0_272, hg0_263, upd, Int32.zero_add, hz8, hz9, hz10, hz11, hz12, hz13]))
                refine w_iload X hx (dq hby d0_391) rfl ?_
                refine w_iconst X hx (dq hby d0_393) (z := 2) rfl ?_
                refine w_icmp_le X hx (dj hby d0_394) (fun hc394 => (?_ : False).elim) (fun hc394 => ?_)
                · exact absurd hc394 (by decide)
                refine w_aload X hx (dq hby d0_397) rfl rfl ?_
                refine w_iconst X hx (dq hby d0_399) (z := 2) rfl ?_
                refine w_iaload X hx hZ eT A_bg (i := 2) (rfl) (by decide) (z := (fg 2)) (rfl) (dq hby d0_400) ?_
                refine w_aload X hx (dq hby d0_401) rfl rfl ?_
                refine w_iconst X hx (dq hby d0_403) (z := 2) rfl ?_
                refine w_iaload X hx hZ eT A_b224 (i := 2) (rfl) (by decide) (z := (g0_281 2)) (rfl) (dq hby d0_404) ?_
                refine w_icmp_eq X hx (dj hby d0_405) (fun hc405 => ?_) (fun hc405 => (?_ : False).elim)
                rotate_left
                · exact hc405 (fe2.trans (by simp [hg0_281, hg0_272, hg0_263, upd, Int32.zero_add, hz8, hz9, hz10, hz11, hz12, hz13]))
                refine w_iload X hx (dq hby d0_410) rfl ?_
                refine w_iconst X hx (dq hby d0_412) (z := 3) rfl ?_
                refine w_icmp_le X hx (dj hby d0_413) (fun hc413 => ?_) (fun hc413 => (?_ : False).elim)
                rotate_left
                · exact absurd hc413 (by decide)
                refine w_iconst X hx (dq hby d0_429) (z := 1) rfl ?_
                refine w_retN X hx hret (by simp) hlk (dq hby d0_430) (by decide) (by decide) ?_
                exact ⟨by simp [nar], N⟩
              refine w_iload X hx (dq hby d0_211) rfl ?_
              refine w_if_le X hx (dj hby d0_213) (fun hc213 => ?_) (fun hc213 => ?_)
              · refine w_iconst X hx (dq hby d0_220) (z := 0) rfl ?_
                exact J221 _ (ps_f hc213).symm
              · refine w_iconst X hx (dq hby d0_216) (z := 1) rfl ?_
                refine w_goto X hx (dj hby d0_217) ?_
                exact J221 _ (ps_t hc213).symm
            refine w_iload X hx (dq hby d0_199) rfl ?_
            refine w_if_le X hx (dj hby d0_201) (fun hc201 => ?_) (fun hc201 => ?_)
            · refine w_iconst X hx (dq hby d0_208) (z := 0) rfl ?_
              exact J209 _ (ps_f hc201).symm
            · refine w_iconst X hx (dq hby d0_204) (z := 1) rfl ?_
              refine w_goto X hx (dj hby d0_205) ?_
              exact J209 _ (ps_t hc201).symm
          refine w_iload X hx (dq hby d0_187) rfl ?_
          refine w_if_le X hx (dj hby d0_189) (fun hc189 => ?_) (fun hc189 => ?_)
          · refine w_iconst X hx (dq hby d0_196) (z := 0) rfl ?_
            exact J197 _ (ps_f hc189).symm
          · refine w_iconst X hx (dq hby d0_192) (z := 1) rfl ?_
            refine w_goto X hx (dj hby d0_193) ?_
            exact J197 _ (ps_t hc189).symm
        refine w_iload X hx (dq hby d0_175) rfl ?_
        refine w_if_le X hx (dj hby d0_177) (fun hc177 => ?_) (fun hc177 => ?_)
        · refine w_iconst X hx (dq hby d0_184) (z := 0) rfl ?_
          exact J185 _ (ps_f hc177).symm
        · refine w_iconst X hx (dq hby d0_180) (z := 1) rfl ?_
          refine w_goto X hx (dj hby d0_181) ?_
          exact J185 _ (ps_t hc177).symm
      refine w_iload X hx (dq hby d0_163) rfl ?_
      refine w_if_le X hx (dj hby d0_165) (fun hc165 => ?_) (fun hc165 => ?_)
      · refine w_iconst X hx (dq hby d0_172) (z := 0) rfl ?_
        exact J173 _ (ps_f hc165).symm
      · refine w_iconst X hx (dq hby d0_168) (z := 1) rfl ?_
        refine w_goto X hx (dj hby d0_169) ?_
        exact J173 _ (ps_t hc165).symm
    refine w_iload X hx (dq hby d0_151) rfl ?_
    refine w_if_le X hx (dj hby d0_153) (fun hc153 => ?_) (fun hc153 => ?_)
    · refine w_iconst X hx (dq hby d0_160) (z := 0) rfl ?_
      exact J161 _ (ps_f hc153).symm
    · refine w_iconst X hx (dq hby d0_156) (z := 1) rfl ?_
      refine w_goto X hx (dj hby d0_157) ?_
      exact J161 _ (ps_t hc153).symm
  · obtain rfl : v7_6 = 4 := hv7_6.trans hn
    refine w_iload X hx (dq hby d0_43) rfl ?_
    refine w_iload X hx (dq hby d0_45) rfl ?_
    refine w_iconst X hx (dq hby d0_47) (z := 1) rfl ?_
    refine w_isub X hx (dq hby d0_48) ?_
    refine w_eqI (z := (3 : Int32)) (by decide) ?_
    refine w_imul X hx (dq hby d0_49) ?_
    refine w_eqI (z := (12 : Int32)) (by decide) ?_
    refine w_iconst X hx (dq hby d0_50) (z := 2) rfl ?_
    refine w_idiv X hx (dq hby d0_51) (by decide) ?_
    refine w_eqI (z := (6 : Int32)) (by decide) ?_
    refine w_istore X hx (dq hby d0_52) (z := (6 : Int32)) rfl (Ls' := #[.val (.int i0), .val (.long i1), .second, .val (.long i2), .second, .val (.long i3), .second, .val (.int (4 : Int32)), .val (.int v8_10), .val (.int v9_17), .val (.int v10_21), .val (.int v11_28), .val (.int v12_33), .val (.int v13_41), .val (.int (6 : Int32)), .unset, .unset, .unset, .unset, .unset, .unset, .unset, .unset, .unset, .unset]) rfl ?_
    refine w_iload X hx (dq hby d0_54) rfl ?_
    refine w_newarr X hx hZ eT (aty := .int) (hw _ (List.mem_of_getElem? (i := 1) rfl)) (dq hby d0_56) (n := 6) (cap := 6) (rfl) ((by decide)) (by decide) (by decide) (by decide) fun T h30 b56 hb_b56 X eT EX A_b56 => ?_
    have g_b56 : n0 ≤ b56 := by omega
    replace Z0 := Nat.le_trans Z0 EX.1
    replace A_b56 : AV Z h30 b56 .int 6 (iF (fun _ => (0 : Int32))) := A_b56
    refine w_astore X hx (dq hby d0_58) rfl (Ls' := #[.val (.int i0), .val (.long i1), .second, .val (.long i2), .second, .val (.long i3), .second, .val (.int (4 : Int32)), .val (.int v8_10), .val (.int v9_17), .val (.int v10_21), .val (.int v11_28), .val (.int v12_33), .val (.int v13_41), .val (.int (6 : Int32)), .val (.ref b56), .unset, .unset, .unset, .unset, .unset, .unset, .unset, .unset, .unset]) rfl ?_
    refine w_iload X hx (dq hby d0_60) rfl ?_
    refine w_if_le X hx (dj hby d0_62) (fun hc62 => (?_ : False).elim) (fun hc62 => ?_)
    · exact absurd hc62 (by decide)
    refine w_aload X hx (dq hby d0_65) rfl rfl ?_
    refine w_iconst X hx (dq hby d0_67) (z := 0) rfl ?_
    refine w_iload X hx (dq hby d0_68) rfl ?_
    refine w_iastore X hx hZ eT A_b56 (i := 0) (rfl) (by decide) (dq hby d0_70) fun T h31 X eT W A' => ?_
    replace Z0 := Nat.le_trans Z0 (Nat.le_of_eq W.size.symm)
    replace N := Fr.snoc X N g_b56
    replace A_b56 := A'
    obtain ⟨g0_70, hg0_70⟩ : ∃ gg, gg = (upd (fun _ => (0 : Int32)) 0 (v8_10)) := ⟨_, rfl⟩
    rw [← hg0_70] at A_b56
    refine w_iload X hx (dq hby d0_71) rfl ?_
    refine w_iconst X hx (dq hby d0_73) (z := 1) rfl ?_
    refine w_icmp_le X hx (dj hby d0_74) (fun hc74 => (?_ : False).elim) (fun hc74 => ?_)
    · exact absurd hc74 (by decide)
    refine w_aload X hx (dq hby d0_77) rfl rfl ?_
    refine w_iconst X hx (dq hby d0_79) (z := 1) rfl ?_
    refine w_iload X hx (dq hby d0_80) rfl ?_
    refine w_iastore X hx hZ eT A_b56 (i := 1) (rfl) (by decide) (dq hby d0_82) fun T h32 X eT W A' => ?_
    replace Z0 := Nat.le_trans Z0 (Nat.le_of_eq W.size.symm)
    replace N := Fr.snoc X N g_b56
    replace A_b56 := A'
    obtain ⟨g0_82, hg0_82⟩ : ∃ gg, gg = (upd g0_70 1 (v9_17)) := ⟨_, rfl⟩
    rw [← hg0_82] at A_b56
    refine w_iload X hx (dq hby d0_83) rfl ?_
    refine w_iconst X hx (dq hby d0_85) (z := 2) rfl ?_
    refine w_icmp_le X hx (dj hby d0_86) (fun hc86 => (?_ : False).elim) (fun hc86 => ?_)
    · exact absurd hc86 (by decide)
    refine w_aload X hx (dq hby d0_89) rfl rfl ?_
    refine w_iconst X hx (dq hby d0_91) (z := 2) rfl ?_
    refine w_iload X hx (dq hby d0_92) rfl ?_
    refine w_iastore X hx hZ eT A_b56 (i := 2) (rfl) (by decide) (dq hby d0_94) fun T h33 X eT W A' => ?_
    replace Z0 := Nat.le_trans Z0 (Nat.le_of_eq W.size.symm)
    replace N := Fr.snoc X N g_b56
    replace A_b56 := A'
    obtain ⟨g0_94, hg0_94⟩ : ∃ gg, gg = (upd g0_82 2 (v10_21)) := ⟨_, rfl⟩
    rw [← hg0_94] at A_b56
    refine w_iload X hx (dq hby d0_95) rfl ?_
    refine w_iconst X hx (dq hby d0_97) (z := 3) rfl ?_
    refine w_icmp_le X hx (dj hby d0_98) (fun hc98 => (?_ : False).elim) (fun hc98 => ?_)
    · exact absurd hc98 (by decide)
    refine w_aload X hx (dq hby d0_101) rfl rfl ?_
    refine w_iconst X hx (dq hby d0_103) (z := 3) rfl ?_
    refine w_iload X hx (dq hby d0_104) rfl ?_
    refine w_iastore X hx hZ eT A_b56 (i := 3) (rfl) (by decide) (dq hby d0_106) fun T h34 X eT W A' => ?_
    replace Z0 := Nat.le_trans Z0 (Nat.le_of_eq W.size.symm)
    replace N := Fr.snoc X N g_b56
    replace A_b56 := A'
    obtain ⟨g0_106, hg0_106⟩ : ∃ gg, gg = (upd g0_94 3 (v11_28)) := ⟨_, rfl⟩
    rw [← hg0_106] at A_b56
    refine w_iload X hx (dq hby d0_107) rfl ?_
    refine w_iconst X hx (dq hby d0_109) (z := 4) rfl ?_
    refine w_icmp_le X hx (dj hby d0_110) (fun hc110 => (?_ : False).elim) (fun hc110 => ?_)
    · exact absurd hc110 (by decide)
    refine w_aload X hx (dq hby d0_113) rfl rfl ?_
    refine w_iconst X hx (dq hby d0_115) (z := 4) rfl ?_
    refine w_iload X hx (dq hby d0_116) rfl ?_
    refine w_iastore X hx hZ eT A_b56 (i := 4) (rfl) (by decide) (dq hby d0_118) fun T h35 X eT W A' => ?_
    replace Z0 := Nat.le_trans Z0 (Nat.le_of_eq W.size.symm)
    replace N := Fr.snoc X N g_b56
    replace A_b56 := A'
    obtain ⟨g0_118, hg0_118⟩ : ∃ gg, gg = (upd g0_106 4 (v12_33)) := ⟨_, rfl⟩
    rw [← hg0_118] at A_b56
    refine w_iload X hx (dq hby d0_119) rfl ?_
    refine w_iconst X hx (dq hby d0_121) (z := 5) rfl ?_
    refine w_icmp_le X hx (dj hby d0_122) (fun hc122 => (?_ : False).elim) (fun hc122 => ?_)
    · exact absurd hc122 (by decide)
    refine w_aload X hx (dq hby d0_125) rfl rfl ?_
    refine w_iconst X hx (dq hby d0_127) (z := 5) rfl ?_
    refine w_iload X hx (dq hby d0_128) rfl ?_
    refine w_iastore X hx hZ eT A_b56 (i := 5) (rfl) (by decide) (dq hby d0_130) fun T h36 X eT W A' => ?_
    replace Z0 := Nat.le_trans Z0 (Nat.le_of_eq W.size.symm)
    replace N := Fr.snoc X N g_b56
    replace A_b56 := A'
    obtain ⟨g0_130, hg0_130⟩ : ∃ gg, gg = (upd g0_118 5 (v13_41)) := ⟨_, rfl⟩
    rw [← hg0_130] at A_b56
    refine w_new X hx hZ eT hown (hw _ (List.mem_of_getElem? (i := 2) rfl)) (hw _ (List.mem_of_getElem? (i := 3) rfl)) (hw _ (List.mem_of_getElem? (i := 4) rfl)) (dq hby d0_131) (by decide) (by decide) fun T h37 b131 hb_b131 X eT EX E_b131 D_b131 => ?_
    have ne_b56_b131 : b56 ≠ b131 := by rw [hb_b131]; exact Nat.ne_of_lt A_b56.lt
    have g_b131 : n0 ≤ b131 := by omega
    replace A_b56 := AV.ext A_b56 EX
    replace Z0 := Nat.le_trans Z0 EX.1
    have F_rowStart_b131 : Fld Z h37 b131 "com/example/topicweave/topicweave/core/NodePairs" "rowStart" "[I" .null := D_b131 (Or.inr (hw _ (List.mem_of_getElem? (i := 13) rfl))) (ty := (.array .int)) (by decide)
    refine w_dup X hx (dq hby d0_134) rfl ?_
    refine w_iload X hx (dq hby d0_135) rfl ?_
    refine w_callI X hx hZ eT hml (by rfl) hown rfl (hw _ (List.mem_of_getElem? (i := 5) rfl)) (hw _ (List.mem_of_getElem? (i := 6) rfl)) (hw _ (List.mem_of_getElem? (i := 4) rfl)) (hw _ (List.mem_of_getElem? (i := 7) rfl)) (by decide) (init4 l Z a0 hw b131 n0 h37 Z0 g_b131 E_b131 F_rowStart_b131) (b := b131) (dq hby d0_137) pd_0 (argsL := [(.int (4 : Int32))]) (rest := [(.ref b131)]) rfl rfl rfl (W := 1) rfl (by decide) (by decide) (by decide) (by decide) fun v T L X hQ => ?_
    generalize eT : T.heap = h38 at hQ
    obtain ⟨rfl, N', K', E_b131, ar, gr, g_ar, ge_ar, F_rowStart_b131, A_ar⟩ := hQ
    replace A_b56 := AV.keep A_b56 K' (ninS ne_b56_b131 nin0)
    replace Z0 := Nat.le_trans Z0 K'.1
    replace N := Fr.app N N'
    refine w_astore X hx (dq hby d0_140) rfl (Ls' := #[.val (.int i0), .val (.long i1), .second, .val (.long i2), .second, .val (.long i3), .second, .val (.int (4 : Int32)), .val (.int v8_10), .val (.int v9_17), .val (.int v10_21), .val (.int v11_28), .val (.int v12_33), .val (.int v13_41), .val (.int (6 : Int32)), .val (.ref b56), .val (.ref b131), .unset, .unset, .unset, .unset, .unset, .unset, .unset, .unset]) rfl ?_
    refine w_aload X hx (dq hby d0_142) rfl rfl ?_
    refine w_aload X hx (dq hby d0_144) rfl rfl ?_
    refine w_callV X hx hZ eT hml (by rfl) hown (hw _ (List.mem_of_getElem? (i := 14) rfl)) (hw _ (List.mem_of_getElem? (i := 15) rfl)) (hw _ (List.mem_of_getElem? (i := 17) rfl)) (hw _ (List.mem_of_getElem? (i := 16) rfl)) (hw _ (List.mem_of_getElem? (i := 4) rfl)) (hw _ (List.mem_of_getElem? (i := 18) rfl)) (by decide) (part4 l Z a0 hw b131 b56 n0 ar gr g0_130 h38 Z0 F_rowStart_b131 A_ar A_b56) E_b131 (dq hby d0_146) pd_1 (argsL := [(.ref b56)]) (rest := []) rfl rfl rfl (W := 0) rfl (by decide) (by decide) (by decide) (by decide) fun v T L X hQ => ?_
    generalize eT : T.heap = h39 at hQ
    obtain ⟨bg, fg, rfl, N', K', ge_bg, A_bg, fe0, fe1, fe2, fe3⟩ := hQ
    replace N := Fr.app N N'
    have g_bg : n0 ≤ bg := Nat.le_trans Z0 ge_bg
    replace Z0 := Nat.le_trans Z0 K'.1
    have pk0 : g0_130 0 = v8_10 := by simp [hg0_70, hg0_82, hg0_94, hg0_106, hg0_118, hg0_130, upd]
    have pk1 : g0_130 1 = v9_17 := by simp [hg0_70, hg0_82, hg0_94, hg0_106, hg0_118, hg0_130, upd]
    have pk2 : g0_130 2 = v10_21 := by simp [hg0_70, hg0_82, hg0_94, hg0_106, hg0_118, hg0_130, upd]
    have pk3 : g0_130 3 = v11_28 := by simp [hg0_70, hg0_82, hg0_94, hg0_106, hg0_118, hg0_130, upd]
    have pk4 : g0_130 4 = v12_33 := by simp [hg0_70, hg0_82, hg0_94, hg0_106, hg0_118, hg0_130, upd]
    have pk5 : g0_130 5 = v13_41 := by simp [hg0_70, hg0_82, hg0_94, hg0_106, hg0_118, hg0_130, upd]
    rw [pk0, pk1, pk2] at fe0
    rw [pk0, pk3, pk4] at fe1
    rw [pk1, pk3, pk5] at fe2
    rw [pk2, pk4, pk5] at fe3
    refine w_astore X hx (dq hby d0_149) rfl (Ls' := #[.val (.int i0), .val (.long i1), .second, .val (.long i2), .second, .val (.long i3), .second, .val (.int (4 : Int32)), .val (.int v8_10), .val (.int v9_17), .val (.int v10_21), .val (.int v11_28), .val (.int v12_33), .val (.int v13_41), .val (.int (6 : Int32)), .val (.ref b56), .val (.ref b131), .val (.ref bg), .unset, .unset, .unset, .unset, .unset, .unset, .unset]) rfl ?_
    refine w_j1 (fun (z8 : Int32) => T.setTop (mkF m 161 #[.val (.int i0), .val (.long i1), .second, .val (.long i2), .second, .val (.long i3), .second, .val (.int (4 : Int32)), .val (.int v8_10), .val (.int v9_17), .val (.int v10_21), .val (.int v11_28), .val (.int v12_33), .val (.int v13_41), .val (.int (6 : Int32)), .val (.ref b56), .val (.ref b131), .val (.ref bg), .unset, .unset, .unset, .unset, .unset, .unset, .unset] [(.int z8)])) (fun z8 => z8 = ps v8_10) (fun z8 hq => ?_) (fun J161 => ?_)
    · try dsimp only at hq ⊢
      have hz8 := hq
      refine w_istore X hx (dq hby d0_161) (z := z8) rfl (Ls' := #[.val (.int i0), .val (.long i1), .second, .val (.long i2), .second, .val (.long i3), .second, .val (.int (4 : Int32)), .val (.int v8_10), .val (.int v9_17), .val (.int v10_21), .val (.int v11_28), .val (.int v12_33), .val (.int v13_41), .val (.int (6 : Int32)), .val (.ref b56), .val (.ref b131), .val (.ref bg), .val (.int z8), .unset, .unset, .unset, .unset, .unset, .unset]) rfl ?_
      refine w_j1 (fun (z9 : Int32) => T.setTop (mkF m 173 #[.val (.int i0), .val (.long i1), .second, .val (.long i2), .second, .val (.long i3), .second, .val (.int (4 : Int32)), .val (.int v8_10), .val (.int v9_17), .val (.int v10_21), .val (.int v11_28), .val (.int v12_33), .val (.int v13_41), .val (.int (6 : Int32)), .val (.ref b56), .val (.ref b131), .val (.ref bg), .val (.int z8), .unset, .unset, .unset, .unset, .unset, .unset] [(.int z9)])) (fun z9 => z9 = ps v9_17) (fun z9 hq => ?_) (fun J173 => ?_)
      · try dsimp only at hq ⊢
        have hz9 := hq
        refine w_istore X hx (dq hby d0_173) (z := z9) rfl (Ls' := #[.val (.int i0), .val (.long i1), .second, .val (.long i2), .second, .val (.long i3), .second, .val (.int (4 : Int32)), .val (.int v8_10), .val (.int v9_17), .val (.int v10_21), .val (.int v11_28), .val (.int v12_33), .val (.int v13_41), .val (.int (6 : Int32)), .val (.ref b56), .val (.ref b131), .val (.ref bg), .val (.int z8), .val (.int z9), .unset, .unset, .unset, .unset, .unset]) rfl ?_
        refine w_j1 (fun (z10 : Int32) => T.setTop (mkF m 185 #[.val (.int i0), .val (.long i1), .second, .val (.long i2), .second, .val (.long i3), .second, .val (.int (4 : Int32)), .val (.int v8_10), .val (.int v9_17), .val (.int v10_21), .val (.int v11_28), .val (.int v12_33), .val (.int v13_41), .val (.int (6 : Int32)), .val (.ref b56), .val (.ref b131), .val (.ref bg), .val (.int z8), .val (.int z9), .unset, .unset, .unset, .unset, .unset] [(.int z10)])) (fun z10 => z10 = ps v10_21) (fun z10 hq => ?_) (fun J185 => ?_)
        · try dsimp only at hq ⊢
          have hz10 := hq
          refine w_istore X hx (dq hby d0_185) (z := z10) rfl (Ls' := #[.val (.int i0), .val (.long i1), .second, .val (.long i2), .second, .val (.long i3), .second, .val (.int (4 : Int32)), .val (.int v8_10), .val (.int v9_17), .val (.int v10_21), .val (.int v11_28), .val (.int v12_33), .val (.int v13_41), .val (.int (6 : Int32)), .val (.ref b56), .val (.ref b131), .val (.ref bg), .val (.int z8), .val (.int z9), .val (.int z10), .unset, .unset, .unset, .unset]) rfl ?_
          refine w_j1 (fun (z11 : Int32) => T.setTop (mkF m 197 #[.val (.int i0), .val (.long i1), .second, .val (.long i2), .second, .val (.long i3), .second, .val (.int (4 : Int32)), .val (.int v8_10), .val (.int v9_17), .val (.int v10_21), .val (.int v11_28), .val (.int v12_33), .val (.int v13_41), .val (.int (6 : Int32)), .val (.ref b56), .val (.ref b131), .val (.ref bg), .val (.int z8), .val (.int z9), .val (.int z10), .unset, .unset, .unset, .unset] [(.int z11)])) (fun z11 => z11 = ps v11_28) (fun z11 hq => ?_) (fun J197 => ?_)
          · try dsimp only at hq ⊢
            have hz11 := hq
            refine w_istore X hx (dq hby d0_197) (z := z11) rfl (Ls' := #[.val (.int i0), .val (.long i1), .second, .val (.long i2), .second, .val (.long i3), .second, .val (.int (4 : Int32)), .val (.int v8_10), .val (.int v9_17), .val (.int v10_21), .val (.int v11_28), .val (.int v12_33), .val (.int v13_41), .val (.int (6 : Int32)), .val (.ref b56), .val (.ref b131), .val (.ref bg), .val (.int z8), .val (.int z9), .val (.int z10), .val (.int z11), .unset, .unset, .unset]) rfl ?_
            refine w_j1 (fun (z12 : Int32) => T.setTop (mkF m 209 #[.val (.int i0), .val (.long i1), .second, .val (.long i2), .second, .val (.long i3), .second, .val (.int (4 : Int32)), .val (.int v8_10), .val (.int v9_17), .val (.int v10_21), .val (.int v11_28), .val (.int v12_33), .val (.int v13_41), .val (.int (6 : Int32)), .val (.ref b56), .val (.ref b131), .val (.ref bg), .val (.int z8), .val (.int z9), .val (.int z10), .val (.int z11), .unset, .unset, .unset] [(.int z12)])) (fun z12 => z12 = ps v12_33) (fun z12 hq => ?_) (fun J209 => ?_)
            · try dsimp only at hq ⊢
              have hz12 := hq
              refine w_istore X hx (dq hby d0_209) (z := z12) rfl (Ls' := #[.val (.int i0), .val (.long i1), .second, .val (.long i2), .second, .val (.long i3), .second, .val (.int (4 : Int32)), .val (.int v8_10), .val (.int v9_17), .val (.int v10_21), .val (.int v11_28), .val (.int v12_33), .val (.int v13_41), .val (.int (6 : Int32)), .val (.ref b56), .val (.ref b131), .val (.ref bg), .val (.int z8), .val (.int z9), .val (.int z10), .val (.int z11), .val (.int z12), .unset, .unset]) rfl ?_
              refine w_j1 (fun (z13 : Int32) => T.setTop (mkF m 221 #[.val (.int i0), .val (.long i1), .second, .val (.long i2), .second, .val (.long i3), .second, .val (.int (4 : Int32)), .val (.int v8_10), .val (.int v9_17), .val (.int v10_21), .val (.int v11_28), .val (.int v12_33), .val (.int v13_41), .val (.int (6 : Int32)), .val (.ref b56), .val (.ref b131), .val (.ref bg), .val (.int z8), .val (.int z9), .val (.int z10), .val (.int z11), .val (.int z12), .unset, .unset] [(.int z13)])) (fun z13 => z13 = ps v13_41) (fun z13 hq => ?_) (fun J221 => ?_)
              · try dsimp only at hq ⊢
                have hz13 := hq
                refine w_istore X hx (dq hby d0_221) (z := z13) rfl (Ls' := #[.val (.int i0), .val (.long i1), .second, .val (.long i2), .second, .val (.long i3), .second, .val (.int (4 : Int32)), .val (.int v8_10), .val (.int v9_17), .val (.int v10_21), .val (.int v11_28), .val (.int v12_33), .val (.int v13_41), .val (.int (6 : Int32)), .val (.ref b56), .val (.ref b131), .val (.ref bg), .val (.int z8), .val (.int z9), .val (.int z10), .val (.int z11), .val (.int z12), .val (.int z13), .unset]) rfl ?_
                refine w_iconst X hx (dq hby d0_223) (z := 4) rfl ?_
                refine w_newarr X hx hZ eT (aty := .int) (hw _ (List.mem_of_getElem? (i := 1) rfl)) (dq hby d0_224) (n := 4) (cap := 4) (rfl) ((by decide)) (by decide) (by decide) (by decide) fun T h40 b224 hb_b224 X eT EX A_b224 => ?_
                have ne_bg_b224 : bg ≠ b224 := by rw [hb_b224]; exact Nat.ne_of_lt A_bg.lt
                have g_b224 : n0 ≤ b224 := by omega
                replace A_bg := AV.ext A_bg EX
                replace Z0 := Nat.le_trans Z0 EX.1
                replace A_b224 : AV Z h40 b224 .int 4 (iF (fun _ => (0 : Int32))) := A_b224
                refine w_astore X hx (dq hby d0_226) rfl (Ls' := #[.val (.int i0), .val (.long i1), .second, .val (.long i2), .second, .val (.long i3), .second, .val (.int (4 : Int32)), .val (.int v8_10), .val (.int v9_17), .val (.int v10_21), .val (.int v11_28), .val (.int v12_33), .val (.int v13_41), .val (.int (6 : Int32)), .val (.ref b56), .val (.ref b131), .val (.ref bg), .val (.int z8), .val (.int z9), .val (.int z10), .val (.int z11), .val (.int z12), .val (.int z13), .val (.ref b224)]) rfl ?_
                refine w_iload X hx (dq hby d0_228) rfl ?_
                refine w_iconst X hx (dq hby d0_230) (z := 2) rfl ?_
                refine w_icmp_ne X hx (dj hby d0_231) (fun hc231 => ?_) (fun hc231 => (?_ : False).elim)
                rotate_left
                · exact absurd hc231 (by decide)
                refine w_iload X hx (dq hby d0_249) rfl ?_
                refine w_iconst X hx (dq hby d0_251) (z := 3) rfl ?_
                refine w_icmp_ne X hx (dj hby d0_252) (fun hc252 => ?_) (fun hc252 => (?_ : False).elim)
                rotate_left
                · exact absurd hc252 (by decide)
                refine w_iload X hx (dq hby d0_285) rfl ?_
                refine w_iconst X hx (dq hby d0_287) (z := 4) rfl ?_
                refine w_icmp_ne X hx (dj hby d0_288) (fun hc288 => (?_ : False).elim) (fun hc288 => ?_)
                · exact absurd hc288 (by decide)
                refine w_aload X hx (dq hby d0_291) rfl rfl ?_
                refine w_iconst X hx (dq hby d0_293) (z := 0) rfl ?_
                refine w_iload X hx (dq hby d0_294) rfl ?_
                refine w_iload X hx (dq hby d0_296) rfl ?_
                refine w_iadd X hx (dq hby d0_298) ?_
                refine w_iload X hx (dq hby d0_299) rfl ?_
                refine w_iadd X hx (dq hby d0_301) ?_
                refine w_iastore X hx hZ eT A_b224 (i := 0) (rfl) (by decide) (dq hby d0_302) fun T h41 X eT W A' => ?_
                replace A_bg := AV.other A_bg W ne_bg_b224
                replace Z0 := Nat.le_trans Z0 (Nat.le_of_eq W.size.symm)
                replace N := Fr.snoc X N g_b224
                replace A_b224 := A'
                obtain ⟨g0_302, hg0_302⟩ : ∃ gg, gg = (upd (fun _ => (0 : Int32)) 0 (((z8 + z9) + z10))) := ⟨_, rfl⟩
                rw [← hg0_302] at A_b224
                refine w_aload X hx (dq hby d0_303) rfl rfl ?_
                refine w_iconst X hx (dq hby d0_305) (z := 1) rfl ?_
                refine w_iload X hx (dq hby d0_306) rfl ?_
                refine w_iload X hx (dq hby d0_308) rfl ?_
                refine w_iadd X hx (dq hby d0_310) ?_
                refine w_iload X hx (dq hby d0_311) rfl ?_
                refine w_iadd X hx (dq hby d0_313) ?_
                refine w_iastore X hx hZ eT A_b224 (i := 1) (rfl) (by decide) (dq hby d0_314) fun T h42 X eT W A' => ?_
                replace A_bg := AV.other A_bg W ne_bg_b224
                replace Z0 := Nat.le_trans Z0 (Nat.le_of_eq W.size.symm)
                replace N := Fr.snoc X N g_b224
                replace A_b224 := A'
                obtain ⟨g0_314, hg0_314⟩ : ∃ gg, gg = (upd g0_302 1 (((z8 + z11) + z12))) := ⟨_, rfl⟩
                rw [← hg0_314] at A_b224
                refine w_aload X hx (dq hby d0_315) rfl rfl ?_
                refine w_iconst X hx (dq hby d0_317) (z := 2) rfl ?_
                refine w_iload X hx (dq hby d0_318) rfl ?_
                refine w_iload X hx (dq hby d0_320) rfl ?_
                refine w_iadd X hx (dq hby d0_322) ?_
                refine w_iload X hx (dq hby d0_323) rfl ?_
                refine w_iadd X hx (dq hby d0_325) ?_
                refine w_iastore X hx hZ eT A_b224 (i := 2) (rfl) (by decide) (dq hby d0_326) fun T h43 X eT W A' => ?_
                replace A_bg := AV.other A_bg W ne_bg_b224
                replace Z0 := Nat.le_trans Z0 (Nat.le_of_eq W.size.symm)
                replace N := Fr.snoc X N g_b224
                replace A_b224 := A'
                obtain ⟨g0_326, hg0_326⟩ : ∃ gg, gg = (upd g0_314 2 (((z9 + z11) + z13))) := ⟨_, rfl⟩
                rw [← hg0_326] at A_b224
                refine w_aload X hx (dq hby d0_327) rfl rfl ?_
                refine w_iconst X hx (dq hby d0_329) (z := 3) rfl ?_
                refine w_iload X hx (dq hby d0_330) rfl ?_
                refine w_iload X hx (dq hby d0_332) rfl ?_
                refine w_iadd X hx (dq hby d0_334) ?_
                refine w_iload X hx (dq hby d0_335) rfl ?_
                refine w_iadd X hx (dq hby d0_337) ?_
                refine w_iastore X hx hZ eT A_b224 (i := 3) (rfl) (by decide) (dq hby d0_338) fun T h44 X eT W A' => ?_
                replace A_bg := AV.other A_bg W ne_bg_b224
                replace Z0 := Nat.le_trans Z0 (Nat.le_of_eq W.size.symm)
                replace N := Fr.snoc X N g_b224
                replace A_b224 := A'
                obtain ⟨g0_338, hg0_338⟩ : ∃ gg, gg = (upd g0_326 3 (((z10 + z12) + z13))) := ⟨_, rfl⟩
                rw [← hg0_338] at A_b224
                refine w_aload X hx (dq hby d0_339) rfl rfl ?_
                refine w_ifnullR X hx (dj hby d0_341) ?_
                refine w_aload X hx (dq hby d0_344) rfl rfl ?_
                refine w_arrlen X hx hZ eT A_bg (z := (4 : Int32)) (rfl) (dq hby d0_346) ?_
                refine w_iload X hx (dq hby d0_347) rfl ?_
                refine w_icmp_eq X hx (dj hby d0_349) (fun hc349 => ?_) (fun hc349 => (?_ : False).elim)
                rotate_left
                · exact hc349 rfl
                refine w_iload X hx (dq hby d0_354) rfl ?_
                refine w_if_le X hx (dj hby d0_356) (fun hc356 => (?_ : False).elim) (fun hc356 => ?_)
                · exact absurd hc356 (by decide)
                refine w_aload X hx (dq hby d0_359) rfl rfl ?_
                refine w_iconst X hx (dq hby d0_361) (z := 0) rfl ?_
                refine w_iaload X hx hZ eT A_bg (i := 0) (rfl) (by decide) (z := (fg 0)) (rfl) (dq hby d0_362) ?_
                refine w_aload X hx (dq hby d0_363) rfl rfl ?_
                refine w_iconst X hx (dq hby d0_365) (z := 0) rfl ?_
                refine w_iaload X hx hZ eT A_b224 (i := 0) (rfl) (by decide) (z := (g0_338 0)) (rfl) (dq hby d0_366) ?_
                refine w_icmp_eq X hx (dj hby d0_367) (fun hc367 => ?_) (fun hc367 => (?_ : False).elim)
                rotate_left
                · exact hc367 (fe0.trans (by simp [hg0_338, hg0_326, hg0_314, hg0_302, upd, Int32.zero_add, hz8, hz9, hz10, hz11, hz12, hz13]))
                refine w_iload X hx (dq hby d0_372) rfl ?_
                refine w_iconst X hx (dq hby d0_374) (z := 1) rfl ?_
                refine w_icmp_le X hx (dj hby d0_375) (fun hc375 => (?_ : False).elim) (fun hc375 => ?_)
                · exact absurd hc375 (by decide)
                refine w_aload X hx (dq hby d0_378) rfl rfl ?_
                refine w_iconst X hx (dq hby d0_380) (z := 1) rfl ?_
                refine w_iaload X hx hZ eT A_bg (i := 1) (rfl) (by decide) (z := (fg 1)) (rfl) (dq hby d0_381) ?_
                refine w_aload X hx (dq hby d0_382) rfl rfl ?_
                refine w_iconst X hx (dq hby d0_384) (z := 1) rfl ?_
                refine w_iaload X hx hZ eT A_b224 (i := 1) (rfl) (by decide) (z := (g0_338 1)) (rfl) (dq hby d0_385) ?_
                refine w_icmp_eq X hx (dj hby d0_386) (fun hc386 => ?_) (fun hc386 => (?_ : False).elim)
                rotate_left
                · exact hc386 (fe1.trans (by simp [hg0_338, hg0_326, hg0_314, hg0_302, upd, Int32.zero_add, hz8, hz9, hz10, hz11, hz12, hz13]))
                refine w_iload X hx (dq hby d0_391) rfl ?_
                refine w_iconst X hx (dq hby d0_393) (z := 2) rfl ?_
                refine w_icmp_le X hx (dj hby d0_394) (fun hc394 => (?_ : False).elim) (fun hc394 => ?_)
                · exact absurd hc394 (by decide)
                refine w_aload X hx (dq hby d0_397) rfl rfl ?_
                refine w_iconst X hx (dq hby d0_399) (z := 2) rfl ?_
                refine w_iaload X hx hZ eT A_bg (i := 2) (rfl) (by decide) (z := (fg 2)) (rfl) (dq hby d0_400) ?_
                refine w_aload X hx (dq hby d0_401) rfl rfl ?_
                refine w_iconst X hx (dq hby d0_403) (z := 2) rfl ?_
                refine w_iaload X hx hZ eT A_b224 (i := 2) (rfl) (by decide) (z := (g0_338 2)) (rfl) (dq hby d0_404) ?_
                refine w_icmp_eq X hx (dj hby d0_405) (fun hc405 => ?_) (fun hc405 => (?_ : False).elim)
                rotate_left
                · exact hc405 (fe2.trans (by simp [hg0_338, hg0_326, hg0_314, hg0_302, upd, Int32.zero_add, hz8, hz9, hz10, hz11, hz12, hz13]))
                refine w_iload X hx (dq hby d0_410) rfl ?_
                refine w_iconst X hx (dq hby d0_412) (z := 3) rfl ?_
                refine w_icmp_le X hx (dj hby d0_413) (fun hc413 => (?_ : False).elim) (fun hc413 => ?_)
                · exact absurd hc413 (by decide)
                refine w_aload X hx (dq hby d0_416) rfl rfl ?_
                refine w_iconst X hx (dq hby d0_418) (z := 3) rfl ?_
                refine w_iaload X hx hZ eT A_bg (i := 3) (rfl) (by decide) (z := (fg 3)) (rfl) (dq hby d0_419) ?_
                refine w_aload X hx (dq hby d0_420) rfl rfl ?_
                refine w_iconst X hx (dq hby d0_422) (z := 3) rfl ?_
                refine w_iaload X hx hZ eT A_b224 (i := 3) (rfl) (by decide) (z := (g0_338 3)) (rfl) (dq hby d0_423) ?_
                refine w_icmp_eq X hx (dj hby d0_424) (fun hc424 => ?_) (fun hc424 => (?_ : False).elim)
                rotate_left
                · exact hc424 (fe3.trans (by simp [hg0_338, hg0_326, hg0_314, hg0_302, upd, Int32.zero_add, hz8, hz9, hz10, hz11, hz12, hz13]))
                refine w_iconst X hx (dq hby d0_429) (z := 1) rfl ?_
                refine w_retN X hx hret (by simp) hlk (dq hby d0_430) (by decide) (by decide) ?_
                exact ⟨by simp [nar], N⟩
              refine w_iload X hx (dq hby d0_211) rfl ?_
              refine w_if_le X hx (dj hby d0_213) (fun hc213 => ?_) (fun hc213 => ?_)
              · refine w_iconst X hx (dq hby d0_220) (z := 0) rfl ?_
                exact J221 _ (ps_f hc213).symm
              · refine w_iconst X hx (dq hby d0_216) (z := 1) rfl ?_
                refine w_goto X hx (dj hby d0_217) ?_
                exact J221 _ (ps_t hc213).symm
            refine w_iload X hx (dq hby d0_199) rfl ?_
            refine w_if_le X hx (dj hby d0_201) (fun hc201 => ?_) (fun hc201 => ?_)
            · refine w_iconst X hx (dq hby d0_208) (z := 0) rfl ?_
              exact J209 _ (ps_f hc201).symm
            · refine w_iconst X hx (dq hby d0_204) (z := 1) rfl ?_
              refine w_goto X hx (dj hby d0_205) ?_
              exact J209 _ (ps_t hc201).symm
          refine w_iload X hx (dq hby d0_187) rfl ?_
          refine w_if_le X hx (dj hby d0_189) (fun hc189 => ?_) (fun hc189 => ?_)
          · refine w_iconst X hx (dq hby d0_196) (z := 0) rfl ?_
            exact J197 _ (ps_f hc189).symm
          · refine w_iconst X hx (dq hby d0_192) (z := 1) rfl ?_
            refine w_goto X hx (dj hby d0_193) ?_
            exact J197 _ (ps_t hc189).symm
        refine w_iload X hx (dq hby d0_175) rfl ?_
        refine w_if_le X hx (dj hby d0_177) (fun hc177 => ?_) (fun hc177 => ?_)
        · refine w_iconst X hx (dq hby d0_184) (z := 0) rfl ?_
          exact J185 _ (ps_f hc177).symm
        · refine w_iconst X hx (dq hby d0_180) (z := 1) rfl ?_
          refine w_goto X hx (dj hby d0_181) ?_
          exact J185 _ (ps_t hc177).symm
      refine w_iload X hx (dq hby d0_163) rfl ?_
      refine w_if_le X hx (dj hby d0_165) (fun hc165 => ?_) (fun hc165 => ?_)
      · refine w_iconst X hx (dq hby d0_172) (z := 0) rfl ?_
        exact J173 _ (ps_f hc165).symm
      · refine w_iconst X hx (dq hby d0_168) (z := 1) rfl ?_
        refine w_goto X hx (dj hby d0_169) ?_
        exact J173 _ (ps_t hc165).symm
    refine w_iload X hx (dq hby d0_151) rfl ?_
    refine w_if_le X hx (dj hby d0_153) (fun hc153 => ?_) (fun hc153 => ?_)
    · refine w_iconst X hx (dq hby d0_160) (z := 0) rfl ?_
      exact J161 _ (ps_f hc153).symm
    · refine w_iconst X hx (dq hby d0_156) (z := 1) rfl ?_
      refine w_goto X hx (dj hby d0_157) ?_
      exact J161 _ (ps_t hc153).symm
set_option maxRecDepth 65536 in
set_option maxHeartbeats 40000000 in
theorem comes_1 {Post : Tables → Env → Array Value → State → Outcome → State → Prop} (hpost : ∀ tb e args s v u, (limb_1_1.after args s (.returned v) u = true ∧ limb_1_2.after args s (.returned v) u = true) → FrameEnd s (.returned v) u (Jvm.fieldLocs frame_1_writes args s ++ Jvm.arrayLocs frame_1_arrays args s ++ Jvm.staticLocs frame_1_statics s) 24 128 → Post tb e args s (.returned v) u) :
    ArmFor flags0 classFile x code maxLocals ret World_1 tables_1 room_1 Calls_1 rest_1 Pre_1 Post := by
  intro l hfl _ _ p e ha hc hk s m args below hf hA hF happ hP
  obtain ⟨hcalls, hrest, hpre⟩ := hP
  obtain ⟨-, -, -, hnamed, -, -, -, hat⟩ := (Spec.applies_iff hf).mp happ
  obtain ⟨hg, hn⟩ := and_e (Cond.before_iff.mp (show (Jvm.Cond.and given_1 narrow_1).before args s = true from hpre))
  obtain ⟨g0, k0⟩ := and_e hg
  obtain ⟨g1, k1⟩ := and_e k0
  obtain ⟨g2, k2⟩ := and_e k1
  obtain ⟨g3, k3⟩ := and_e k2
  obtain ⟨w0, w1, w2, w3, rfl⟩ : ∃ w0 w1 w2 w3 : Value, args = #[w0, w1, w2, w3] := by
    have hs : args.size = 4 := by simpa [Cond.value, given_1] using g0
    obtain ⟨L⟩ := args
    match L, hs with
    | [w0, w1, w2, w3], _ => exact ⟨w0, w1, w2, w3, rfl⟩
  have hw := fun d (hd : d ∈ tables_1) => atoms_spec (ws := Jvm.Cond.code x code maxLocals ret :: tables_1) hat d (List.mem_cons_of_mem _ hd)
  obtain ⟨i0, ei0⟩ := is_v g1
  obtain rfl : w0 = (.int i0) := Option.some.inj ei0
  obtain ⟨i1, ei1⟩ := isL_v g2
  obtain rfl : w1 = (.long i1) := Option.some.inj ei1
  obtain ⟨i2, ei2⟩ := isL_v g3
  obtain rfl : w2 = (.long i2) := Option.some.inj ei2
  obtain ⟨i3, ei3⟩ := isL_v k3
  obtain rfl : w3 = (.long i3) := Option.some.inj ei3
  obtain ⟨n, o, h1, h2, h3, _, L, rfl, ⟨rfl, N⟩, hq⟩ := rm0 l s _ hw tables_1 i0 i1 i2 i3 s.heap s.heap.size (Nat.le_refl _) p e ha hc hk s m _ below hf ((Spec.applies_iff_loose hf).mp happ).1 ⟨rfl, State.Warmed39.refl s, rfl⟩ trivial
  exact ⟨n, _, h1, h2, h3, hpost _ _ _ _ _ _ ⟨Cond.after_iff.mpr rfl, Cond.after_iff.mpr (eq_i res_at (Term.int_eval (1)) rfl)⟩ ⟨hq.1, hq.2.1, hq.2.2.sift fun y hy => Or.inr (N y hy)⟩⟩
theorem main_1_1 : Claimed_1_1 := comes_1 fun _ _ _ _ _ _ h hF => ⟨h.1, hF⟩
theorem main_1_2 : Claimed_1_2 := comes_1 fun _ _ _ _ _ _ h hF => ⟨h.2, hF⟩

end Jvm.Pilot.@@N@@
namespace Jvm.Pilot.@@N@@
open Jvm Jvm.ClassFile Sem Op Lib Jvm.Free Jvm.Stand Jvm.Pilot.@@N@@.Jvm.D
/-! MADE BY PROGRAM (witnessworld.py) out of the Statement's table words and the real class files: 9 classes; the members and pool entries that the words name. The judged class is class 1, her method 1. -/
namespace start1
open Jvm.ClassFile
def u (s : String) : CpInfo := .utf8 (stringToUtf16 s)
/-- a pool by its gaps: so many unusable entries, then the entry; so many at the end -/
def gap : Nat → List CpInfo → List CpInfo
  | 0, r => r
  | n + 1, r => .unusable :: gap n r
def poolList (es : List (Nat × CpInfo)) (last : Nat) : List CpInfo := es.foldr (fun e r => gap e.1 (e.2 :: r)) (gap last [])
def pool (es : List (Nat × CpInfo)) (last : Nat) : Array CpInfo := ⟨poolList es last⟩
def fileOf (pool : Array CpInfo) (this : Nat) (attrs : Array Attribute := #[]) (ms : Array MethodInfo := #[]) (fl : Nat := 33) (sup : Nat := 0) (ifs : Array Nat := #[]) (fds : Array FieldInfo := #[]) : ClassFile where
  minorVersion := 0
  majorVersion := 65
  constantPool := pool
  accessFlags := fl
  thisClass := this
  superClass := sup
  interfaces := ifs
  fields := fds
  methods := ms
  attributes := attrs
def plain (name : String) (sup : Option ClassId) : Class where
  name := name
  kind := .ordinary
  loader := none
  accessFlags := 33
  super := sup
  interfaces := #[]
  cf := none
  fields := #[]
  methods := #[]
  instanceTypes := #[]
  staticTypes := #[]
  resolved := #[]
  callSites := []
  init := .initialized
  statics := none
  mirror := none

def pool0 : Array CpInfo := pool [(5, u "<init>"), (0, u "()V"), (1, .class_ 10), (1, u "java/lang/Object")] 113

def k0c0 : Code := { maxStack := 0, maxLocals := 1, code := object_method_1_code, exceptionTable := #[], attributes := #[] }
def k0m0 : Method := { name := "<init>", desc := "()V", sig := { parameters := [], returnType := none }, accessFlags := 1, code := some k0c0 }
/-- java/lang/Object -/
def k0 : Class := { plain "java/lang/Object" none with
  accessFlags := 33
  interfaces := #[]
  cf := some (fileOf pool0 8 #[] #[{ accessFlags := 1, nameIndex := 5, descriptorIndex := 6, attributes := #[] }] 33 0 #[] #[])
  fields := #[]
  methods := #[k0m0]
  instanceTypes := #[]
  staticTypes := #[]
  resolved := Array.replicate 124 none
  statics := none }

def pool1 : Array CpInfo := pool [(2, .class_ 4), (1, u "java/lang/Object"), (0, u "<init>"), (0, u "()V"), (0, .integer 2147483647), (0, .class_ 9), (0, u "com/example/topicweave/topicweave/core/NodePairs"), (0, .methodref 8 11), (0, .nameAndType 5 12), (0, u "(I)V"), (0, .methodref 8 14), (0, .nameAndType 15 16), (0, u "partners"), (0, u "([I)[I"), (0, .class_ 18), (0, u "com/example/topicweave/topicweave/core/NodePairsPartnersPinLaw"), (2, u "law"), (0, u "(IJJJ)Z")] 5

def k1m0 : Method := { name := "<init>", desc := "()V", sig := { parameters := [], returnType := none }, accessFlags := 1, code := none }
def k1c1 : Code := { maxStack := 4, maxLocals := 25, code := code, exceptionTable := #[], attributes := #[] }
def k1m1 : Method := { name := "law", desc := "(IJJJ)Z", sig := { parameters := [.int, .long, .long, .long], returnType := some .boolean }, accessFlags := 9, code := some k1c1 }
/-- com/example/topicweave/topicweave/core/NodePairsPartnersPinLaw -/
def k1 : Class := { plain "com/example/topicweave/topicweave/core/NodePairsPartnersPinLaw" (some 0) with
  accessFlags := 49
  interfaces := #[]
  cf := some (fileOf pool1 17 #[] #[{ accessFlags := 1, nameIndex := 5, descriptorIndex := 6, attributes := #[] }, { accessFlags := 9, nameIndex := 21, descriptorIndex := 22, attributes := #[] }] 49 2 #[] #[])
  fields := #[]
  methods := #[k1m0, k1m1]
  instanceTypes := #[]
  staticTypes := #[]
  resolved := Array.replicate 28 none
  statics := none }

def pool2 : Array CpInfo := pool [(1, .methodref 2 3), (0, .class_ 4), (0, .nameAndType 5 6), (0, u "java/lang/Object"), (0, u "<init>"), (0, u "()V"), (0, .class_ 8), (0, u "com/example/topicweave/topicweave/core/NodePairs"), (0, .integer 65536), (9, .fieldref 7 20), (0, .nameAndType 21 22), (0, u "rowStart"), (0, u "[I"), (0, .long 2), (36, .class_ 62), (1, u "com/example/topicweave/topicweave/core/NodePairs$RowOfTopic"), (3, u "row"), (0, u "I"), (4, u "MAX_NODES"), (1, u "(I)V"), (11, u "partners"), (0, u "([I)[I")] 38

def k2c0 : Code := { maxStack := 8, maxLocals := 3, code := prog_12_method_1_code, exceptionTable := #[], attributes := #[] }
def k2m0 : Method := { name := "<init>", desc := "(I)V", sig := { parameters := [.int], returnType := none }, accessFlags := 0, code := some k2c0 }
def k2c1 : Code := { maxStack := 4, maxLocals := 7, code := prog_12_method_7_code, exceptionTable := #[], attributes := #[] }
def k2m1 : Method := { name := "partners", desc := "([I)[I", sig := { parameters := [(.array .int)], returnType := some (.array .int) }, accessFlags := 0, code := some k2c1 }
/-- com/example/topicweave/topicweave/core/NodePairs -/
def k2 : Class := { plain "com/example/topicweave/topicweave/core/NodePairs" (some 0) with
  accessFlags := 48
  interfaces := #[]
  cf := some (fileOf pool2 7 #[.nestMembers #[60]] #[{ accessFlags := 0, nameIndex := 5, descriptorIndex := 74, attributes := #[] }, { accessFlags := 0, nameIndex := 86, descriptorIndex := 87, attributes := #[] }] 48 2 #[] #[{ accessFlags := 24, nameIndex := 72, descriptorIndex := 67, attributes := #[] }, { accessFlags := 18, nameIndex := 21, descriptorIndex := 22, attributes := #[] }, { accessFlags := 2, nameIndex := 66, descriptorIndex := 67, attributes := #[] }])
  fields := #[{ name := "MAX_NODES", type := .int, accessFlags := 24, slot := 0, constantValue := 0 }, { name := "rowStart", type := (.array .int), accessFlags := 18, slot := 0, constantValue := 0 }, { name := "row", type := .int, accessFlags := 2, slot := 1, constantValue := 0 }]
  methods := #[k2m0, k2m1]
  instanceTypes := #[(.array .int), .int]
  staticTypes := #[.int]
  resolved := Array.replicate 126 none
  statics := none }

def pool3 : Array CpInfo := pool [(1, u "java/lang/Cloneable"), (0, .class_ 1), (0, u "java/lang/Object"), (0, .class_ 3)] 3

/-- java/lang/Cloneable -/
def k3 : Class := { plain "java/lang/Cloneable" (some 0) with
  accessFlags := 1537
  interfaces := #[]
  cf := some (fileOf pool3 2 #[] #[] 1537 4 #[] #[])
  fields := #[]
  methods := #[]
  instanceTypes := #[]
  staticTypes := #[]
  resolved := Array.replicate 8 none
  statics := none }

def pool4 : Array CpInfo := pool [(1, u "java/io/Serializable"), (0, .class_ 1), (0, u "java/lang/Object"), (0, .class_ 3)] 3

/-- java/io/Serializable -/
def k4 : Class := { plain "java/io/Serializable" (some 0) with
  accessFlags := 1537
  interfaces := #[]
  cf := some (fileOf pool4 2 #[] #[] 1537 4 #[] #[])
  fields := #[]
  methods := #[]
  instanceTypes := #[]
  staticTypes := #[]
  resolved := Array.replicate 8 none
  statics := none }

/-- the primitive byte -/
def k5 : Class := { plain "byte" none with kind := .primitive 'B', accessFlags := 0x411 }
/-- [B -/
def k6 : Class := { plain "[B" (some 0) with kind := .array 5 .byte, interfaces := #[3, 4], accessFlags := 1041 }

/-- the primitive int -/
def k7 : Class := { plain "int" none with kind := .primitive 'I', accessFlags := 0x411 }
/-- [I -/
def k8 : Class := { plain "[I" (some 0) with kind := .array 7 .int, interfaces := #[3, 4], accessFlags := 1041 }

def heap : Heap := #[]
def classes : Array Class := #[k0, k1, k2, k3, k4, k5, k6, k7, k8]
def interned : List (Array UInt16 × Addr) := []
def slotsUsed : Nat := 0
def theMethod : MethodId := ⟨1, 1⟩
def args0 : Array Value := #[.int 5, .long 7, .long 1, .long 2]
def aboutOver (below : List Frame) : State where
  vm := { classes := classes, interned := interned.toArray }
  heap := heap
  slotsUsed := slotsUsed
  threads := #[{ frames := .invoking theMethod args0 :: below }]
def below0 : List Frame := [.native { method := ⟨0, 0⟩, args := #[] }]
def about1 : State := aboutOver below0
def p0 : Program := .bare "" "" ""
def e0 : Env := launch0.env 0 0 0
theorem w_frames : about1.frames = Frame.invoking theMethod args0 :: below0 := rfl
set_option maxRecDepth 65536 in
theorem w_args : argsFit about1.vm theMethod args0 = true := by decide +kernel
set_option maxRecDepth 65536 in
theorem w_heap : heapFits about1 = true := by decide +kernel
set_option maxRecDepth 65536 in
theorem w_runnable : about1.curStatus? = some .runnable := by decide +kernel
set_option maxRecDepth 65536 in
theorem w_alone : about1.alone = true := by decide +kernel
set_option maxRecDepth 65536 in
theorem w_named : about1.methodNamed? x = some theMethod := by decide +kernel
set_option maxRecDepth 65536 in
theorem w_hears : about1.hears theMethod below0 = true := by decide +kernel
set_option maxRecDepth 65536 in
theorem w_ripe : about1.ripe theMethod args0 below0 = true := by decide +kernel
theorem w_running : about1.status = .running := rfl
set_option maxRecDepth 65536 in
theorem w_room : about1.hasRoom e0.platform room_1 = true :=
  launch0.hasRoom_least _ room_1 (by decide +kernel) (by decide +kernel) (by decide +kernel) (by decide +kernel) (by decide +kernel) (by decide +kernel)
theorem allAtoms_all (ts : List Jvm.Cond) (a : Array Jvm.Value) (st : Jvm.State) : (allAtoms ts).before a st = ts.all (fun c => c.before a st) := by
  induction ts with
  | nil => rfl
  | cons c t ih =>
    show (Jvm.Cond.and c (allAtoms t)).before a st = _
    rw [Jvm.Cond.before_and, ih, List.all_cons]
def words1 : List Jvm.Cond := Jvm.Cond.code x code maxLocals ret :: tables_1
/-- a 'code' word, met by the world's own term for the bytes: nothing is compared byte by byte -/
theorem code_word {y : MethodName} {bytes : ByteArray} {mx : Nat} {rt : Option FieldType} {a : Array Value} {s : State} {m : MethodId} {meth : Method} {c : Code} (h1 : s.methodNamed? y = some m) (h2 : s.vm.method? m = some meth) (h3 : meth.code = some c) (h4 : c.code = bytes)
    (h5 : (c.maxLocals == mx && c.exceptionTable.isEmpty && decide (c.maxStack ≤ mostOperands) && decide (meth.sig.returnType = rt) && !meth.locks && decide (parseMethodDescriptor y.desc = some meth.sig)) = true) : (Jvm.Cond.code y bytes mx rt).before a s = true := by
  simp only [Bool.and_eq_true, beq_iff_eq, Bool.not_eq_true', decide_eq_true_eq] at h5
  obtain ⟨⟨⟨⟨⟨g1, g2⟩, g3⟩, g4⟩, g5⟩, g6⟩ := h5
  simp [Cond.before, Cond.holds, Cond.value, h1, h2, h3, h4, g1, g2, g3, g4, g5, g6]
def isCode : Jvm.Cond → Bool
  | .code _ _ _ _ => true
  | _ => false
theorem all_split {L : List Jvm.Cond} {P : Jvm.Cond → Bool} (h1 : L.all (fun c => isCode c || P c) = true) (h2 : ∀ c ∈ L.filter isCode, P c = true) : L.all P = true := by
  refine List.all_eq_true.mpr fun c hc => ?_
  have h := List.all_eq_true.mp h1 c hc
  rcases Bool.eq_false_or_eq_true (isCode c) with hi | hi
  · exact h2 c (List.mem_filter.mpr ⟨hc, hi⟩)
  · simpa [hi] using h
set_option maxRecDepth 65536 in
theorem w_c0 : (Jvm.Cond.code x code maxLocals ret).before args0 about1 = true := code_word (m := ⟨1, 1⟩) (meth := k1m1) (c := k1c1) (by decide +kernel) rfl rfl rfl (by decide +kernel)
set_option maxRecDepth 65536 in
theorem w_c1 : (Jvm.Cond.code ({ cls := "com/example/topicweave/topicweave/core/NodePairs", name := "<init>", desc := "(I)V" } : Jvm.MethodName) prog_12_method_1_code (3 : Nat) (Option.none : Option Jvm.ClassFile.FieldType)).before args0 about1 = true := code_word (m := ⟨2, 0⟩) (meth := k2m0) (c := k2c0) (by decide +kernel) rfl rfl rfl (by decide +kernel)
set_option maxRecDepth 65536 in
theorem w_c2 : (Jvm.Cond.code ({ cls := "java/lang/Object", name := "<init>", desc := "()V" } : Jvm.MethodName) object_method_1_code (1 : Nat) (Option.none : Option Jvm.ClassFile.FieldType)).before args0 about1 = true := code_word (m := ⟨0, 0⟩) (meth := k0m0) (c := k0c0) (by decide +kernel) rfl rfl rfl (by decide +kernel)
set_option maxRecDepth 65536 in
theorem w_c3 : (Jvm.Cond.code ({ cls := "com/example/topicweave/topicweave/core/NodePairs", name := "partners", desc := "([I)[I" } : Jvm.MethodName) prog_12_method_7_code (7 : Nat) (Option.some (Jvm.ClassFile.FieldType.array Jvm.ClassFile.FieldType.int))).before args0 about1 = true := code_word (m := ⟨2, 1⟩) (meth := k2m1) (c := k2c1) (by decide +kernel) rfl rfl rfl (by decide +kernel)
def codes1 : List Jvm.Cond := [Jvm.Cond.code x code maxLocals ret, Jvm.Cond.code ({ cls := "com/example/topicweave/topicweave/core/NodePairs", name := "<init>", desc := "(I)V" } : Jvm.MethodName) prog_12_method_1_code (3 : Nat) (Option.none : Option Jvm.ClassFile.FieldType), Jvm.Cond.code ({ cls := "java/lang/Object", name := "<init>", desc := "()V" } : Jvm.MethodName) object_method_1_code (1 : Nat) (Option.none : Option Jvm.ClassFile.FieldType), Jvm.Cond.code ({ cls := "com/example/topicweave/topicweave/core/NodePairs", name := "partners", desc := "([I)[I" } : Jvm.MethodName) prog_12_method_7_code (7 : Nat) (Option.some (Jvm.ClassFile.FieldType.array Jvm.ClassFile.FieldType.int))]
set_option maxRecDepth 65536 in
theorem codes_eq : words1.filter isCode = codes1 := rfl
theorem w_codes : ∀ c ∈ words1.filter isCode, c.before args0 about1 = true := by
  rw [codes_eq]
  intro c hc
  simp only [codes1, List.mem_cons, List.not_mem_nil, or_false] at hc
  rcases hc with rfl | rfl | rfl | rfl
  · exact w_c0
  · exact w_c1
  · exact w_c2
  · exact w_c3
set_option maxRecDepth 65536 in
theorem w_t1 : words1.all (fun c => isCode c || c.before args0 about1) = true := by decide +kernel
theorem w_tables : (allAtoms (Jvm.Cond.code x code maxLocals ret :: tables_1)).before args0 about1 = true := by
  rw [allAtoms_all]
  show words1.all (fun c => c.before args0 about1) = true
  refine all_split ?_ w_codes
  rw [w_t1]
set_option maxRecDepth 65536 in
theorem w_case : (Jvm.Cond.and given_1 narrow_1).before args0 about1 = true := by decide +kernel
theorem w_applies : (headSpec (Jvm.Cond.code x code maxLocals ret :: tables_1) room_1).applies x e0.platform about1 = true :=
  (Spec.applies_iff w_frames).mpr ⟨w_running, w_runnable, w_alone, w_named, w_hears, w_ripe, w_room, w_tables⟩
theorem atStart : AtStart classFile x code maxLocals ret World_1 tables_1 room_1 Calls_1 rest_1 Pre_1 launch0 p0 e0 about1 theMethod args0 below0 :=
  ⟨lists_1, trivial, launch0.admits_env _ _ _, launch0.least_env, fairChoices_fair.cas, fairChoices_fair.clock, w_frames, w_args, w_heap, w_applies, trivial, trivial, w_case⟩
end start1
theorem witness_1 : WitnessClaimed_1 := ⟨start1.p0, start1.e0, start1.about1, start1.theMethod, start1.args0, start1.below0, start1.atStart⟩
end Jvm.Pilot.@@N@@
