import JvmDerived
import JvmDerived.Pilot.@@N@@Statement
import JvmDerived.Pilot.@@N@@Code
set_option linter.unusedVariables false
set_option linter.unusedSimpArgs false
@@BLOCK:NumsL.lean.txt@@
namespace Jvm.Pilot.@@N@@
open Jvm Jvm.ClassFile Sem Op Lib Jvm.Free Jvm.Stand Jvm.LawKit Jvm.RoadKit Bundle Jvm.Pilot.@@N@@.Jvm.D
section Kit
variable {p : Program} {l : Launch} {e : Env} {R : Room} {s : State} {m : MethodId} {args : Array Value} {below : List Frame} {meth : Method} {c : Code} {T : State} {locs : List Loc} {cells slots : Nat} {Z : State} {a0 : Array Value} {h : Heap}
variable {Q : Option Value → Heap → List Loc → Prop} {C S : Nat} {pc pc' : Nat} {Ls Ls' : Array Slot} {rest : List Value}
/-- the goal of a walk: from the state σ the run comes to its end, which is as Q says -/
def Go (p : Program) (e : Env) (below : List Frame) (s : State) (Q : Option Value → Heap → List Loc → Prop) (C S : Nat) (σ : State) : Prop :=
  ∃ s₂ o, Steps p.tables e below σ s₂ ∧ s₂.status = .running ∧ Ended s₂ below o ∧ ∃ v L, o = .returned v ∧ Q v s₂.heap L ∧ FrameEnd s o s₂ L C S
theorem Go.step {σ τ : State} (st : ∀ t, Steps p.tables e below τ t → Steps p.tables e below σ t) (k : Go p e below s Q C S τ) : Go p e below s Q C S σ := by
  obtain ⟨s₂, o, h1, h2⟩ := k
  exact ⟨s₂, o, st _ h1, h2⟩
theorem Go.mono {Q' : Option Value → Heap → List Loc → Prop} {σ : State} (k : Go p e below s Q C S σ) (hq : ∀ v h L, Q v h L → Q' v h L) : Go p e below s Q' C S σ := by
  obtain ⟨s₂, o, h1, h2, h3, v, L, h4, h5, h6⟩ := k
  exact ⟨s₂, o, h1, h2, h3, v, L, h4, hq _ _ _ h5, h6⟩
/-- a join: the road behind it is walked once -/
theorem w_j1 {A0 : Type} {σ : State} (F : A0 → State) (P : A0 → Prop) (hJ : ∀ a0, P a0 → Go p e below s Q C S (F a0)) (hB : (∀ a0, P a0 → Go p e below s Q C S (F a0)) → Go p e below s Q C S σ) : Go p e below s Q C S σ := hB hJ
theorem w_j2 {A0 A1 : Type} {σ : State} (F : A0 → A1 → State) (P : A0 → A1 → Prop) (hJ : ∀ a0 a1, P a0 a1 → Go p e below s Q C S (F a0 a1)) (hB : (∀ a0 a1, P a0 a1 → Go p e below s Q C S (F a0 a1)) → Go p e below s Q C S σ) : Go p e below s Q C S σ := hB hJ
theorem w_j3 {A0 A1 A2 : Type} {σ : State} (F : A0 → A1 → A2 → State) (P : A0 → A1 → A2 → Prop) (hJ : ∀ a0 a1 a2, P a0 a1 a2 → Go p e below s Q C S (F a0 a1 a2)) (hB : (∀ a0 a1 a2, P a0 a1 a2 → Go p e below s Q C S (F a0 a1 a2)) → Go p e below s Q C S σ) : Go p e below s Q C S σ := hB hJ
theorem w_j4 {A0 A1 A2 A3 : Type} {σ : State} (F : A0 → A1 → A2 → A3 → State) (P : A0 → A1 → A2 → A3 → Prop) (hJ : ∀ a0 a1 a2 a3, P a0 a1 a2 a3 → Go p e below s Q C S (F a0 a1 a2 a3)) (hB : (∀ a0 a1 a2 a3, P a0 a1 a2 a3 → Go p e below s Q C S (F a0 a1 a2 a3)) → Go p e below s Q C S σ) : Go p e below s Q C S σ := hB hJ
theorem w_j5 {A0 A1 A2 A3 A4 : Type} {σ : State} (F : A0 → A1 → A2 → A3 → A4 → State) (P : A0 → A1 → A2 → A3 → A4 → Prop) (hJ : ∀ a0 a1 a2 a3 a4, P a0 a1 a2 a3 a4 → Go p e below s Q C S (F a0 a1 a2 a3 a4)) (hB : (∀ a0 a1 a2 a3 a4, P a0 a1 a2 a3 a4 → Go p e below s Q C S (F a0 a1 a2 a3 a4)) → Go p e below s Q C S σ) : Go p e below s Q C S σ := hB hJ
theorem w_j6 {A0 A1 A2 A3 A4 A5 : Type} {σ : State} (F : A0 → A1 → A2 → A3 → A4 → A5 → State) (P : A0 → A1 → A2 → A3 → A4 → A5 → Prop) (hJ : ∀ a0 a1 a2 a3 a4 a5, P a0 a1 a2 a3 a4 a5 → Go p e below s Q C S (F a0 a1 a2 a3 a4 a5)) (hB : (∀ a0 a1 a2 a3 a4 a5, P a0 a1 a2 a3 a4 a5 → Go p e below s Q C S (F a0 a1 a2 a3 a4 a5)) → Go p e below s Q C S σ) : Go p e below s Q C S σ := hB hJ
theorem w_j7 {A0 A1 A2 A3 A4 A5 A6 : Type} {σ : State} (F : A0 → A1 → A2 → A3 → A4 → A5 → A6 → State) (P : A0 → A1 → A2 → A3 → A4 → A5 → A6 → Prop) (hJ : ∀ a0 a1 a2 a3 a4 a5 a6, P a0 a1 a2 a3 a4 a5 a6 → Go p e below s Q C S (F a0 a1 a2 a3 a4 a5 a6)) (hB : (∀ a0 a1 a2 a3 a4 a5 a6, P a0 a1 a2 a3 a4 a5 a6 → Go p e below s Q C S (F a0 a1 a2 a3 a4 a5 a6)) → Go p e below s Q C S σ) : Go p e below s Q C S σ := hB hJ
theorem w_eqI {x z : Int32} (hz : x = z) (k : Go p e below s Q C S (T.setTop (mkF m pc Ls (.int z :: rest)))) : Go p e below s Q C S (T.setTop (mkF m pc Ls (.int x :: rest))) := hz ▸ k
theorem w_eqJ {x z : Int64} (hz : x = z) (k : Go p e below s Q C S (T.setTop (mkF m pc Ls (.long z :: rest)))) : Go p e below s Q C S (T.setTop (mkF m pc Ls (.long x :: rest))) := hz ▸ k
def Dc (code : ByteArray) (pc : Nat) (i : Instr) (n pc' : Nat) : Prop := decode code pc = .ok (i, n) ∧ pc + n = pc'
def Dj (code : ByteArray) (pc : Nat) (i : Instr) (o : Int) (pcT pcF : Nat) : Prop := decode code pc = .ok (i, 3) ∧ 0 ≤ (pc : Int) + o ∧ ((pc : Int) + o).toNat = pcT ∧ pc + 3 = pcF
theorem dq {code : ByteArray} {i : Instr} {n : Nat} (hq : c.code = code) (d : Dc code pc i n pc') : Dc c.code pc i n pc' := hq ▸ d
theorem dj {code : ByteArray} {i : Instr} {o : Int} {pcT pcF : Nat} (hq : c.code = code) (d : Dj code pc i o pcT pcF) : Dj c.code pc i o pcT pcF := hq ▸ d
abbrev St (p : Program) (l : Launch) (e : Env) (R : Room) (s : State) (m : MethodId) (args : Array Value) (below : List Frame) (meth : Method) (c : Code) (T : State) (locs : List Loc) (cells slots : Nat) : Prop := Stand p l e R s m args below meth c T locs cells slots
/-! loads, stores, constants -/
theorem w_iload (X : Stand p l e R s m args below meth c T locs cells slots) (hx : p.tables.exec = Jvm.exec) {n : Nat} {z : Int32} (hd : Dc c.code pc (.iload n) 2 pc') (hl : Ls[n]? = some (.val (.int z))) (k : Go p e below s Q C S (T.setTop (mkF m pc' Ls (.int z :: rest)))) : Go p e below s Q C S (T.setTop (mkF m pc Ls (rest))) := by
  obtain ⟨hd, rfl⟩ := hd; exact k.step fun _ t => XS.iload X.here hx rfl hd hl t
theorem w_iloadN (X : Stand p l e R s m args below meth c T locs cells slots) (hx : p.tables.exec = Jvm.exec) {n : Fin 4} {z : Int32} (hd : Dc c.code pc (.iload_n n) 1 pc') (hl : Ls[n.val]? = some (.val (.int z))) (k : Go p e below s Q C S (T.setTop (mkF m pc' Ls (.int z :: rest)))) : Go p e below s Q C S (T.setTop (mkF m pc Ls (rest))) := by
  obtain ⟨hd, rfl⟩ := hd; exact k.step fun _ t => XS.iloadN X.here hx rfl hd hl t
theorem w_istore (X : Stand p l e R s m args below meth c T locs cells slots) (hx : p.tables.exec = Jvm.exec) {n : Nat} {x z : Int32} (hd : Dc c.code pc (.istore n) 2 pc') (hz : z = x) (hs : storeLocals Ls n (.int z) = some Ls') (k : Go p e below s Q C S (T.setTop (mkF m pc' Ls' (rest)))) : Go p e below s Q C S (T.setTop (mkF m pc Ls (.int x :: rest))) := by
  obtain ⟨hd, rfl⟩ := hd; subst hz; exact k.step fun _ t => XS.istore X.here hx rfl hd rfl hs t
theorem w_istoreN (X : Stand p l e R s m args below meth c T locs cells slots) (hx : p.tables.exec = Jvm.exec) {n : Fin 4} {x z : Int32} (hd : Dc c.code pc (.istore_n n) 1 pc') (hz : z = x) (hs : storeLocals Ls n.val (.int z) = some Ls') (k : Go p e below s Q C S (T.setTop (mkF m pc' Ls' (rest)))) : Go p e below s Q C S (T.setTop (mkF m pc Ls (.int x :: rest))) := by
  obtain ⟨hd, rfl⟩ := hd; subst hz; exact k.step fun _ t => XS.istoreN X.here hx rfl hd rfl hs t
theorem w_lload (X : Stand p l e R s m args below meth c T locs cells slots) (hx : p.tables.exec = Jvm.exec) {n : Nat} {z : Int64} (hd : Dc c.code pc (.lload n) 2 pc') (hl : Ls[n]? = some (.val (.long z))) (k : Go p e below s Q C S (T.setTop (mkF m pc' Ls (.long z :: rest)))) : Go p e below s Q C S (T.setTop (mkF m pc Ls (rest))) := by
  obtain ⟨hd, rfl⟩ := hd; exact k.step fun _ t => XS.lload X.here hx rfl hd hl t
theorem w_lloadN (X : Stand p l e R s m args below meth c T locs cells slots) (hx : p.tables.exec = Jvm.exec) {n : Fin 4} {z : Int64} (hd : Dc c.code pc (.lload_n n) 1 pc') (hl : Ls[n.val]? = some (.val (.long z))) (k : Go p e below s Q C S (T.setTop (mkF m pc' Ls (.long z :: rest)))) : Go p e below s Q C S (T.setTop (mkF m pc Ls (rest))) := by
  obtain ⟨hd, rfl⟩ := hd; exact k.step fun _ t => XS.lloadN X.here hx rfl hd hl t
theorem w_lstore (X : Stand p l e R s m args below meth c T locs cells slots) (hx : p.tables.exec = Jvm.exec) {n : Nat} {x z : Int64} (hd : Dc c.code pc (.lstore n) 2 pc') (hz : z = x) (hs : storeLocals Ls n (.long z) = some Ls') (k : Go p e below s Q C S (T.setTop (mkF m pc' Ls' (rest)))) : Go p e below s Q C S (T.setTop (mkF m pc Ls (.long x :: rest))) := by
  obtain ⟨hd, rfl⟩ := hd; subst hz; exact k.step fun _ t => XS.lstore X.here hx rfl hd rfl hs t
theorem w_lstoreN (X : Stand p l e R s m args below meth c T locs cells slots) (hx : p.tables.exec = Jvm.exec) {n : Fin 4} {x z : Int64} (hd : Dc c.code pc (.lstore_n n) 1 pc') (hz : z = x) (hs : storeLocals Ls n.val (.long z) = some Ls') (k : Go p e below s Q C S (T.setTop (mkF m pc' Ls' (rest)))) : Go p e below s Q C S (T.setTop (mkF m pc Ls (.long x :: rest))) := by
  obtain ⟨hd, rfl⟩ := hd; subst hz; exact k.step fun _ t => XS.lstoreN X.here hx rfl hd rfl hs t
theorem w_aload (X : Stand p l e R s m args below meth c T locs cells slots) (hx : p.tables.exec = Jvm.exec) {n : Nat} {v : Value} (hd : Dc c.code pc (.aload n) 2 pc') (hl : Ls[n]? = some (.val v)) (hv : v.isRef = true) (k : Go p e below s Q C S (T.setTop (mkF m pc' Ls (v :: rest)))) : Go p e below s Q C S (T.setTop (mkF m pc Ls (rest))) := by
  obtain ⟨hd, rfl⟩ := hd; exact k.step fun _ t => XS.aload X.here hx rfl hd hl hv t
theorem w_aloadN (X : Stand p l e R s m args below meth c T locs cells slots) (hx : p.tables.exec = Jvm.exec) {n : Fin 4} {v : Value} (hd : Dc c.code pc (.aload_n n) 1 pc') (hl : Ls[n.val]? = some (.val v)) (hv : v.isRef = true) (k : Go p e below s Q C S (T.setTop (mkF m pc' Ls (v :: rest)))) : Go p e below s Q C S (T.setTop (mkF m pc Ls (rest))) := by
  obtain ⟨hd, rfl⟩ := hd; exact k.step fun _ t => XS.aloadN X.here hx rfl hd hl hv t
theorem w_astore (X : Stand p l e R s m args below meth c T locs cells slots) (hx : p.tables.exec = Jvm.exec) {n : Nat} {v : Value} (hd : Dc c.code pc (.astore n) 2 pc') (hv : v.isRef = true) (hs : storeLocals Ls n v = some Ls') (k : Go p e below s Q C S (T.setTop (mkF m pc' Ls' (rest)))) : Go p e below s Q C S (T.setTop (mkF m pc Ls (v :: rest))) := by
  obtain ⟨hd, rfl⟩ := hd; exact k.step fun _ t => XS.astore X.here hx rfl hd rfl hv hs t
theorem w_astoreN (X : Stand p l e R s m args below meth c T locs cells slots) (hx : p.tables.exec = Jvm.exec) {n : Fin 4} {v : Value} (hd : Dc c.code pc (.astore_n n) 1 pc') (hv : v.isRef = true) (hs : storeLocals Ls n.val v = some Ls') (k : Go p e below s Q C S (T.setTop (mkF m pc' Ls' (rest)))) : Go p e below s Q C S (T.setTop (mkF m pc Ls (v :: rest))) := by
  obtain ⟨hd, rfl⟩ := hd; exact k.step fun _ t => XS.astoreN X.here hx rfl hd rfl hv hs t
theorem w_iconst (X : Stand p l e R s m args below meth c T locs cells slots) (hx : p.tables.exec = Jvm.exec) {i : Int} {z : Int32} (hd : Dc c.code pc (.iconst i) 1 pc') (hz : Int32.ofInt i = z) (k : Go p e below s Q C S (T.setTop (mkF m pc' Ls (.int z :: rest)))) : Go p e below s Q C S (T.setTop (mkF m pc Ls rest)) := by
  obtain ⟨hd, rfl⟩ := hd; subst hz; exact k.step fun _ t => XS.iconst X.here hx rfl hd t
theorem w_bipush (X : Stand p l e R s m args below meth c T locs cells slots) (hx : p.tables.exec = Jvm.exec) {i : Int} {z : Int32} (hd : Dc c.code pc (.bipush i) 2 pc') (hz : (Int8.ofInt i).toInt32 = z) (k : Go p e below s Q C S (T.setTop (mkF m pc' Ls (.int z :: rest)))) : Go p e below s Q C S (T.setTop (mkF m pc Ls rest)) := by
  obtain ⟨hd, rfl⟩ := hd; subst hz; exact k.step fun _ t => XS.bipush X.here hx rfl hd t
theorem w_sipush (X : Stand p l e R s m args below meth c T locs cells slots) (hx : p.tables.exec = Jvm.exec) {i : Int} {z : Int32} (hd : Dc c.code pc (.sipush i) 3 pc') (hz : (Int16.ofInt i).toInt32 = z) (k : Go p e below s Q C S (T.setTop (mkF m pc' Ls (.int z :: rest)))) : Go p e below s Q C S (T.setTop (mkF m pc Ls rest)) := by
  obtain ⟨hd, rfl⟩ := hd; subst hz; exact k.step fun _ t => XS.sipush X.here hx rfl hd t
theorem w_lconst (X : Stand p l e R s m args below meth c T locs cells slots) (hx : p.tables.exec = Jvm.exec) {i : Fin 2} {z : Int64} (hd : Dc c.code pc (.lconst i) 1 pc') (hz : Int64.ofNat i = z) (k : Go p e below s Q C S (T.setTop (mkF m pc' Ls (.long z :: rest)))) : Go p e below s Q C S (T.setTop (mkF m pc Ls rest)) := by
  obtain ⟨hd, rfl⟩ := hd; subst hz; exact k.step fun _ t => XS.lconst X.here hx rfl hd t
theorem w_null (X : Stand p l e R s m args below meth c T locs cells slots) (hx : p.tables.exec = Jvm.exec) (hd : Dc c.code pc .aconst_null 1 pc') (k : Go p e below s Q C S (T.setTop (mkF m pc' Ls (.null :: rest)))) : Go p e below s Q C S (T.setTop (mkF m pc Ls rest)) := by
  obtain ⟨hd, rfl⟩ := hd; exact k.step fun _ t => XS.aconstNull X.here hx rfl hd t
theorem w_ldc (X : Stand p l e R s m args below meth c T locs cells slots) (hx : p.tables.exec = Jvm.exec) (hZ : Z.Warmed39 s.vm) {own : String} {index : Nat} {z : Int32} (hown : s.vm.findClass own = some m.cls) (w : (Jvm.Cond.constant own index z).before a0 Z = true) (hd : Dc c.code pc (.ldc index) 2 pc') (k : Go p e below s Q C S (T.setTop (mkF m pc' Ls (.int z :: rest)))) : Go p e below s Q C S (T.setTop (mkF m pc Ls rest)) := by
  obtain ⟨hd, rfl⟩ := hd; exact k.step fun t q => X.ldcInt hx hown (mvT hZ w) (g := mkF m pc Ls rest) rfl hd t q
theorem w_ldcw (X : Stand p l e R s m args below meth c T locs cells slots) (hx : p.tables.exec = Jvm.exec) (hZ : Z.Warmed39 s.vm) {own : String} {index : Nat} {z : Int32} (hown : s.vm.findClass own = some m.cls) (w : (Jvm.Cond.constant own index z).before a0 Z = true) (hd : Dc c.code pc (.ldc_w index) 3 pc') (k : Go p e below s Q C S (T.setTop (mkF m pc' Ls (.int z :: rest)))) : Go p e below s Q C S (T.setTop (mkF m pc Ls rest)) := by
  obtain ⟨hd, rfl⟩ := hd; exact k.step fun t q => X.ldcwInt hx hown (mvT hZ w) (g := mkF m pc Ls rest) rfl hd t q
theorem w_ldc2 (X : Stand p l e R s m args below meth c T locs cells slots) (hx : p.tables.exec = Jvm.exec) (hZ : Z.Warmed39 s.vm) {own : String} {index : Nat} {z : Int64} (hown : s.vm.findClass own = some m.cls) (w : (Jvm.Cond.constantLong own index z).before a0 Z = true) (hd : Dc c.code pc (.ldc2_w index) 3 pc') (k : Go p e below s Q C S (T.setTop (mkF m pc' Ls (.long z :: rest)))) : Go p e below s Q C S (T.setTop (mkF m pc Ls rest)) := by
  obtain ⟨hd, rfl⟩ := hd; exact k.step fun t q => X.ldc2Long hx hown (mvT hZ w) (g := mkF m pc Ls rest) rfl hd t q
theorem w_iinc (X : Stand p l e R s m args below meth c T locs cells slots) (hx : p.tables.exec = Jvm.exec) {n : Nat} {i : Int} {x z : Int32} (hd : Dc c.code pc (.iinc n i) 3 pc') (hl : Ls[n]? = some (.val (.int x))) (hz : x + Int32.ofInt i = z) (hs : storeLocals Ls n (.int z) = some Ls') (k : Go p e below s Q C S (T.setTop (mkF m pc' Ls' rest))) : Go p e below s Q C S (T.setTop (mkF m pc Ls rest)) := by
  obtain ⟨hd, rfl⟩ := hd; subst hz; exact k.step fun _ t => XS.iinc X.here hx rfl hd hl hs t
/-! arithmetic -/
def IShl (x y : Int32) : Int32 := x <<< (y &&& 31)
def IShr (x y : Int32) : Int32 := x >>> (y &&& 31)
def IUshr (x y : Int32) : Int32 := (x.toUInt32 >>> (y &&& 31).toUInt32).toInt32
def LShl (x : Int64) (y : Int32) : Int64 := x <<< (y &&& 0x3f).toInt64
def LShr (x : Int64) (y : Int32) : Int64 := x >>> (y &&& 0x3f).toInt64
def LUshr (x : Int64) (y : Int32) : Int64 := (x.toUInt64 >>> (y &&& 0x3f).toInt64.toUInt64).toInt64
theorem w_iadd (X : Stand p l e R s m args below meth c T locs cells slots) (hx : p.tables.exec = Jvm.exec) {x y : Int32} (hd : Dc c.code pc .iadd 1 pc') (k : Go p e below s Q C S (T.setTop (mkF m pc' Ls (.int (x + y) :: rest)))) : Go p e below s Q C S (T.setTop (mkF m pc Ls (.int y :: .int x :: rest))) := by
  obtain ⟨hd, rfl⟩ := hd; exact k.step fun _ t => XS.iadd X.here hx rfl hd rfl t
theorem w_isub (X : Stand p l e R s m args below meth c T locs cells slots) (hx : p.tables.exec = Jvm.exec) {x y : Int32} (hd : Dc c.code pc .isub 1 pc') (k : Go p e below s Q C S (T.setTop (mkF m pc' Ls (.int (x - y) :: rest)))) : Go p e below s Q C S (T.setTop (mkF m pc Ls (.int y :: .int x :: rest))) := by
  obtain ⟨hd, rfl⟩ := hd; exact k.step fun _ t => XS.isub X.here hx rfl hd rfl t
theorem w_imul (X : Stand p l e R s m args below meth c T locs cells slots) (hx : p.tables.exec = Jvm.exec) {x y : Int32} (hd : Dc c.code pc .imul 1 pc') (k : Go p e below s Q C S (T.setTop (mkF m pc' Ls (.int (x * y) :: rest)))) : Go p e below s Q C S (T.setTop (mkF m pc Ls (.int y :: .int x :: rest))) := by
  obtain ⟨hd, rfl⟩ := hd; exact k.step fun _ t => XS.imul X.here hx rfl hd rfl t
theorem w_iand (X : Stand p l e R s m args below meth c T locs cells slots) (hx : p.tables.exec = Jvm.exec) {x y : Int32} (hd : Dc c.code pc .iand 1 pc') (k : Go p e below s Q C S (T.setTop (mkF m pc' Ls (.int (x &&& y) :: rest)))) : Go p e below s Q C S (T.setTop (mkF m pc Ls (.int y :: .int x :: rest))) := by
  obtain ⟨hd, rfl⟩ := hd; exact k.step fun _ t => XS.iand X.here hx rfl hd rfl t
theorem w_ior (X : Stand p l e R s m args below meth c T locs cells slots) (hx : p.tables.exec = Jvm.exec) {x y : Int32} (hd : Dc c.code pc .ior 1 pc') (k : Go p e below s Q C S (T.setTop (mkF m pc' Ls (.int (x ||| y) :: rest)))) : Go p e below s Q C S (T.setTop (mkF m pc Ls (.int y :: .int x :: rest))) := by
  obtain ⟨hd, rfl⟩ := hd; exact k.step fun _ t => XS.ior X.here hx rfl hd rfl t
theorem w_ixor (X : Stand p l e R s m args below meth c T locs cells slots) (hx : p.tables.exec = Jvm.exec) {x y : Int32} (hd : Dc c.code pc .ixor 1 pc') (k : Go p e below s Q C S (T.setTop (mkF m pc' Ls (.int (x ^^^ y) :: rest)))) : Go p e below s Q C S (T.setTop (mkF m pc Ls (.int y :: .int x :: rest))) := by
  obtain ⟨hd, rfl⟩ := hd; exact k.step fun _ t => XS.ixor X.here hx rfl hd rfl t
theorem w_ishl (X : Stand p l e R s m args below meth c T locs cells slots) (hx : p.tables.exec = Jvm.exec) {x : Int32} {y : Int32} (hd : Dc c.code pc .ishl 1 pc') (k : Go p e below s Q C S (T.setTop (mkF m pc' Ls (.int (IShl x y) :: rest)))) : Go p e below s Q C S (T.setTop (mkF m pc Ls (.int y :: .int x :: rest))) := by
  obtain ⟨hd, rfl⟩ := hd; exact k.step fun _ t => XS.ishl X.here hx rfl hd rfl t
theorem w_ishr (X : Stand p l e R s m args below meth c T locs cells slots) (hx : p.tables.exec = Jvm.exec) {x : Int32} {y : Int32} (hd : Dc c.code pc .ishr 1 pc') (k : Go p e below s Q C S (T.setTop (mkF m pc' Ls (.int (IShr x y) :: rest)))) : Go p e below s Q C S (T.setTop (mkF m pc Ls (.int y :: .int x :: rest))) := by
  obtain ⟨hd, rfl⟩ := hd; exact k.step fun _ t => XS.ishr X.here hx rfl hd rfl t
theorem w_iushr (X : Stand p l e R s m args below meth c T locs cells slots) (hx : p.tables.exec = Jvm.exec) {x : Int32} {y : Int32} (hd : Dc c.code pc .iushr 1 pc') (k : Go p e below s Q C S (T.setTop (mkF m pc' Ls (.int (IUshr x y) :: rest)))) : Go p e below s Q C S (T.setTop (mkF m pc Ls (.int y :: .int x :: rest))) := by
  obtain ⟨hd, rfl⟩ := hd; exact k.step fun _ t => XS.iushr X.here hx rfl hd rfl t
theorem w_ladd (X : Stand p l e R s m args below meth c T locs cells slots) (hx : p.tables.exec = Jvm.exec) {x y : Int64} (hd : Dc c.code pc .ladd 1 pc') (k : Go p e below s Q C S (T.setTop (mkF m pc' Ls (.long (x + y) :: rest)))) : Go p e below s Q C S (T.setTop (mkF m pc Ls (.long y :: .long x :: rest))) := by
  obtain ⟨hd, rfl⟩ := hd; exact k.step fun _ t => XS.ladd X.here hx rfl hd rfl t
theorem w_lsub (X : Stand p l e R s m args below meth c T locs cells slots) (hx : p.tables.exec = Jvm.exec) {x y : Int64} (hd : Dc c.code pc .lsub 1 pc') (k : Go p e below s Q C S (T.setTop (mkF m pc' Ls (.long (x - y) :: rest)))) : Go p e below s Q C S (T.setTop (mkF m pc Ls (.long y :: .long x :: rest))) := by
  obtain ⟨hd, rfl⟩ := hd; exact k.step fun _ t => XS.lsub X.here hx rfl hd rfl t
theorem w_lmul (X : Stand p l e R s m args below meth c T locs cells slots) (hx : p.tables.exec = Jvm.exec) {x y : Int64} (hd : Dc c.code pc .lmul 1 pc') (k : Go p e below s Q C S (T.setTop (mkF m pc' Ls (.long (x * y) :: rest)))) : Go p e below s Q C S (T.setTop (mkF m pc Ls (.long y :: .long x :: rest))) := by
  obtain ⟨hd, rfl⟩ := hd; exact k.step fun _ t => XS.lmul X.here hx rfl hd rfl t
theorem w_land (X : Stand p l e R s m args below meth c T locs cells slots) (hx : p.tables.exec = Jvm.exec) {x y : Int64} (hd : Dc c.code pc .land 1 pc') (k : Go p e below s Q C S (T.setTop (mkF m pc' Ls (.long (x &&& y) :: rest)))) : Go p e below s Q C S (T.setTop (mkF m pc Ls (.long y :: .long x :: rest))) := by
  obtain ⟨hd, rfl⟩ := hd; exact k.step fun _ t => XS.land X.here hx rfl hd rfl t
theorem w_lor (X : Stand p l e R s m args below meth c T locs cells slots) (hx : p.tables.exec = Jvm.exec) {x y : Int64} (hd : Dc c.code pc .lor 1 pc') (k : Go p e below s Q C S (T.setTop (mkF m pc' Ls (.long (x ||| y) :: rest)))) : Go p e below s Q C S (T.setTop (mkF m pc Ls (.long y :: .long x :: rest))) := by
  obtain ⟨hd, rfl⟩ := hd; exact k.step fun _ t => XS.lor X.here hx rfl hd rfl t
theorem w_lxor (X : Stand p l e R s m args below meth c T locs cells slots) (hx : p.tables.exec = Jvm.exec) {x y : Int64} (hd : Dc c.code pc .lxor 1 pc') (k : Go p e below s Q C S (T.setTop (mkF m pc' Ls (.long (x ^^^ y) :: rest)))) : Go p e below s Q C S (T.setTop (mkF m pc Ls (.long y :: .long x :: rest))) := by
  obtain ⟨hd, rfl⟩ := hd; exact k.step fun _ t => XS.lxor X.here hx rfl hd rfl t
theorem w_lshl (X : Stand p l e R s m args below meth c T locs cells slots) (hx : p.tables.exec = Jvm.exec) {x : Int64} {y : Int32} (hd : Dc c.code pc .lshl 1 pc') (k : Go p e below s Q C S (T.setTop (mkF m pc' Ls (.long (LShl x y) :: rest)))) : Go p e below s Q C S (T.setTop (mkF m pc Ls (.int y :: .long x :: rest))) := by
  obtain ⟨hd, rfl⟩ := hd; exact k.step fun _ t => XS.lshl X.here hx rfl hd rfl t
theorem w_lshr (X : Stand p l e R s m args below meth c T locs cells slots) (hx : p.tables.exec = Jvm.exec) {x : Int64} {y : Int32} (hd : Dc c.code pc .lshr 1 pc') (k : Go p e below s Q C S (T.setTop (mkF m pc' Ls (.long (LShr x y) :: rest)))) : Go p e below s Q C S (T.setTop (mkF m pc Ls (.int y :: .long x :: rest))) := by
  obtain ⟨hd, rfl⟩ := hd; exact k.step fun _ t => XS.lshr X.here hx rfl hd rfl t
theorem w_lushr (X : Stand p l e R s m args below meth c T locs cells slots) (hx : p.tables.exec = Jvm.exec) {x : Int64} {y : Int32} (hd : Dc c.code pc .lushr 1 pc') (k : Go p e below s Q C S (T.setTop (mkF m pc' Ls (.long (LUshr x y) :: rest)))) : Go p e below s Q C S (T.setTop (mkF m pc Ls (.int y :: .long x :: rest))) := by
  obtain ⟨hd, rfl⟩ := hd; exact k.step fun _ t => XS.lushr X.here hx rfl hd rfl t
theorem w_ineg (X : Stand p l e R s m args below meth c T locs cells slots) (hx : p.tables.exec = Jvm.exec) {x : Int32} (hd : Dc c.code pc .ineg 1 pc') (k : Go p e below s Q C S (T.setTop (mkF m pc' Ls (.int (-x) :: rest)))) : Go p e below s Q C S (T.setTop (mkF m pc Ls (.int x :: rest))) := by
  obtain ⟨hd, rfl⟩ := hd; exact k.step fun _ t => XS.ineg X.here hx rfl hd rfl t
theorem w_lneg (X : Stand p l e R s m args below meth c T locs cells slots) (hx : p.tables.exec = Jvm.exec) {x : Int64} (hd : Dc c.code pc .lneg 1 pc') (k : Go p e below s Q C S (T.setTop (mkF m pc' Ls (.long (-x) :: rest)))) : Go p e below s Q C S (T.setTop (mkF m pc Ls (.long x :: rest))) := by
  obtain ⟨hd, rfl⟩ := hd; exact k.step fun _ t => XS.lneg X.here hx rfl hd rfl t
theorem w_i2l (X : Stand p l e R s m args below meth c T locs cells slots) (hx : p.tables.exec = Jvm.exec) {x : Int32} (hd : Dc c.code pc .i2l 1 pc') (k : Go p e below s Q C S (T.setTop (mkF m pc' Ls (.long (x.toInt64) :: rest)))) : Go p e below s Q C S (T.setTop (mkF m pc Ls (.int x :: rest))) := by
  obtain ⟨hd, rfl⟩ := hd; exact k.step fun _ t => XS.i2l X.here hx rfl hd rfl t
theorem w_l2i (X : Stand p l e R s m args below meth c T locs cells slots) (hx : p.tables.exec = Jvm.exec) {x : Int64} (hd : Dc c.code pc .l2i 1 pc') (k : Go p e below s Q C S (T.setTop (mkF m pc' Ls (.int (x.toInt32) :: rest)))) : Go p e below s Q C S (T.setTop (mkF m pc Ls (.long x :: rest))) := by
  obtain ⟨hd, rfl⟩ := hd; exact k.step fun _ t => XS.l2i X.here hx rfl hd rfl t
theorem w_i2b (X : Stand p l e R s m args below meth c T locs cells slots) (hx : p.tables.exec = Jvm.exec) {x : Int32} (hd : Dc c.code pc .i2b 1 pc') (k : Go p e below s Q C S (T.setTop (mkF m pc' Ls (.int (x.toInt8.toInt32) :: rest)))) : Go p e below s Q C S (T.setTop (mkF m pc Ls (.int x :: rest))) := by
  obtain ⟨hd, rfl⟩ := hd; exact k.step fun _ t => XS.i2b X.here hx rfl hd rfl t
theorem w_i2c (X : Stand p l e R s m args below meth c T locs cells slots) (hx : p.tables.exec = Jvm.exec) {x : Int32} (hd : Dc c.code pc .i2c 1 pc') (k : Go p e below s Q C S (T.setTop (mkF m pc' Ls (.int (x.toUInt32.toUInt16.toUInt32.toInt32) :: rest)))) : Go p e below s Q C S (T.setTop (mkF m pc Ls (.int x :: rest))) := by
  obtain ⟨hd, rfl⟩ := hd; exact k.step fun _ t => XS.i2c X.here hx rfl hd rfl t
theorem w_i2s (X : Stand p l e R s m args below meth c T locs cells slots) (hx : p.tables.exec = Jvm.exec) {x : Int32} (hd : Dc c.code pc .i2s 1 pc') (k : Go p e below s Q C S (T.setTop (mkF m pc' Ls (.int (x.toInt16.toInt32) :: rest)))) : Go p e below s Q C S (T.setTop (mkF m pc Ls (.int x :: rest))) := by
  obtain ⟨hd, rfl⟩ := hd; exact k.step fun _ t => XS.i2s X.here hx rfl hd rfl t
theorem w_idiv (X : Stand p l e R s m args below meth c T locs cells slots) (hx : p.tables.exec = Jvm.exec) {x y : Int32} (hd : Dc c.code pc .idiv 1 pc') (hy : y ≠ 0) (k : Go p e below s Q C S (T.setTop (mkF m pc' Ls (.int (x / y) :: rest)))) : Go p e below s Q C S (T.setTop (mkF m pc Ls (.int y :: .int x :: rest))) := by
  obtain ⟨hd, rfl⟩ := hd; exact k.step fun _ t => XS.idiv X.here hx rfl hd rfl hy t
theorem w_irem (X : Stand p l e R s m args below meth c T locs cells slots) (hx : p.tables.exec = Jvm.exec) {x y : Int32} (hd : Dc c.code pc .irem 1 pc') (hy : y ≠ 0) (k : Go p e below s Q C S (T.setTop (mkF m pc' Ls (.int (x % y) :: rest)))) : Go p e below s Q C S (T.setTop (mkF m pc Ls (.int y :: .int x :: rest))) := by
  obtain ⟨hd, rfl⟩ := hd; exact k.step fun _ t => iremM X hx rfl hd rfl hy t
theorem w_ldiv (X : Stand p l e R s m args below meth c T locs cells slots) (hx : p.tables.exec = Jvm.exec) {x y : Int64} (hd : Dc c.code pc .ldiv 1 pc') (hy : y ≠ 0) (k : Go p e below s Q C S (T.setTop (mkF m pc' Ls (.long (x / y) :: rest)))) : Go p e below s Q C S (T.setTop (mkF m pc Ls (.long y :: .long x :: rest))) := by
  obtain ⟨hd, rfl⟩ := hd; exact k.step fun _ t => XS.ldiv X.here hx rfl hd rfl hy t
theorem w_dup (X : Stand p l e R s m args below meth c T locs cells slots) (hx : p.tables.exec = Jvm.exec) {v : Value} (hd : Dc c.code pc .dup 1 pc') (hc : v.category = 1) (k : Go p e below s Q C S (T.setTop (mkF m pc' Ls (v :: v :: rest)))) : Go p e below s Q C S (T.setTop (mkF m pc Ls (v :: rest))) := by
  obtain ⟨hd, rfl⟩ := hd; exact k.step fun _ t => XS.dup X.here hx rfl hd rfl hc t
theorem w_dupx1 (X : Stand p l e R s m args below meth c T locs cells slots) (hx : p.tables.exec = Jvm.exec) {v w : Value} (hd : Dc c.code pc .dup_x1 1 pc') (hc : v.category = 1) (hc' : w.category = 1) (k : Go p e below s Q C S (T.setTop (mkF m pc' Ls (v :: w :: v :: rest)))) : Go p e below s Q C S (T.setTop (mkF m pc Ls (v :: w :: rest))) := by
  obtain ⟨hd, rfl⟩ := hd; exact k.step fun _ t => XS.dupX1 X.here hx rfl hd rfl hc hc' t
theorem w_dup2 (X : Stand p l e R s m args below meth c T locs cells slots) (hx : p.tables.exec = Jvm.exec) {v w : Value} (hd : Dc c.code pc .dup2 1 pc') (hc : v.category = 1) (hc' : w.category = 1) (k : Go p e below s Q C S (T.setTop (mkF m pc' Ls (v :: w :: v :: w :: rest)))) : Go p e below s Q C S (T.setTop (mkF m pc Ls (v :: w :: rest))) := by
  obtain ⟨hd, rfl⟩ := hd; exact k.step fun _ t => XT.dup2 X.here hx rfl hd rfl hc hc' t
theorem w_dup2L (X : Stand p l e R s m args below meth c T locs cells slots) (hx : p.tables.exec = Jvm.exec) {x : Int64} (hd : Dc c.code pc .dup2 1 pc') (k : Go p e below s Q C S (T.setTop (mkF m pc' Ls (.long x :: .long x :: rest)))) : Go p e below s Q C S (T.setTop (mkF m pc Ls (.long x :: rest))) := by
  obtain ⟨hd, rfl⟩ := hd; exact k.step fun _ t => XT.dup2L X.here hx rfl hd rfl t
theorem w_pop (X : Stand p l e R s m args below meth c T locs cells slots) (hx : p.tables.exec = Jvm.exec) {v : Value} (hd : Dc c.code pc .pop 1 pc') (hc : v.category = 1) (k : Go p e below s Q C S (T.setTop (mkF m pc' Ls rest))) : Go p e below s Q C S (T.setTop (mkF m pc Ls (v :: rest))) := by
  obtain ⟨hd, rfl⟩ := hd; exact k.step fun _ t => XS.pop X.here hx rfl hd rfl hc t
/-! branches -/
theorem w_goto (X : Stand p l e R s m args below meth c T locs cells slots) (hx : p.tables.exec = Jvm.exec) {o : Int} {pcT pcF : Nat} (hd : Dj c.code pc (.goto o) o pcT pcF) (k : Go p e below s Q C S (T.setTop (mkF m pcT Ls rest))) : Go p e below s Q C S (T.setTop (mkF m pc Ls rest)) := by
  obtain ⟨hd, ho, rfl, -⟩ := hd; exact k.step fun _ t => XS.goto X.here hx rfl rfl hd ho rfl t
theorem w_icmp_eq (X : Stand p l e R s m args below meth c T locs cells slots) (hx : p.tables.exec = Jvm.exec) {o : Int} {x y : Int32} {pcT pcF : Nat} (hd : Dj c.code pc (.if_icmp .eq o) o pcT pcF) (kt : x = y → Go p e below s Q C S (T.setTop (mkF m pcT Ls (rest)))) (kf : x ≠ y → Go p e below s Q C S (T.setTop (mkF m pcF Ls (rest)))) : Go p e below s Q C S (T.setTop (mkF m pc Ls (.int y :: .int x :: rest))) := by
  obtain ⟨hd, ho, rfl, rfl⟩ := hd
  by_cases hb : x = y
  · exact (kt hb).step fun _ t => XS.icmpYes X.here hx rfl rfl hd rfl (teq hb).1 ho rfl t
  · exact (kf hb).step fun _ t => XS.icmpNo X.here hx rfl hd rfl (feq hb).1 t
theorem w_if_eq (X : Stand p l e R s m args below meth c T locs cells slots) (hx : p.tables.exec = Jvm.exec) {o : Int} {x : Int32} {pcT pcF : Nat} (hd : Dj c.code pc (.ifCond .eq o) o pcT pcF) (kt : x = 0 → Go p e below s Q C S (T.setTop (mkF m pcT Ls (rest)))) (kf : x ≠ 0 → Go p e below s Q C S (T.setTop (mkF m pcF Ls (rest)))) : Go p e below s Q C S (T.setTop (mkF m pc Ls (.int x :: rest))) := by
  obtain ⟨hd, ho, rfl, rfl⟩ := hd
  have e0 : (0 : Int32).toInt = 0 := rfl
  by_cases hb : x = (0 : Int32)
  · exact (kt hb).step fun _ t => XS.ifYes X.here hx rfl rfl hd rfl ((if0 _ _).trans (teq hb).1) ho rfl t
  · exact (kf hb).step fun _ t => XS.ifNo X.here hx rfl hd rfl ((if0 _ _).trans (feq hb).1) t
theorem w_lcmp_eq (X : Stand p l e R s m args below meth c T locs cells slots) (hx : p.tables.exec = Jvm.exec) {o : Int} {x y : Int64} {pc1 pcT pcF : Nat} (hd1 : Dc c.code pc .lcmp 1 pc1) (hd : Dj c.code pc1 (.ifCond .eq o) o pcT pcF) (kt : x = y → Go p e below s Q C S (T.setTop (mkF m pcT Ls (rest)))) (kf : x ≠ y → Go p e below s Q C S (T.setTop (mkF m pcF Ls (rest)))) : Go p e below s Q C S (T.setTop (mkF m pc Ls (.long y :: .long x :: rest))) := by
  obtain ⟨hd1, rfl⟩ := hd1
  refine Go.step (fun _ t => XS.lcmp X.here hx rfl hd1 rfl t) ?_
  exact w_if_eq X hx hd (fun q => kt ((lw_eq x y).mp q)) (fun q => kf (fun r => q ((lw_eq x y).mpr r)))
theorem w_icmp_ne (X : Stand p l e R s m args below meth c T locs cells slots) (hx : p.tables.exec = Jvm.exec) {o : Int} {x y : Int32} {pcT pcF : Nat} (hd : Dj c.code pc (.if_icmp .ne o) o pcT pcF) (kt : x ≠ y → Go p e below s Q C S (T.setTop (mkF m pcT Ls (rest)))) (kf : x = y → Go p e below s Q C S (T.setTop (mkF m pcF Ls (rest)))) : Go p e below s Q C S (T.setTop (mkF m pc Ls (.int y :: .int x :: rest))) := by
  obtain ⟨hd, ho, rfl, rfl⟩ := hd
  by_cases hb : x = y
  · exact (kf hb).step fun _ t => XS.icmpNo X.here hx rfl hd rfl (teq hb).2 t
  · exact (kt hb).step fun _ t => XS.icmpYes X.here hx rfl rfl hd rfl (feq hb).2 ho rfl t
theorem w_if_ne (X : Stand p l e R s m args below meth c T locs cells slots) (hx : p.tables.exec = Jvm.exec) {o : Int} {x : Int32} {pcT pcF : Nat} (hd : Dj c.code pc (.ifCond .ne o) o pcT pcF) (kt : x ≠ 0 → Go p e below s Q C S (T.setTop (mkF m pcT Ls (rest)))) (kf : x = 0 → Go p e below s Q C S (T.setTop (mkF m pcF Ls (rest)))) : Go p e below s Q C S (T.setTop (mkF m pc Ls (.int x :: rest))) := by
  obtain ⟨hd, ho, rfl, rfl⟩ := hd
  have e0 : (0 : Int32).toInt = 0 := rfl
  by_cases hb : x = (0 : Int32)
  · exact (kf hb).step fun _ t => XS.ifNo X.here hx rfl hd rfl ((if0 _ _).trans (teq hb).2) t
  · exact (kt hb).step fun _ t => XS.ifYes X.here hx rfl rfl hd rfl ((if0 _ _).trans (feq hb).2) ho rfl t
theorem w_lcmp_ne (X : Stand p l e R s m args below meth c T locs cells slots) (hx : p.tables.exec = Jvm.exec) {o : Int} {x y : Int64} {pc1 pcT pcF : Nat} (hd1 : Dc c.code pc .lcmp 1 pc1) (hd : Dj c.code pc1 (.ifCond .ne o) o pcT pcF) (kt : x ≠ y → Go p e below s Q C S (T.setTop (mkF m pcT Ls (rest)))) (kf : x = y → Go p e below s Q C S (T.setTop (mkF m pcF Ls (rest)))) : Go p e below s Q C S (T.setTop (mkF m pc Ls (.long y :: .long x :: rest))) := by
  obtain ⟨hd1, rfl⟩ := hd1
  refine Go.step (fun _ t => XS.lcmp X.here hx rfl hd1 rfl t) ?_
  exact w_if_ne X hx hd (fun q => kt (fun r => q ((lw_eq x y).mpr r))) (fun q => kf ((lw_eq x y).mp q))
theorem w_icmp_lt (X : Stand p l e R s m args below meth c T locs cells slots) (hx : p.tables.exec = Jvm.exec) {o : Int} {x y : Int32} {pcT pcF : Nat} (hd : Dj c.code pc (.if_icmp .lt o) o pcT pcF) (kt : x.toInt < y.toInt → Go p e below s Q C S (T.setTop (mkF m pcT Ls (rest)))) (kf : y.toInt ≤ x.toInt → Go p e below s Q C S (T.setTop (mkF m pcF Ls (rest)))) : Go p e below s Q C S (T.setTop (mkF m pc Ls (.int y :: .int x :: rest))) := by
  obtain ⟨hd, ho, rfl, rfl⟩ := hd
  by_cases hb : x < y
  · exact (kt (Int32.lt_iff_toInt_lt.mp hb)).step fun _ t => XS.icmpYes X.here hx rfl rfl hd rfl (tlt hb).1 ho rfl t
  · exact (kf (by rw [Int32.lt_iff_toInt_lt] at hb; omega)).step fun _ t => XS.icmpNo X.here hx rfl hd rfl (flt hb).1 t
theorem w_if_lt (X : Stand p l e R s m args below meth c T locs cells slots) (hx : p.tables.exec = Jvm.exec) {o : Int} {x : Int32} {pcT pcF : Nat} (hd : Dj c.code pc (.ifCond .lt o) o pcT pcF) (kt : x.toInt < 0 → Go p e below s Q C S (T.setTop (mkF m pcT Ls (rest)))) (kf : 0 ≤ x.toInt → Go p e below s Q C S (T.setTop (mkF m pcF Ls (rest)))) : Go p e below s Q C S (T.setTop (mkF m pc Ls (.int x :: rest))) := by
  obtain ⟨hd, ho, rfl, rfl⟩ := hd
  have e0 : (0 : Int32).toInt = 0 := rfl
  by_cases hb : x < (0 : Int32)
  · exact (kt (by rw [Int32.lt_iff_toInt_lt] at hb; omega)).step fun _ t => XS.ifYes X.here hx rfl rfl hd rfl ((if0 _ _).trans (tlt hb).1) ho rfl t
  · exact (kf (by rw [Int32.lt_iff_toInt_lt] at hb; omega)).step fun _ t => XS.ifNo X.here hx rfl hd rfl ((if0 _ _).trans (flt hb).1) t
theorem w_lcmp_lt (X : Stand p l e R s m args below meth c T locs cells slots) (hx : p.tables.exec = Jvm.exec) {o : Int} {x y : Int64} {pc1 pcT pcF : Nat} (hd1 : Dc c.code pc .lcmp 1 pc1) (hd : Dj c.code pc1 (.ifCond .lt o) o pcT pcF) (kt : x.toInt < y.toInt → Go p e below s Q C S (T.setTop (mkF m pcT Ls (rest)))) (kf : y.toInt ≤ x.toInt → Go p e below s Q C S (T.setTop (mkF m pcF Ls (rest)))) : Go p e below s Q C S (T.setTop (mkF m pc Ls (.long y :: .long x :: rest))) := by
  obtain ⟨hd1, rfl⟩ := hd1
  have e0 : (0 : Int32).toInt = 0 := rfl
  have L : (lcmpW x y).toInt < 0 → x.toInt < y.toInt := fun q => by have := (lw_lt x y).mp (by rw [Int32.lt_iff_toInt_lt]; omega); rwa [Int64.lt_iff_toInt_lt] at this
  have N : 0 ≤ (lcmpW x y).toInt → y.toInt ≤ x.toInt := fun q => by
    have h1 : ¬ x < y := fun r => by have := (lw_lt x y).mpr r; rw [Int32.lt_iff_toInt_lt] at this; omega
    rw [Int64.lt_iff_toInt_lt] at h1; omega
  have M : 0 < (lcmpW x y).toInt → y.toInt < x.toInt := fun q => by have := (lw_gt x y).mp (by rw [Int32.lt_iff_toInt_lt]; omega); rwa [Int64.lt_iff_toInt_lt] at this
  have P : (lcmpW x y).toInt ≤ 0 → x.toInt ≤ y.toInt := fun q => by
    have h1 : ¬ y < x := fun r => by have := (lw_gt x y).mpr r; rw [Int32.lt_iff_toInt_lt] at this; omega
    rw [Int64.lt_iff_toInt_lt] at h1; omega
  refine Go.step (fun _ t => XS.lcmp X.here hx rfl hd1 rfl t) ?_
  exact w_if_lt X hx hd (fun q => kt (L q)) (fun q => kf (N q))
theorem w_icmp_ge (X : Stand p l e R s m args below meth c T locs cells slots) (hx : p.tables.exec = Jvm.exec) {o : Int} {x y : Int32} {pcT pcF : Nat} (hd : Dj c.code pc (.if_icmp .ge o) o pcT pcF) (kt : y.toInt ≤ x.toInt → Go p e below s Q C S (T.setTop (mkF m pcT Ls (rest)))) (kf : x.toInt < y.toInt → Go p e below s Q C S (T.setTop (mkF m pcF Ls (rest)))) : Go p e below s Q C S (T.setTop (mkF m pc Ls (.int y :: .int x :: rest))) := by
  obtain ⟨hd, ho, rfl, rfl⟩ := hd
  by_cases hb : x < y
  · exact (kf (Int32.lt_iff_toInt_lt.mp hb)).step fun _ t => XS.icmpNo X.here hx rfl hd rfl (tlt hb).2.1 t
  · exact (kt (by rw [Int32.lt_iff_toInt_lt] at hb; omega)).step fun _ t => XS.icmpYes X.here hx rfl rfl hd rfl (flt hb).2.1 ho rfl t
theorem w_if_ge (X : Stand p l e R s m args below meth c T locs cells slots) (hx : p.tables.exec = Jvm.exec) {o : Int} {x : Int32} {pcT pcF : Nat} (hd : Dj c.code pc (.ifCond .ge o) o pcT pcF) (kt : 0 ≤ x.toInt → Go p e below s Q C S (T.setTop (mkF m pcT Ls (rest)))) (kf : x.toInt < 0 → Go p e below s Q C S (T.setTop (mkF m pcF Ls (rest)))) : Go p e below s Q C S (T.setTop (mkF m pc Ls (.int x :: rest))) := by
  obtain ⟨hd, ho, rfl, rfl⟩ := hd
  have e0 : (0 : Int32).toInt = 0 := rfl
  by_cases hb : x < (0 : Int32)
  · exact (kf (by rw [Int32.lt_iff_toInt_lt] at hb; omega)).step fun _ t => XS.ifNo X.here hx rfl hd rfl ((if0 _ _).trans (tlt hb).2.1) t
  · exact (kt (by rw [Int32.lt_iff_toInt_lt] at hb; omega)).step fun _ t => XS.ifYes X.here hx rfl rfl hd rfl ((if0 _ _).trans (flt hb).2.1) ho rfl t
theorem w_lcmp_ge (X : Stand p l e R s m args below meth c T locs cells slots) (hx : p.tables.exec = Jvm.exec) {o : Int} {x y : Int64} {pc1 pcT pcF : Nat} (hd1 : Dc c.code pc .lcmp 1 pc1) (hd : Dj c.code pc1 (.ifCond .ge o) o pcT pcF) (kt : y.toInt ≤ x.toInt → Go p e below s Q C S (T.setTop (mkF m pcT Ls (rest)))) (kf : x.toInt < y.toInt → Go p e below s Q C S (T.setTop (mkF m pcF Ls (rest)))) : Go p e below s Q C S (T.setTop (mkF m pc Ls (.long y :: .long x :: rest))) := by
  obtain ⟨hd1, rfl⟩ := hd1
  have e0 : (0 : Int32).toInt = 0 := rfl
  have L : (lcmpW x y).toInt < 0 → x.toInt < y.toInt := fun q => by have := (lw_lt x y).mp (by rw [Int32.lt_iff_toInt_lt]; omega); rwa [Int64.lt_iff_toInt_lt] at this
  have N : 0 ≤ (lcmpW x y).toInt → y.toInt ≤ x.toInt := fun q => by
    have h1 : ¬ x < y := fun r => by have := (lw_lt x y).mpr r; rw [Int32.lt_iff_toInt_lt] at this; omega
    rw [Int64.lt_iff_toInt_lt] at h1; omega
  have M : 0 < (lcmpW x y).toInt → y.toInt < x.toInt := fun q => by have := (lw_gt x y).mp (by rw [Int32.lt_iff_toInt_lt]; omega); rwa [Int64.lt_iff_toInt_lt] at this
  have P : (lcmpW x y).toInt ≤ 0 → x.toInt ≤ y.toInt := fun q => by
    have h1 : ¬ y < x := fun r => by have := (lw_gt x y).mpr r; rw [Int32.lt_iff_toInt_lt] at this; omega
    rw [Int64.lt_iff_toInt_lt] at h1; omega
  refine Go.step (fun _ t => XS.lcmp X.here hx rfl hd1 rfl t) ?_
  exact w_if_ge X hx hd (fun q => kt (N q)) (fun q => kf (L q))
theorem w_icmp_gt (X : Stand p l e R s m args below meth c T locs cells slots) (hx : p.tables.exec = Jvm.exec) {o : Int} {x y : Int32} {pcT pcF : Nat} (hd : Dj c.code pc (.if_icmp .gt o) o pcT pcF) (kt : y.toInt < x.toInt → Go p e below s Q C S (T.setTop (mkF m pcT Ls (rest)))) (kf : x.toInt ≤ y.toInt → Go p e below s Q C S (T.setTop (mkF m pcF Ls (rest)))) : Go p e below s Q C S (T.setTop (mkF m pc Ls (.int y :: .int x :: rest))) := by
  obtain ⟨hd, ho, rfl, rfl⟩ := hd
  by_cases hb : y < x
  · exact (kt (Int32.lt_iff_toInt_lt.mp hb)).step fun _ t => XS.icmpYes X.here hx rfl rfl hd rfl (tlt hb).2.2.1 ho rfl t
  · exact (kf (by rw [Int32.lt_iff_toInt_lt] at hb; omega)).step fun _ t => XS.icmpNo X.here hx rfl hd rfl (flt hb).2.2.1 t
theorem w_if_gt (X : Stand p l e R s m args below meth c T locs cells slots) (hx : p.tables.exec = Jvm.exec) {o : Int} {x : Int32} {pcT pcF : Nat} (hd : Dj c.code pc (.ifCond .gt o) o pcT pcF) (kt : 0 < x.toInt → Go p e below s Q C S (T.setTop (mkF m pcT Ls (rest)))) (kf : x.toInt ≤ 0 → Go p e below s Q C S (T.setTop (mkF m pcF Ls (rest)))) : Go p e below s Q C S (T.setTop (mkF m pc Ls (.int x :: rest))) := by
  obtain ⟨hd, ho, rfl, rfl⟩ := hd
  have e0 : (0 : Int32).toInt = 0 := rfl
  by_cases hb : (0 : Int32) < x
  · exact (kt (by rw [Int32.lt_iff_toInt_lt] at hb; omega)).step fun _ t => XS.ifYes X.here hx rfl rfl hd rfl ((if0 _ _).trans (tlt hb).2.2.1) ho rfl t
  · exact (kf (by rw [Int32.lt_iff_toInt_lt] at hb; omega)).step fun _ t => XS.ifNo X.here hx rfl hd rfl ((if0 _ _).trans (flt hb).2.2.1) t
theorem w_lcmp_gt (X : Stand p l e R s m args below meth c T locs cells slots) (hx : p.tables.exec = Jvm.exec) {o : Int} {x y : Int64} {pc1 pcT pcF : Nat} (hd1 : Dc c.code pc .lcmp 1 pc1) (hd : Dj c.code pc1 (.ifCond .gt o) o pcT pcF) (kt : y.toInt < x.toInt → Go p e below s Q C S (T.setTop (mkF m pcT Ls (rest)))) (kf : x.toInt ≤ y.toInt → Go p e below s Q C S (T.setTop (mkF m pcF Ls (rest)))) : Go p e below s Q C S (T.setTop (mkF m pc Ls (.long y :: .long x :: rest))) := by
  obtain ⟨hd1, rfl⟩ := hd1
  have e0 : (0 : Int32).toInt = 0 := rfl
  have L : (lcmpW x y).toInt < 0 → x.toInt < y.toInt := fun q => by have := (lw_lt x y).mp (by rw [Int32.lt_iff_toInt_lt]; omega); rwa [Int64.lt_iff_toInt_lt] at this
  have N : 0 ≤ (lcmpW x y).toInt → y.toInt ≤ x.toInt := fun q => by
    have h1 : ¬ x < y := fun r => by have := (lw_lt x y).mpr r; rw [Int32.lt_iff_toInt_lt] at this; omega
    rw [Int64.lt_iff_toInt_lt] at h1; omega
  have M : 0 < (lcmpW x y).toInt → y.toInt < x.toInt := fun q => by have := (lw_gt x y).mp (by rw [Int32.lt_iff_toInt_lt]; omega); rwa [Int64.lt_iff_toInt_lt] at this
  have P : (lcmpW x y).toInt ≤ 0 → x.toInt ≤ y.toInt := fun q => by
    have h1 : ¬ y < x := fun r => by have := (lw_gt x y).mpr r; rw [Int32.lt_iff_toInt_lt] at this; omega
    rw [Int64.lt_iff_toInt_lt] at h1; omega
  refine Go.step (fun _ t => XS.lcmp X.here hx rfl hd1 rfl t) ?_
  exact w_if_gt X hx hd (fun q => kt (M q)) (fun q => kf (P q))
theorem w_icmp_le (X : Stand p l e R s m args below meth c T locs cells slots) (hx : p.tables.exec = Jvm.exec) {o : Int} {x y : Int32} {pcT pcF : Nat} (hd : Dj c.code pc (.if_icmp .le o) o pcT pcF) (kt : x.toInt ≤ y.toInt → Go p e below s Q C S (T.setTop (mkF m pcT Ls (rest)))) (kf : y.toInt < x.toInt → Go p e below s Q C S (T.setTop (mkF m pcF Ls (rest)))) : Go p e below s Q C S (T.setTop (mkF m pc Ls (.int y :: .int x :: rest))) := by
  obtain ⟨hd, ho, rfl, rfl⟩ := hd
  by_cases hb : y < x
  · exact (kf (Int32.lt_iff_toInt_lt.mp hb)).step fun _ t => XS.icmpNo X.here hx rfl hd rfl (tlt hb).2.2.2 t
  · exact (kt (by rw [Int32.lt_iff_toInt_lt] at hb; omega)).step fun _ t => XS.icmpYes X.here hx rfl rfl hd rfl (flt hb).2.2.2 ho rfl t
theorem w_if_le (X : Stand p l e R s m args below meth c T locs cells slots) (hx : p.tables.exec = Jvm.exec) {o : Int} {x : Int32} {pcT pcF : Nat} (hd : Dj c.code pc (.ifCond .le o) o pcT pcF) (kt : x.toInt ≤ 0 → Go p e below s Q C S (T.setTop (mkF m pcT Ls (rest)))) (kf : 0 < x.toInt → Go p e below s Q C S (T.setTop (mkF m pcF Ls (rest)))) : Go p e below s Q C S (T.setTop (mkF m pc Ls (.int x :: rest))) := by
  obtain ⟨hd, ho, rfl, rfl⟩ := hd
  have e0 : (0 : Int32).toInt = 0 := rfl
  by_cases hb : (0 : Int32) < x
  · exact (kf (by rw [Int32.lt_iff_toInt_lt] at hb; omega)).step fun _ t => XS.ifNo X.here hx rfl hd rfl ((if0 _ _).trans (tlt hb).2.2.2) t
  · exact (kt (by rw [Int32.lt_iff_toInt_lt] at hb; omega)).step fun _ t => XS.ifYes X.here hx rfl rfl hd rfl ((if0 _ _).trans (flt hb).2.2.2) ho rfl t
theorem w_lcmp_le (X : Stand p l e R s m args below meth c T locs cells slots) (hx : p.tables.exec = Jvm.exec) {o : Int} {x y : Int64} {pc1 pcT pcF : Nat} (hd1 : Dc c.code pc .lcmp 1 pc1) (hd : Dj c.code pc1 (.ifCond .le o) o pcT pcF) (kt : x.toInt ≤ y.toInt → Go p e below s Q C S (T.setTop (mkF m pcT Ls (rest)))) (kf : y.toInt < x.toInt → Go p e below s Q C S (T.setTop (mkF m pcF Ls (rest)))) : Go p e below s Q C S (T.setTop (mkF m pc Ls (.long y :: .long x :: rest))) := by
  obtain ⟨hd1, rfl⟩ := hd1
  have e0 : (0 : Int32).toInt = 0 := rfl
  have L : (lcmpW x y).toInt < 0 → x.toInt < y.toInt := fun q => by have := (lw_lt x y).mp (by rw [Int32.lt_iff_toInt_lt]; omega); rwa [Int64.lt_iff_toInt_lt] at this
  have N : 0 ≤ (lcmpW x y).toInt → y.toInt ≤ x.toInt := fun q => by
    have h1 : ¬ x < y := fun r => by have := (lw_lt x y).mpr r; rw [Int32.lt_iff_toInt_lt] at this; omega
    rw [Int64.lt_iff_toInt_lt] at h1; omega
  have M : 0 < (lcmpW x y).toInt → y.toInt < x.toInt := fun q => by have := (lw_gt x y).mp (by rw [Int32.lt_iff_toInt_lt]; omega); rwa [Int64.lt_iff_toInt_lt] at this
  have P : (lcmpW x y).toInt ≤ 0 → x.toInt ≤ y.toInt := fun q => by
    have h1 : ¬ y < x := fun r => by have := (lw_gt x y).mpr r; rw [Int32.lt_iff_toInt_lt] at this; omega
    rw [Int64.lt_iff_toInt_lt] at h1; omega
  refine Go.step (fun _ t => XS.lcmp X.here hx rfl hd1 rfl t) ?_
  exact w_if_le X hx hd (fun q => kt (P q)) (fun q => kf (M q))
theorem w_acmp (X : Stand p l e R s m args below meth c T locs cells slots) (hx : p.tables.exec = Jvm.exec) {o : Int} {cd : ClassFile.ACond} {x y : Value} {pcT pcF : Nat} (hd : Dj c.code pc (.if_acmp cd o) o pcT pcF) (h1 : x.isRef = true) (h2 : y.isRef = true) {b : Bool} (hb : acV cd (decide (x = y)) = b) (k : Go p e below s Q C S (T.setTop (mkF m (if b = true then pcT else pcF) Ls rest))) : Go p e below s Q C S (T.setTop (mkF m pc Ls (y :: x :: rest))) := by
  obtain ⟨hd, ho, rfl, rfl⟩ := hd; subst hb; exact k.step fun _ t => Jvm.RoadKit.acmp X hx rfl h1 h2 rfl hd rfl rfl ho rfl t
theorem w_ifnullR (X : Stand p l e R s m args below meth c T locs cells slots) (hx : p.tables.exec = Jvm.exec) {o : Int} {b : Addr} {pcT pcF : Nat} (hd : Dj c.code pc (.ifnull o) o pcT pcF) (k : Go p e below s Q C S (T.setTop (mkF m pcF Ls rest))) : Go p e below s Q C S (T.setTop (mkF m pc Ls (.ref b :: rest))) := by
  obtain ⟨hd, -, -, rfl⟩ := hd; exact k.step fun _ t => XS.ifnullNo X.here hx rfl hd rfl t
/-! returns -/
theorem w_ret (X : Stand p l e R s m args below meth c T locs cells slots) (hx : p.tables.exec = Jvm.exec) (hret : meth.sig.returnType = none) (hlk : meth.locks = false) (hd : Dc c.code pc .return_ 1 pc') (hC : cells ≤ C) (hS : slots ≤ S) (hQ : Q none T.heap locs) : Go p e below s Q C S (T.setTop (mkF m pc Ls [])) := by
  obtain ⟨fs, hr, hrun, hended, hW, hsame⟩ := X.leave (v := none) (fun _ => rfl) hlk
  exact ⟨_, _, X.returnOut hx hret hd.1 hr, hrun, hended, _, _, rfl, hQ, ⟨_, rfl⟩, hW, hsame.mono hC hS⟩
theorem w_retI (X : Stand p l e R s m args below meth c T locs cells slots) (hx : p.tables.exec = Jvm.exec) (hret : meth.sig.returnType = some .int) (hlk : meth.locks = false) {z : Int32} (hd : Dc c.code pc .ireturn 1 pc') (hC : cells ≤ C) (hS : slots ≤ S) (hQ : Q (some (.int z)) T.heap locs) : Go p e below s Q C S (T.setTop (mkF m pc Ls (.int z :: rest))) := by
  obtain ⟨fs, hr, hrun, hended, hW, hsame⟩ := X.leave (v := some (.int z)) (fun h => by rw [hret] at h; cases h) hlk
  exact ⟨_, _, retOut X hx hret rfl (Or.inl ⟨rfl, Or.inl rfl, _, rfl⟩) hd.1 hr, hrun, hended, _, _, rfl, hQ, ⟨_, rfl⟩, hW, hsame.mono hC hS⟩
theorem w_retN (X : Stand p l e R s m args below meth c T locs cells slots) (hx : p.tables.exec = Jvm.exec) {t : FieldType} (hret : meth.sig.returnType = some t) (ht : t = .boolean ∨ t = .byte ∨ t = .char ∨ t = .short) (hlk : meth.locks = false) {z : Int32} (hd : Dc c.code pc .ireturn 1 pc') (hC : cells ≤ C) (hS : slots ≤ S) (hQ : Q (some (.int (nar t z))) T.heap locs) : Go p e below s Q C S (T.setTop (mkF m pc Ls (.int z :: rest))) := by
  obtain ⟨fs, hr, hrun, hended, hW, hsame⟩ := X.leave (v := some (.int (nar t z))) (fun h => by rw [hret] at h; cases h) hlk
  exact ⟨_, _, retN X hx hret ht hd.1 hr, hrun, hended, _, _, rfl, hQ, ⟨_, rfl⟩, hW, hsame.mono hC hS⟩
theorem w_retJ (X : Stand p l e R s m args below meth c T locs cells slots) (hx : p.tables.exec = Jvm.exec) (hret : meth.sig.returnType = some .long) (hlk : meth.locks = false) {z : Int64} (hd : Dc c.code pc .lreturn 1 pc') (hC : cells ≤ C) (hS : slots ≤ S) (hQ : Q (some (.long z)) T.heap locs) : Go p e below s Q C S (T.setTop (mkF m pc Ls (.long z :: rest))) := by
  obtain ⟨fs, hr, hrun, hended, hW, hsame⟩ := X.leave (v := some (.long z)) (fun h => by rw [hret] at h; cases h) hlk
  exact ⟨_, _, retOut X hx hret rfl (Or.inr (Or.inl ⟨rfl, rfl, _, rfl⟩)) hd.1 hr, hrun, hended, _, _, rfl, hQ, ⟨_, rfl⟩, hW, hsame.mono hC hS⟩
theorem w_retA (X : Stand p l e R s m args below meth c T locs cells slots) (hx : p.tables.exec = Jvm.exec) {t : FieldType} {a : Addr} (hret : meth.sig.returnType = some t) (ht : t.isReference = true) (hn : narrow t (.ref a) = .ref a) (hlk : meth.locks = false) (hd : Dc c.code pc .areturn 1 pc') (hC : cells ≤ C) (hS : slots ≤ S) (hQ : Q (some (.ref a)) T.heap locs) : Go p e below s Q C S (T.setTop (mkF m pc Ls (.ref a :: rest))) := by
  obtain ⟨fs, hr, hrun, hended, hW, hsame⟩ := X.leave (v := some (.ref a)) (fun h => by rw [hret] at h; cases h) hlk
  exact ⟨_, _, retOut X hx hret hn (Or.inr (Or.inr (Or.inr (Or.inr ⟨rfl, ht, rfl⟩)))) hd.1 hr, hrun, hended, _, _, rfl, hQ, ⟨_, rfl⟩, hW, hsame.mono hC hS⟩
/-! contracts -/
def Ct (l : Launch) (Z : State) (y : MethodName) (bytes : ByteArray) (maxL : Nat) (ret : Option FieldType) (rm : Room) (as' : Array Value) (h : Heap) (Q : Option Value → Heap → List Loc → Prop) : Prop :=
  MetFree l y (head1 [Jvm.Cond.code y bytes maxL ret] rm) (fun a U => a = as' ∧ Z.Warmed39 U.vm ∧ U.heap = h) (fun _ _ _ _ _ => True) (fun _ U o U' => ∃ v L, o = .returned v ∧ Q v U'.heap L ∧ FrameEnd U o U' L rm.cells rm.slots)
theorem w_body {y : MethodName} {bytes : ByteArray} {maxL : Nat} {ret : Option FieldType} {rm : Room} {as' : Array Value} {ws : List Jvm.Cond} (hp : plainFor y = true)
    (body : ∀ (p : Program) (e : Env) (s : State) (m : MethodId) (below : List Frame) (meth : Method) (c : Code) (T : State), Stand p l e rm s m as' below meth c T [] 0 0 → p.tables.exec = Jvm.exec → c.code = bytes → c.maxLocals = maxL → s.vm.findClass y.cls = some m.cls → meth.name = y.name → meth.sig.returnType = ret → meth.locks = false → Z.Warmed39 s.vm → T.heap = h → Go p e below s Q C S (T.setTop (entryFrame m as' maxL))) :
    MetFree l y (head1 (Jvm.Cond.code y bytes maxL ret :: ws) rm) (fun a U => a = as' ∧ Z.Warmed39 U.vm ∧ U.heap = h) (fun _ _ _ _ _ => True) (fun _ U o U' => ∃ v L, o = .returned v ∧ Q v U'.heap L ∧ FrameEnd U o U' L C S) := by
  refine MetFree.of_bodySF hp hisR ?_
  intro p e s m args below meth c s₁ Bd hml0 hP hK
  obtain ⟨rfl, hZ, hh⟩ := hP
  exact body p e s m below meth c s₁ (Stand.of_body Bd) Bd.exec Bd.bytes hml0 (findClass_of_methodNamed Bd.named) (name_of_methodNamed Bd.named Bd.method).1 Bd.returns Bd.notSynchronized hZ (by rw [← hh, Bd.state]; rfl)
theorem Ct.body {y : MethodName} {bytes : ByteArray} {maxL : Nat} {ret : Option FieldType} {rm : Room} {as' : Array Value} (hp : plainFor y = true)
    (body : ∀ (p : Program) (e : Env) (s : State) (m : MethodId) (below : List Frame) (meth : Method) (c : Code) (T : State), Stand p l e rm s m as' below meth c T [] 0 0 → p.tables.exec = Jvm.exec → c.code = bytes → c.maxLocals = maxL → s.vm.findClass y.cls = some m.cls → meth.name = y.name → meth.sig.returnType = ret → meth.locks = false → Z.Warmed39 s.vm → T.heap = h → Go p e below s Q rm.cells rm.slots (T.setTop (entryFrame m as' maxL))) :
    Ct l Z y bytes maxL ret rm as' h Q := w_body hp body
/-! calls -/
theorem w_callS (X : Stand p l e R s m args below meth c T locs cells slots) (hx : p.tables.exec = Jvm.exec) (hZ : Z.Warmed39 s.vm) (eT : T.heap = h) {kk : Nat} (hml : c.maxLocals = kk) (hkk : Ls.size = kk) {own : String} (hown : s.vm.findClass own = some m.cls) {index : Nat} {y : MethodName} {bytes : ByteArray} {maxL : Nat} {ret : Option FieldType} {rm : Room} {as' : Array Value} {Qc : Option Value → Heap → List Loc → Prop}
    (w1 : (Jvm.Cond.methodLink own index y).before a0 Z = true) (w2 : (Jvm.Cond.static y).before a0 Z = true) (w3 : (Jvm.Cond.initialized y.cls).before a0 Z = true) (w4 : (Jvm.Cond.code y bytes maxL ret).before a0 Z = true) (hy : y.cls ≠ "java/lang/invoke/MethodHandle" ∧ y.cls ≠ "java/lang/invoke/VarHandle")
    (hM : Ct l Z y bytes maxL ret rm as' h Qc) (hd : Dc c.code pc (.invokestatic index) 3 pc') {ps : List FieldType} {r : Option FieldType} (hpd : parseMethodDescriptor y.desc = some ⟨ps, r⟩) {argsL st rest : List Value} (has : argsL.toArray = as') (hst : st = argsL.reverse ++ rest) (hlen : argsL.length = ps.length) {W : Nat} (hW : (rest.map fun v => v.category).sum = W)
    (hf : rm.frames + 1 ≤ R.frames) (hl : W + (maxL + 11) + rm.locals ≤ R.locals) (hcl : cells + rm.cells ≤ R.cells) (hsl : slots + rm.slots ≤ R.slots)
    (k : ∀ (v : Option Value) (T' : State) (L : List Loc), Stand p l e R s m args below meth c T' (locs ++ L) (cells + rm.cells) (slots + rm.slots) → Qc v T'.heap L → Go p e below s Q C S (T'.setTop (mkF m pc' Ls (v.toList ++ rest)))) :
    Go p e below s Q C S (T.setTop (mkF m pc Ls st)) := by
  subst hst has hW
  obtain ⟨hd, rfl⟩ := hd
  obtain ⟨v, _, ⟨T', L', k', n'⟩, -, X', ⟨Lc, hQ, e1, e2, e3⟩, st⟩ := Jvm.LawKit.callS X hx (y := y) hown (mvT hZ w1) (mvT hZ w2) (mvT hZ w3) (mvT hZ w4) hy (backOf (W := (rest.map fun v => v.category).sum) hM hZ w4 w3 hf hl) (g := mkF m pc Ls (argsL.reverse ++ rest)) rfl (hkk.trans hml.symm) (argsL := argsL) (rest := rest) (lenOf hpd hlen) rfl (by show 2 * 0 + _ ≤ _; omega) hd (fun _ _ => ⟨rfl, eT, hcl, hsl⟩)
  dsimp only [Pt.U, Pt.locs, Pt.cells, Pt.slots] at X' e1 e2 e3 st hQ
  subst e1 e2 e3
  exact (k v T' Lc X' hQ).step st
theorem w_callV (X : Stand p l e R s m args below meth c T locs cells slots) (hx : p.tables.exec = Jvm.exec) (hZ : Z.Warmed39 s.vm) (eT : T.heap = h) {kk : Nat} (hml : c.maxLocals = kk) (hkk : Ls.size = kk) {own : String} (hown : s.vm.findClass own = some m.cls) {index : Nat} {y : MethodName} {bytes : ByteArray} {maxL : Nat} {ret : Option FieldType} {rm : Room} {as' : Array Value} {Qc : Option Value → Heap → List Loc → Prop}
    (w1 : (Jvm.Cond.methodLink own index y).before a0 Z = true) (w2 : (Jvm.Cond.declares y).before a0 Z = true) (w5 : (Jvm.Cond.selects y.cls y y).before a0 Z = true) (w6 : (Jvm.Cond.instanceMethod y).before a0 Z = true) (w3 : (Jvm.Cond.initialized y.cls).before a0 Z = true) (w4 : (Jvm.Cond.code y bytes maxL ret).before a0 Z = true) (hy : y.cls ≠ "java/lang/invoke/MethodHandle" ∧ y.cls ≠ "java/lang/invoke/VarHandle")
    (hM : Ct l Z y bytes maxL ret rm as' h Qc) {b : Addr} (E : Exa Z h b y.cls) (hd : Dc c.code pc (.invokevirtual index) 3 pc') {ps : List FieldType} {r : Option FieldType} (hpd : parseMethodDescriptor y.desc = some ⟨ps, r⟩) {argsL st rest : List Value} (has : (.ref b :: argsL).toArray = as') (hst : st = argsL.reverse ++ .ref b :: rest) (hlen : argsL.length = ps.length) {W : Nat} (hW : (rest.map fun v => v.category).sum = W)
    (hf : rm.frames + 1 ≤ R.frames) (hl : W + (maxL + 11) + rm.locals ≤ R.locals) (hcl : cells + rm.cells ≤ R.cells) (hsl : slots + rm.slots ≤ R.slots)
    (k : ∀ (v : Option Value) (T' : State) (L : List Loc), Stand p l e R s m args below meth c T' (locs ++ L) (cells + rm.cells) (slots + rm.slots) → Qc v T'.heap L → Go p e below s Q C S (T'.setTop (mkF m pc' Ls (v.toList ++ rest)))) :
    Go p e below s Q C S (T.setTop (mkF m pc Ls st)) := by
  subst hst has hW
  obtain ⟨hd, rfl⟩ := hd
  obtain ⟨cq, kq, qa, qb, qc⟩ := isOf hZ eT E
  obtain ⟨v, _, ⟨T', L', k', n'⟩, -, X', ⟨Lc, hQ, e1, e2, e3⟩, st⟩ := X.virtualBack hx (y := y) (z := y) hown (mvT hZ w1) (mvT hZ w2) (notFace_of_selects (args := #[]) (mvT hZ w5)) (mvT hZ w5) (mvT hZ w6) hy (backOf (W := (rest.map fun v => v.category).sum) hM hZ w4 w3 hf hl) qa qc (g := mkF m pc Ls (argsL.reverse ++ .ref b :: rest)) rfl (hkk.trans hml.symm) (Steps.refl _) (argsL := argsL) (rest := rest) (lenOf hpd hlen) rfl (by show 2 * 0 + _ ≤ _; omega) hd (fun _ _ => ⟨rfl, eT, hcl, hsl⟩)
  dsimp only [Pt.U, Pt.locs, Pt.cells, Pt.slots] at X' e1 e2 e3 st hQ
  subst e1 e2 e3
  exact (k v T' Lc X' hQ).step fun _ q => st.trans q
theorem w_callSP (X : Stand p l e R s m args below meth c T locs cells slots) (hx : p.tables.exec = Jvm.exec) (hZ : Z.Warmed39 s.vm) (eT : T.heap = h) {kk : Nat} (hml : c.maxLocals = kk) (hkk : Ls.size = kk) {own : String} (hown : s.vm.findClass own = some m.cls) {index : Nat} {y : MethodName} {bytes : ByteArray} {maxL : Nat} {ret : Option FieldType} {f lo : Nat} {as' : Array Value} {rv : Value}
    (w1 : (Jvm.Cond.methodLink own index y).before a0 Z = true) (w2 : (Jvm.Cond.static y).before a0 Z = true) (w3 : (Jvm.Cond.initialized y.cls).before a0 Z = true) (w4 : (Jvm.Cond.code y bytes maxL ret).before a0 Z = true) (hy : y.cls ≠ "java/lang/invoke/MethodHandle" ∧ y.cls ≠ "java/lang/invoke/VarHandle")
    (hM : Ct l Z y bytes maxL ret ({ frames := f, cells := 0, slots := 0, locals := lo } : Room) as' h (fun v h' L => v = some rv ∧ h' = h ∧ L = [])) (hd : Dc c.code pc (.invokestatic index) 3 pc') {ps : List FieldType} {r : Option FieldType} (hpd : parseMethodDescriptor y.desc = some ⟨ps, r⟩) {argsL st rest : List Value} (has : argsL.toArray = as') (hst : st = argsL.reverse ++ rest) (hlen : argsL.length = ps.length) {W : Nat} (hW : (rest.map fun v => v.category).sum = W)
    (hf : f + 1 ≤ R.frames) (hl : W + (maxL + 11) + lo ≤ R.locals) (hcl : cells ≤ R.cells) (hsl : slots ≤ R.slots)
    (k : ∀ T', Stand p l e R s m args below meth c T' locs cells slots → T'.heap = h → Go p e below s Q C S (T'.setTop (mkF m pc' Ls (rv :: rest)))) :
    Go p e below s Q C S (T.setTop (mkF m pc Ls st)) := by
  refine w_callS X hx hZ eT hml hkk hown w1 w2 w3 w4 hy hM hd hpd has hst hlen hW hf hl hcl hsl fun v T' L X' hQ => ?_
  obtain ⟨rfl, e', rfl⟩ := hQ
  rw [List.append_nil] at X'
  exact k T' X' e'
theorem w_callVP (X : Stand p l e R s m args below meth c T locs cells slots) (hx : p.tables.exec = Jvm.exec) (hZ : Z.Warmed39 s.vm) (eT : T.heap = h) {kk : Nat} (hml : c.maxLocals = kk) (hkk : Ls.size = kk) {own : String} (hown : s.vm.findClass own = some m.cls) {index : Nat} {y : MethodName} {bytes : ByteArray} {maxL : Nat} {ret : Option FieldType} {f lo : Nat} {as' : Array Value} {rv : Value}
    (w1 : (Jvm.Cond.methodLink own index y).before a0 Z = true) (w2 : (Jvm.Cond.declares y).before a0 Z = true) (w5 : (Jvm.Cond.selects y.cls y y).before a0 Z = true) (w6 : (Jvm.Cond.instanceMethod y).before a0 Z = true) (w3 : (Jvm.Cond.initialized y.cls).before a0 Z = true) (w4 : (Jvm.Cond.code y bytes maxL ret).before a0 Z = true) (hy : y.cls ≠ "java/lang/invoke/MethodHandle" ∧ y.cls ≠ "java/lang/invoke/VarHandle")
    (hM : Ct l Z y bytes maxL ret ({ frames := f, cells := 0, slots := 0, locals := lo } : Room) as' h (fun v h' L => v = some rv ∧ h' = h ∧ L = [])) {b : Addr} (E : Exa Z h b y.cls) (hd : Dc c.code pc (.invokevirtual index) 3 pc') {ps : List FieldType} {r : Option FieldType} (hpd : parseMethodDescriptor y.desc = some ⟨ps, r⟩) {argsL st rest : List Value} (has : (.ref b :: argsL).toArray = as') (hst : st = argsL.reverse ++ .ref b :: rest) (hlen : argsL.length = ps.length) {W : Nat} (hW : (rest.map fun v => v.category).sum = W)
    (hf : f + 1 ≤ R.frames) (hl : W + (maxL + 11) + lo ≤ R.locals) (hcl : cells ≤ R.cells) (hsl : slots ≤ R.slots)
    (k : ∀ T', Stand p l e R s m args below meth c T' locs cells slots → T'.heap = h → Go p e below s Q C S (T'.setTop (mkF m pc' Ls (rv :: rest)))) :
    Go p e below s Q C S (T.setTop (mkF m pc Ls st)) := by
  refine w_callV X hx hZ eT hml hkk hown w1 w2 w5 w6 w3 w4 hy hM E hd hpd has hst hlen hW hf hl hcl hsl fun v T' L X' hQ => ?_
  obtain ⟨rfl, e', rfl⟩ := hQ
  rw [List.append_nil] at X'
  exact k T' X' e'
theorem w_callI (X : Stand p l e R s m args below meth c T locs cells slots) (hx : p.tables.exec = Jvm.exec) (hZ : Z.Warmed39 s.vm) (eT : T.heap = h) {kk : Nat} (hml : c.maxLocals = kk) (hkk : Ls.size = kk) {own : String} (hown : s.vm.findClass own = some m.cls) {index : Nat} {y : MethodName} {bytes : ByteArray} {maxL : Nat} {rm : Room} {as' : Array Value} {Qc : Option Value → Heap → List Loc → Prop} (hy1 : y.name = "<init>")
    (w1 : (Jvm.Cond.methodLink own index y).before a0 Z = true) (w6 : (Jvm.Cond.instanceMethod y).before a0 Z = true) (w3 : (Jvm.Cond.initialized y.cls).before a0 Z = true) (w4 : (Jvm.Cond.code y bytes maxL none).before a0 Z = true) (hy : y.cls ≠ "java/lang/invoke/MethodHandle" ∧ y.cls ≠ "java/lang/invoke/VarHandle")
    (hM : Ct l Z y bytes maxL none rm as' h Qc) {b : Addr} (hd : Dc c.code pc (.invokespecial index) 3 pc') {ps : List FieldType} {r : Option FieldType} (hpd : parseMethodDescriptor y.desc = some ⟨ps, r⟩) {argsL st rest : List Value} (has : (.ref b :: argsL).toArray = as') (hst : st = argsL.reverse ++ .ref b :: rest) (hlen : argsL.length = ps.length) {W : Nat} (hW : (rest.map fun v => v.category).sum = W)
    (hf : rm.frames + 1 ≤ R.frames) (hl : W + (maxL + 11) + rm.locals ≤ R.locals) (hcl : cells + rm.cells ≤ R.cells) (hsl : slots + rm.slots ≤ R.slots)
    (k : ∀ (v : Option Value) (T' : State) (L : List Loc), Stand p l e R s m args below meth c T' (locs ++ L) (cells + rm.cells) (slots + rm.slots) → Qc v T'.heap L → Go p e below s Q C S (T'.setTop (mkF m pc' Ls (v.toList ++ rest)))) :
    Go p e below s Q C S (T.setTop (mkF m pc Ls st)) := by
  subst hst has hW
  obtain ⟨hd, rfl⟩ := hd
  obtain ⟨v, _, ⟨T', L', k', n'⟩, -, X', ⟨Lc, hQ, e1, e2, e3⟩, st⟩ := X.specialBack hx (y := y) hy1 hown (mvT hZ w1) (mvT hZ w6) (mvT hZ w4) hy (backOf (W := (rest.map fun v => v.category).sum) hM hZ w4 w3 hf hl) (g := mkF m pc Ls (argsL.reverse ++ .ref b :: rest)) rfl (hkk.trans hml.symm) (Steps.refl _) (a := b) (argsL := argsL) (rest := rest) (lenOf hpd hlen) rfl (by show 2 * 0 + _ ≤ _; omega) hd (fun _ _ => ⟨rfl, eT, hcl, hsl⟩)
  dsimp only [Pt.U, Pt.locs, Pt.cells, Pt.slots] at X' e1 e2 e3 st hQ
  subst e1 e2 e3
  exact (k v T' Lc X' hQ).step fun _ q => st.trans q
theorem w_objinit (X : Stand p l e R s m args below meth c T locs cells slots) (hx : p.tables.exec = Jvm.exec) (hZ : Z.Warmed39 s.vm) (eT : T.heap = h) {kk : Nat} (hml : c.maxLocals = kk) (hkk : Ls.size = kk) {own : String} (hown : s.vm.findClass own = some m.cls) {index : Nat}
    (w1 : (Jvm.Cond.methodLink own index Lib.objectInit).before a0 Z = true) (w2 : (Jvm.Cond.instanceMethod Lib.objectInit).before a0 Z = true) (w3 : (Jvm.Cond.code Lib.objectInit ⟨#[0xb1]⟩ 1 none).before a0 Z = true) (hd : Dc c.code pc (.invokespecial index) 3 pc') {a : Addr} (hf : 1 ≤ R.frames) {W : Nat} (hW : (rest.map fun v => v.category).sum = W) (hl : W + 12 ≤ R.locals)
    (k : ∀ T', Stand p l e R s m args below meth c T' locs cells slots → T'.heap = h → Go p e below s Q C S (T'.setTop (mkF m pc' Ls rest))) : Go p e below s Q C S (T.setTop (mkF m pc Ls (.ref a :: rest))) := by
  obtain ⟨hd, rfl⟩ := hd
  obtain ⟨T', X', e', st⟩ := initO X hx hZ hown w1 w2 w3 eT (g := mkF m pc Ls (.ref a :: rest)) rfl (hkk.trans hml.symm) rfl hd hf (W := W) (by show 2 * 0 + _ ≤ _; omega) hl
  exact (k T' X' e').step st
/-! fields -/
theorem w_getf (X : Stand p l e R s m args below meth c T locs cells slots) (hx : p.tables.exec = Jvm.exec) (hZ : Z.Warmed39 s.vm) (eT : T.heap = h) {own O n d : String} {index : Nat} (hown : s.vm.findClass own = some m.cls) (w : (Jvm.Cond.fieldLink own index O n d).before a0 Z = true) {a : Addr} {v : Value} (F : Fld Z h a O n d v) (hd : Dc c.code pc (.getfield index) 3 pc')
    (k : ∀ T', Stand p l e R s m args below meth c T' locs cells slots → T'.heap = h → Go p e below s Q C S (T'.setTop (mkF m pc' Ls (v :: rest)))) : Go p e below s Q C S (T.setTop (mkF m pc Ls (.ref a :: rest))) := by
  obtain ⟨hd, rfl⟩ := hd
  obtain ⟨T', X', e', st⟩ := getF X hx hZ hown (host := "") (Or.inl w) Via.refl eT F (g := mkF m pc Ls (.ref a :: rest)) rfl rfl hd
  exact (k T' X' e').step st
theorem w_putf (X : Stand p l e R s m args below meth c T locs cells slots) (hx : p.tables.exec = Jvm.exec) (hZ : Z.Warmed39 s.vm) (eT : T.heap = h) {own O n d : String} {index kk : Nat} {ty : FieldType} (hown : s.vm.findClass own = some m.cls) (w : (Jvm.Cond.fieldLink own index O n d).before a0 Z = true) {a : Addr} {v old : Value} (F : Fld Z h a O n d old) (E : Exa Z h a O) (L : (Jvm.Cond.lays O O n d).before a0 Z = true ∨ ((Jvm.Cond.laysFinal O O n d).before a0 Z = true ∧ own = O ∧ meth.name = "<init>")) (wi : (Jvm.Cond.instantiable O kk).before a0 Z = true)
    (hty : parseFieldDescriptor d = some ty) (hn : narrow ty v = v) (hf : fits ty v = true) (hd : Dc c.code pc (.putfield index) 3 pc')
    (k : ∀ T' h', Stand p l e R s m args below meth c T' (locs ++ [⟨a, Jvm.RoadKit.slotOf Z O n d⟩]) cells slots → T'.heap = h' → Wr h h' a (Jvm.RoadKit.slotOf Z O n d) v → Go p e below s Q C S (T'.setTop (mkF m pc' Ls rest))) : Go p e below s Q C S (T.setTop (mkF m pc Ls (v :: .ref a :: rest))) := by
  obtain ⟨hd, rfl⟩ := hd
  obtain ⟨T', h', X', e', W, st⟩ := putF X hx hZ hown (host := "") (Or.inl w) Via.refl eT F E L wi hty hn hf (g := mkF m pc Ls (v :: .ref a :: rest)) rfl rfl hd
  exact (k T' h' X' e' W).step st
theorem w_new (X : Stand p l e R s m args below meth c T locs cells slots) (hx : p.tables.exec = Jvm.exec) (hZ : Z.Warmed39 s.vm) (eT : T.heap = h) {own K : String} {index n : Nat} (hown : s.vm.findClass own = some m.cls) (w : (Jvm.Cond.classLink own index K).before a0 Z = true) (wi : (Jvm.Cond.instantiable K n).before a0 Z = true) (wz : (Jvm.Cond.initialized K).before a0 Z = true) (hd : Dc c.code pc (.new index) 3 pc') (hcl : cells + 1 ≤ R.cells) (hsl : slots + n ≤ R.slots)
    (k : ∀ T' h' b, b = h.size → Stand p l e R s m args below meth c T' locs (cells + 1) (slots + n) → T'.heap = h' → Ext h h' → Exa Z h' b K → (∀ {O nm d : String} {ty : FieldType}, Laid Z a0 K O nm d → parseFieldDescriptor d = some ty → Fld Z h' b O nm d (defaultValue ty)) → Go p e below s Q C S (T'.setTop (mkF m pc' Ls (.ref b :: rest)))) : Go p e below s Q C S (T.setTop (mkF m pc Ls rest)) := by
  obtain ⟨hd, rfl⟩ := hd
  obtain ⟨T', h', X', e', E, A, D, -, st⟩ := newO X hx hZ hown w wi wz eT (g := mkF m pc Ls rest) rfl hd hcl hsl
  exact (k T' h' _ rfl X' e' E A D).step st
/-! arrays: n places, place i holds f i -/
def AV (Z : State) (h : Heap) (a : Addr) (ty : FieldType) (n : Nat) (f : Nat → Value) : Prop := n < 2 ^ 31 ∧ ∃ cl : Cell, Arr Z h a cl ty ∧ cl.slots.size = n ∧ ∀ i, i < n → cl.slots[i]? = some (f i)
theorem AV.lt {a : Addr} {ty : FieldType} {n : Nat} {f : Nat → Value} (A : AV Z h a ty n f) : a < h.size := by obtain ⟨-, c, A, -⟩ := A; exact A.lt
theorem AV.ext {a : Addr} {ty : FieldType} {n : Nat} {f : Nat → Value} {h' : Heap} (A : AV Z h a ty n f) (E : Ext h h') : AV Z h' a ty n f := by obtain ⟨h1, c, A, r⟩ := A; exact ⟨h1, c, A.ext E, r⟩
theorem AV.other {a b : Addr} {ty : FieldType} {n sl : Nat} {v : Value} {f : Nat → Value} {h' : Heap} (A : AV Z h a ty n f) (W : Wr h h' b sl v) (q : a ≠ b) : AV Z h' a ty n f := by obtain ⟨h1, c, A, r⟩ := A; exact ⟨h1, c, A.other W q, r⟩
theorem AV.keep {a : Addr} {ty : FieldType} {n : Nat} {ws : List Addr} {f : Nat → Value} {h' : Heap} (A : AV Z h a ty n f) (K : Keep h h' ws) (q : a ∉ ws) : AV Z h' a ty n f := by obtain ⟨h1, c, A, r⟩ := A; exact ⟨h1, c, ⟨K.2.1 a c A.1 q, A.2⟩, r⟩
theorem AV.congr {a : Addr} {ty : FieldType} {n : Nat} {f g : Nat → Value} (A : AV Z h a ty n f) (q : ∀ i, i < n → f i = g i) : AV Z h a ty n g := by obtain ⟨h1, c, A, r1, r2⟩ := A; exact ⟨h1, c, A, r1, fun i hi => by rw [r2 i hi, q i hi]⟩
theorem av_idx {j : Int32} {i n : Nat} {cl : Cell} (hj : j.toInt = (i : Int)) (hi : i < n) (hc : cl.slots.size = n) : ¬ (j < 0 ∨ cl.slots.size ≤ j.toNatClampNeg) ∧ j.toNatClampNeg = i := by
  have e0 : (0 : Int32).toInt = 0 := rfl
  simp only [Int32.lt_iff_toInt_lt, Int32.toNatClampNeg, e0, hj, hc]; omega
def put (f : Nat → Value) (i : Nat) (v : Value) : Nat → Value := fun k => if k = i then v else f k
theorem put_at (f : Nat → Value) (i : Nat) (v : Value) : put f i v i = v := by simp [put]
theorem put_ne (f : Nat → Value) {i k : Nat} (v : Value) (q : k ≠ i) : put f i v k = f k := by simp [put, q]
theorem AV.same {a : Addr} {ty : FieldType} {n : Nat} {v : Value} {f : Nat → Value} {h' : Heap} {i : Nat} (A : AV Z h a ty n f) (hi : i < n) (W : Wr h h' a i v) : AV Z h' a ty n (put f i v) := by
  obtain ⟨h1, c, A, r1, r2⟩ := A
  refine ⟨h1, _, A.same W, by rw [sz_set]; exact r1, fun k hk => ?_⟩
  by_cases u : k = i
  · subst u; rw [put_at]; simp [Cell.setSlot, r1, hk]
  · rw [put_ne _ _ u]; simp only [Cell.setSlot]; rw [Array.getElem?_setIfInBounds_ne (Ne.symm u)]; exact r2 k hk
theorem w_newarr (X : Stand p l e R s m args below meth c T locs cells slots) (hx : p.tables.exec = Jvm.exec) (hZ : Z.Warmed39 s.vm) (eT : T.heap = h) {aty : ArrayType} (w : (Jvm.Cond.arrayClass (newarray.typeOf aty)).before a0 Z = true) (hd : Dc c.code pc (.newarray aty) 2 pc') {z : Int32} {n cap : Nat} (hz : z.toInt = (n : Int)) (hcap : n ≤ cap) (hb : cap * 8 ≤ 536870912) (hcl : cells + 1 ≤ R.cells) (hsl : slots + cap ≤ R.slots)
    (k : ∀ T' h' b, b = h.size → Stand p l e R s m args below meth c T' locs (cells + 1) (slots + cap) → T'.heap = h' → Ext h h' → AV Z h' b (newarray.typeOf aty) n (fun _ => defaultValue (newarray.typeOf aty)) → Go p e below s Q C S (T'.setTop (mkF m pc' Ls (.ref b :: rest)))) : Go p e below s Q C S (T.setTop (mkF m pc Ls (.int z :: rest))) := by
  obtain ⟨hd, rfl⟩ := hd
  have e0 : (0 : Int32).toInt = 0 := rfl
  have hn : ¬ z < 0 := by rw [Int32.lt_iff_toInt_lt]; omega
  have en : z.toNatClampNeg = n := by simp only [Int32.toNatClampNeg]; omega
  have hlt := Int32.toInt_lt z
  obtain ⟨T', h', cA, X', e', E, A, st⟩ := newP X hx hZ w eT (g := mkF m pc Ls (.int z :: rest)) rfl hd rfl hn (cap := cap) (by omega) hb hcl hsl
  refine (k T' h' _ rfl X' e' E ⟨by omega, _, A, by rw [sz_new]; exact en, fun i hi => ?_⟩).step st
  simp [newA, en, hi]
theorem w_arrlen (X : Stand p l e R s m args below meth c T locs cells slots) (hx : p.tables.exec = Jvm.exec) (hZ : Z.Warmed39 s.vm) (eT : T.heap = h) {a : Addr} {ty : FieldType} {n : Nat} {f : Nat → Value} (A : AV Z h a ty n f) {z : Int32} (hz : z.toInt = (n : Int)) (hd : Dc c.code pc .arraylength 1 pc') (k : Go p e below s Q C S (T.setTop (mkF m pc' Ls (.int z :: rest)))) : Go p e below s Q C S (T.setTop (mkF m pc Ls (.ref a :: rest))) := by
  obtain ⟨hd, rfl⟩ := hd
  obtain ⟨h1, c, A, r1, -⟩ := A
  have ez : z = c.slots.size.toInt32 := Int32.toInt_inj.mp (by rw [len_toInt (by omega), hz, r1])
  subst ez
  exact k.step fun t q => X.arraylength hx (by rw [eT]; exact A.1) (State.isArrayOf_alike hZ.alike A.2.1) (g := mkF m pc Ls (.ref a :: rest)) rfl rfl hd t q
def iF (g : Nat → Int32) : Nat → Value := fun k => .int (g k)
def lF (g : Nat → Int64) : Nat → Value := fun k => .long (g k)
def upd {α : Type} (g : Nat → α) (i : Nat) (v : α) : Nat → α := fun k => if k = i then v else g k
theorem upd_at {α : Type} (g : Nat → α) (i : Nat) (v : α) : upd g i v i = v := by simp [upd]
theorem upd_ne {α : Type} (g : Nat → α) {i k : Nat} (v : α) (q : k ≠ i) : upd g i v k = g k := by simp [upd, q]
theorem put_iF (g : Nat → Int32) (i : Nat) (v : Int32) : put (iF g) i (.int v) = iF (upd g i v) := by funext k; simp only [put, iF, upd]; split <;> rfl
theorem put_lF (g : Nat → Int64) (i : Nat) (v : Int64) : put (lF g) i (.long v) = lF (upd g i v) := by funext k; simp only [put, lF, upd]; split <;> rfl
theorem w_baload (X : Stand p l e R s m args below meth c T locs cells slots) (hx : p.tables.exec = Jvm.exec) (hZ : Z.Warmed39 s.vm) (eT : T.heap = h) {a : Addr} {n : Nat} {g : Nat → Int32} (A : AV Z h a .byte n (iF g)) {j : Int32} {i : Nat} (hj : j.toInt = (i : Int)) (hi : i < n) {z : Int32} (hv : g i = z) (hd : Dc c.code pc .baload 1 pc') (k : Go p e below s Q C S (T.setTop (mkF m pc' Ls (.int z :: rest)))) : Go p e below s Q C S (T.setTop (mkF m pc Ls (.int j :: .ref a :: rest))) := by
  obtain ⟨hd, rfl⟩ := hd
  subst hv
  obtain ⟨h1, cl, A, r1, r2⟩ := A
  obtain ⟨q1, q2⟩ := av_idx hj hi r1
  exact k.step fun t q => X.baloadBytes hx (by rw [eT]; exact A.1) (State.isArrayOf_alike hZ.alike A.2.1) A.2.2 q1 (by rw [q2, r2 i hi]; rfl) (g := mkF m pc Ls (.int j :: .ref a :: rest)) rfl rfl hd t q
theorem w_iaload (X : Stand p l e R s m args below meth c T locs cells slots) (hx : p.tables.exec = Jvm.exec) (hZ : Z.Warmed39 s.vm) (eT : T.heap = h) {a : Addr} {n : Nat} {g : Nat → Int32} (A : AV Z h a .int n (iF g)) {j : Int32} {i : Nat} (hj : j.toInt = (i : Int)) (hi : i < n) {z : Int32} (hv : g i = z) (hd : Dc c.code pc .iaload 1 pc') (k : Go p e below s Q C S (T.setTop (mkF m pc' Ls (.int z :: rest)))) : Go p e below s Q C S (T.setTop (mkF m pc Ls (.int j :: .ref a :: rest))) := by
  obtain ⟨hd, rfl⟩ := hd
  subst hv
  obtain ⟨h1, cl, A, r1, r2⟩ := A
  obtain ⟨q1, q2⟩ := av_idx hj hi r1
  exact k.step fun t q => X.iaload hx (by rw [eT]; exact A.1) (State.isArrayOf_alike hZ.alike A.2.1) A.2.2 q1 (by rw [q2, r2 i hi]; rfl) (g := mkF m pc Ls (.int j :: .ref a :: rest)) rfl rfl hd t q
theorem w_laload (X : Stand p l e R s m args below meth c T locs cells slots) (hx : p.tables.exec = Jvm.exec) (hZ : Z.Warmed39 s.vm) (eT : T.heap = h) {a : Addr} {n : Nat} {g : Nat → Int64} (A : AV Z h a .long n (lF g)) {j : Int32} {i : Nat} (hj : j.toInt = (i : Int)) (hi : i < n) {z : Int64} (hv : g i = z) (hd : Dc c.code pc .laload 1 pc') (k : Go p e below s Q C S (T.setTop (mkF m pc' Ls (.long z :: rest)))) : Go p e below s Q C S (T.setTop (mkF m pc Ls (.int j :: .ref a :: rest))) := by
  obtain ⟨hd, rfl⟩ := hd
  subst hv
  obtain ⟨h1, cl, A, r1, r2⟩ := A
  obtain ⟨q1, q2⟩ := av_idx hj hi r1
  exact k.step fun t q => X.laload hx (by rw [eT]; exact A.1) (State.isArrayOf_alike hZ.alike A.2.1) A.2.2 q1 (by rw [q2, r2 i hi]; rfl) (g := mkF m pc Ls (.int j :: .ref a :: rest)) rfl rfl hd t q
theorem w_zaload (X : Stand p l e R s m args below meth c T locs cells slots) (hx : p.tables.exec = Jvm.exec) (hZ : Z.Warmed39 s.vm) (eT : T.heap = h) {a : Addr} {n : Nat} {g : Nat → Int32} (A : AV Z h a .boolean n (iF g)) {j : Int32} {i : Nat} (hj : j.toInt = (i : Int)) (hi : i < n) {z : Int32} (hv : g i = z) (hd : Dc c.code pc .baload 1 pc') (k : Go p e below s Q C S (T.setTop (mkF m pc' Ls (.int z :: rest)))) : Go p e below s Q C S (T.setTop (mkF m pc Ls (.int j :: .ref a :: rest))) := by
  obtain ⟨hd, rfl⟩ := hd
  subst hv
  obtain ⟨h1, cl, A, r1, r2⟩ := A
  obtain ⟨q1, q2⟩ := av_idx hj hi r1
  exact k.step fun t q => X.baloadBooleans hx (by rw [eT]; exact A.1) (State.isArrayOf_alike hZ.alike A.2.1) A.2.2 q1 (by rw [q2, r2 i hi]; rfl) (g := mkF m pc Ls (.int j :: .ref a :: rest)) rfl rfl hd t q
theorem w_bastore (X : Stand p l e R s m args below meth c T locs cells slots) (hx : p.tables.exec = Jvm.exec) (hZ : Z.Warmed39 s.vm) (eT : T.heap = h) {a : Addr} {n : Nat} {g : Nat → Int32} (A : AV Z h a .byte n (iF g)) {j : Int32} {x : Int32} {i : Nat} (hj : j.toInt = (i : Int)) (hi : i < n) (hd : Dc c.code pc .bastore 1 pc')
    (k : ∀ T' h', Stand p l e R s m args below meth c T' (locs ++ [⟨a, i⟩]) cells slots → T'.heap = h' → Wr h h' a i (.int (x.toInt8.toInt32)) → AV Z h' a .byte n (iF (upd g i (x.toInt8.toInt32))) → Go p e below s Q C S (T'.setTop (mkF m pc' Ls rest))) : Go p e below s Q C S (T.setTop (mkF m pc Ls (.int x :: .int j :: .ref a :: rest))) := by
  obtain ⟨hd, rfl⟩ := hd
  have A' := A
  obtain ⟨h1, cl, A, r1, r2⟩ := A
  obtain ⟨q1, q2⟩ := av_idx hj hi r1
  obtain ⟨T', h', X', e', W, st⟩ := stB X hx hZ eT A (j := j) q1 (g := mkF m pc Ls (.int x :: .int j :: .ref a :: rest)) rfl rfl hd
  rw [q2] at X' W
  exact (k T' h' X' e' W (put_iF g i _ ▸ A'.same hi W)).step st
theorem w_zastore (X : Stand p l e R s m args below meth c T locs cells slots) (hx : p.tables.exec = Jvm.exec) (hZ : Z.Warmed39 s.vm) (eT : T.heap = h) {a : Addr} {n : Nat} {g : Nat → Int32} (A : AV Z h a .boolean n (iF g)) {j : Int32} {x : Int32} {i : Nat} (hj : j.toInt = (i : Int)) (hi : i < n) (hd : Dc c.code pc .bastore 1 pc')
    (k : ∀ T' h', Stand p l e R s m args below meth c T' (locs ++ [⟨a, i⟩]) cells slots → T'.heap = h' → Wr h h' a i (.int (x &&& 1)) → AV Z h' a .boolean n (iF (upd g i (x &&& 1))) → Go p e below s Q C S (T'.setTop (mkF m pc' Ls rest))) : Go p e below s Q C S (T.setTop (mkF m pc Ls (.int x :: .int j :: .ref a :: rest))) := by
  obtain ⟨hd, rfl⟩ := hd
  have A' := A
  obtain ⟨h1, cl, A, r1, r2⟩ := A
  obtain ⟨q1, q2⟩ := av_idx hj hi r1
  obtain ⟨T', h', X', e', W, st⟩ := stZ X hx hZ eT A (j := j) q1 (g := mkF m pc Ls (.int x :: .int j :: .ref a :: rest)) rfl rfl hd
  rw [q2] at X' W
  exact (k T' h' X' e' W (put_iF g i _ ▸ A'.same hi W)).step st
theorem w_iastore (X : Stand p l e R s m args below meth c T locs cells slots) (hx : p.tables.exec = Jvm.exec) (hZ : Z.Warmed39 s.vm) (eT : T.heap = h) {a : Addr} {n : Nat} {g : Nat → Int32} (A : AV Z h a .int n (iF g)) {j : Int32} {x : Int32} {i : Nat} (hj : j.toInt = (i : Int)) (hi : i < n) (hd : Dc c.code pc .iastore 1 pc')
    (k : ∀ T' h', Stand p l e R s m args below meth c T' (locs ++ [⟨a, i⟩]) cells slots → T'.heap = h' → Wr h h' a i (.int (x)) → AV Z h' a .int n (iF (upd g i (x))) → Go p e below s Q C S (T'.setTop (mkF m pc' Ls rest))) : Go p e below s Q C S (T.setTop (mkF m pc Ls (.int x :: .int j :: .ref a :: rest))) := by
  obtain ⟨hd, rfl⟩ := hd
  have A' := A
  obtain ⟨h1, cl, A, r1, r2⟩ := A
  obtain ⟨q1, q2⟩ := av_idx hj hi r1
  obtain ⟨T', h', X', e', W, st⟩ := stI X hx hZ eT A (j := j) q1 (g := mkF m pc Ls (.int x :: .int j :: .ref a :: rest)) rfl rfl hd
  rw [q2] at X' W
  exact (k T' h' X' e' W (put_iF g i _ ▸ A'.same hi W)).step st
theorem w_lastore (X : Stand p l e R s m args below meth c T locs cells slots) (hx : p.tables.exec = Jvm.exec) (hZ : Z.Warmed39 s.vm) (eT : T.heap = h) {a : Addr} {n : Nat} {g : Nat → Int64} (A : AV Z h a .long n (lF g)) {j : Int32} {x : Int64} {i : Nat} (hj : j.toInt = (i : Int)) (hi : i < n) (hd : Dc c.code pc .lastore 1 pc')
    (k : ∀ T' h', Stand p l e R s m args below meth c T' (locs ++ [⟨a, i⟩]) cells slots → T'.heap = h' → Wr h h' a i (.long (x)) → AV Z h' a .long n (lF (upd g i (x))) → Go p e below s Q C S (T'.setTop (mkF m pc' Ls rest))) : Go p e below s Q C S (T.setTop (mkF m pc Ls (.long x :: .int j :: .ref a :: rest))) := by
  obtain ⟨hd, rfl⟩ := hd
  have A' := A
  obtain ⟨h1, cl, A, r1, r2⟩ := A
  obtain ⟨q1, q2⟩ := av_idx hj hi r1
  obtain ⟨T', h', X', e', W, st⟩ := stJ X hx hZ eT A (j := j) q1 (g := mkF m pc Ls (.long x :: .int j :: .ref a :: rest)) rfl rfl hd
  rw [q2] at X' W
  exact (k T' h' X' e' W (put_lF g i _ ▸ A'.same hi W)).step st
end Kit
section Num
/-! numbers: an int's or a long's unsigned worth -/
def u32 (x : Int32) : Nat := x.toBitVec.toNat
def u64 (x : Int64) : Nat := x.toBitVec.toNat
theorem u32_lt (x : Int32) : u32 x < 4294967296 := x.toBitVec.isLt
theorem u64_lt (x : Int64) : u64 x < 18446744073709551616 := x.toBitVec.isLt
theorem i_u32 (x : Int32) : x.toInt = if u32 x < 2147483648 then (u32 x : Int) else (u32 x : Int) - 4294967296 := by
  show x.toBitVec.toInt = _
  rw [BitVec.toInt_eq_toNat_cond]; unfold u32; split <;> split <;> omega
theorem i_u64 (x : Int64) : x.toInt = if u64 x < 9223372036854775808 then (u64 x : Int) else (u64 x : Int) - 18446744073709551616 := by
  show x.toBitVec.toInt = _
  rw [BitVec.toInt_eq_toNat_cond]; unfold u64; split <;> split <;> omega
theorem u32_i (x : Int32) : (u32 x : Int) = x.toInt % 4294967296 := by have := u32_lt x; rw [i_u32]; split <;> omega
theorem u64_i (x : Int64) : (u64 x : Int) = x.toInt % 18446744073709551616 := by have := u64_lt x; rw [i_u64]; split <;> omega
theorem u32_inj {x y : Int32} (q : u32 x = u32 y) : x = y := Int32.toBitVec_inj.mp (BitVec.eq_of_toNat_eq q)
theorem u64_inj {x y : Int64} (q : u64 x = u64 y) : x = y := Int64.toBitVec_inj.mp (BitVec.eq_of_toNat_eq q)
theorem i32_inj {x y : Int32} (q : x.toInt = y.toInt) : x = y := Int32.toInt_inj.mp q
theorem i64_inj {x y : Int64} (q : x.toInt = y.toInt) : x = y := Int64.toInt_inj.mp q
theorem i32_ne {x y : Int32} (q : x ≠ y) : x.toInt ≠ y.toInt := fun e => q (Int32.toInt_inj.mp e)
theorem i64_ne {x y : Int64} (q : x ≠ y) : x.toInt ≠ y.toInt := fun e => q (Int64.toInt_inj.mp e)
theorem i_rng32 (x : Int32) : -2147483648 ≤ x.toInt ∧ x.toInt ≤ 2147483647 := by have := u32_lt x; rw [i_u32]; split <;> omega
theorem i_rng64 (x : Int64) : -9223372036854775808 ≤ x.toInt ∧ x.toInt ≤ 9223372036854775807 := by have := u64_lt x; rw [i_u64]; split <;> omega
theorem u32_and (x m : Int32) {k : Nat} (hm : u32 m = 2 ^ k - 1) : u32 (x &&& m) = u32 x % 2 ^ k := by
  unfold u32 at *; rw [Int32.toBitVec_and, BitVec.toNat_and, hm, Nat.and_two_pow_sub_one_eq_mod]
theorem u64_and (x m : Int64) {k : Nat} (hm : u64 m = 2 ^ k - 1) : u64 (x &&& m) = u64 x % 2 ^ k := by
  unfold u64 at *; rw [Int64.toBitVec_and, BitVec.toNat_and, hm, Nat.and_two_pow_sub_one_eq_mod]
theorem and_or64 (x y z : Int64) : x &&& (y ||| z) = (x &&& y) ||| (x &&& z) := by
  apply Int64.toBitVec_inj.mp
  simp only [Int64.toBitVec_and, Int64.toBitVec_or]
  exact BitVec.and_or_distrib_left
theorem or_add {a b : Nat} (k : Nat) (ha : a % 2 ^ k = 0) (hb : b < 2 ^ k) : a ||| b = a + b := by
  obtain ⟨q, rfl⟩ := Nat.dvd_of_mod_eq_zero ha
  exact (Nat.two_pow_add_eq_or_of_lt hb q).symm
theorem u32_or {x y : Int32} (k : Nat) (ha : u32 x % 2 ^ k = 0) (hb : u32 y < 2 ^ k) : u32 (x ||| y) = u32 x + u32 y := by
  unfold u32 at *; rw [Int32.toBitVec_or, BitVec.toNat_or, or_add k ha hb]
theorem u64_or {x y : Int64} (k : Nat) (ha : u64 x % 2 ^ k = 0) (hb : u64 y < 2 ^ k) : u64 (x ||| y) = u64 x + u64 y := by
  unfold u64 at *; rw [Int64.toBitVec_or, BitVec.toNat_or, or_add k ha hb]
theorem u32_add (x y : Int32) : u32 (x + y) = (u32 x + u32 y) % 4294967296 := by unfold u32; rw [Int32.toBitVec_add, BitVec.toNat_add]
theorem u64_add (x y : Int64) : u64 (x + y) = (u64 x + u64 y) % 18446744073709551616 := by unfold u64; rw [Int64.toBitVec_add, BitVec.toNat_add]
theorem i_ofNat {k : Nat} (hk : k < 2147483648) : (Int32.ofNat k).toInt = (k : Int) := Int32.toInt_ofNat_of_lt (by omega)
theorem of_i {y : Int32} {k : Nat} (q : y.toInt = (k : Int)) : y = Int32.ofNat k := by
  have := i_rng32 y
  exact Int32.toInt_inj.mp (by rw [i_ofNat (by omega)]; exact q)
theorem sh64a : ∀ k : Fin 64, (((Int32.ofNat k.val &&& 0x3f).toInt64).toBitVec.smod 64).toNat = k.val := by decide +kernel
theorem sh64b : ∀ k : Fin 64, ((Int32.ofNat k.val &&& 0x3f).toInt64.toUInt64.toBitVec % 64).toNat = k.val := by decide +kernel
theorem sh32a : ∀ k : Fin 32, ((Int32.ofNat k.val &&& 31).toBitVec.smod 32).toNat = k.val := by decide +kernel
theorem sh32b : ∀ k : Fin 32, ((Int32.ofNat k.val &&& 31).toUInt32.toBitVec % 32).toNat = k.val := by decide +kernel
theorem u_lshl (x : Int64) {y : Int32} {k : Nat} (q : y.toInt = (k : Int)) (hk : k < 64) : u64 (LShl x y) = u64 x * 2 ^ k % 18446744073709551616 := by
  have e := sh64a ⟨k, hk⟩
  rw [of_i q]; unfold u64 LShl
  rw [Int64.toBitVec_shiftLeft, BitVec.shiftLeft_eq', e, BitVec.toNat_shiftLeft, Nat.shiftLeft_eq]
theorem i_lshr (x : Int64) {y : Int32} {k : Nat} (q : y.toInt = (k : Int)) (hk : k < 64) : (LShr x y).toInt = x.toInt / 2 ^ k := by
  have e := sh64a ⟨k, hk⟩
  rw [of_i q]; unfold LShr
  exact Jvm.Kit.i64_shr x _ e
theorem u_lushr (x : Int64) {y : Int32} {k : Nat} (q : y.toInt = (k : Int)) (hk : k < 64) : u64 (LUshr x y) = u64 x / 2 ^ k := by
  have e := sh64b ⟨k, hk⟩
  rw [of_i q]; unfold u64 LUshr
  show (x.toUInt64 >>> (Int32.ofNat k &&& 0x3f).toInt64.toUInt64).toBitVec.toNat = _
  rw [UInt64.toBitVec_shiftRight, BitVec.ushiftRight_eq', e, BitVec.toNat_ushiftRight, Nat.shiftRight_eq_div_pow]; rfl
theorem u_ishl (x : Int32) {y : Int32} {k : Nat} (q : y.toInt = (k : Int)) (hk : k < 32) : u32 (IShl x y) = u32 x * 2 ^ k % 4294967296 := by
  have e := sh32a ⟨k, hk⟩
  rw [of_i q]; unfold u32 IShl
  rw [Int32.toBitVec_shiftLeft, BitVec.shiftLeft_eq', e, BitVec.toNat_shiftLeft, Nat.shiftLeft_eq]
theorem i_ishr (x : Int32) {y : Int32} {k : Nat} (q : y.toInt = (k : Int)) (hk : k < 32) : (IShr x y).toInt = x.toInt / 2 ^ k := by
  have e := sh32a ⟨k, hk⟩
  rw [of_i q]; unfold IShr
  exact Jvm.Kit.i32_shr x _ e
theorem u_iushr (x : Int32) {y : Int32} {k : Nat} (q : y.toInt = (k : Int)) (hk : k < 32) : u32 (IUshr x y) = u32 x / 2 ^ k := by
  have e := sh32b ⟨k, hk⟩
  rw [of_i q]; unfold u32 IUshr
  show (x.toUInt32 >>> (Int32.ofNat k &&& 31).toUInt32).toBitVec.toNat = _
  rw [UInt32.toBitVec_shiftRight, BitVec.ushiftRight_eq', e, BitVec.toNat_ushiftRight, Nat.shiftRight_eq_div_pow]; rfl
theorem i_i2l (x : Int32) : x.toInt64.toInt = x.toInt := Int32.toInt_toInt64 x
theorem u_l2i (x : Int64) : u32 x.toInt32 = u64 x % 4294967296 := by
  have h1 := u32_i x.toInt32; have h2 := u64_i x
  have e : x.toInt.bmod (2 ^ 32) % 4294967296 = x.toInt % 4294967296 := Int.bmod_emod
  rw [Int64.toInt_toInt32, e] at h1
  omega
theorem i_i2b (x : Int32) : x.toInt8.toInt32.toInt = if x.toInt % 256 < 128 then x.toInt % 256 else x.toInt % 256 - 256 := by
  rw [Int8.toInt_toInt32, Int32.toInt_toInt8, Int.bmod_def]; split <;> split <;> omega
theorem u_i2b (x : Int32) : u32 x.toInt8.toInt32 % 256 = u32 x % 256 := by
  have h1 := u32_i x.toInt8.toInt32; have h2 := u32_i x; rw [i_i2b] at h1; split at h1 <;> omega
end Num
theorem d0_0 : Dc code 0 (.iload_n 0) 1 1 := ⟨at_0, rfl⟩
theorem d0_1 : Dc code 1 (.ldc 7) 2 3 := ⟨at_1, rfl⟩
theorem d0_3 : Dc code 3 (.iand) 1 4 := ⟨at_3, rfl⟩
theorem d0_4 : Dc code 4 (.istore 6) 2 6 := ⟨at_4, rfl⟩
theorem d0_6 : Dc code 6 (.iload_n 1) 1 7 := ⟨at_6, rfl⟩
theorem d0_7 : Dc code 7 (.bipush 63) 2 9 := ⟨at_7, rfl⟩
theorem d0_9 : Dc code 9 (.iand) 1 10 := ⟨at_9, rfl⟩
theorem d0_10 : Dc code 10 (.istore 7) 2 12 := ⟨at_10, rfl⟩
theorem d0_12 : Dc code 12 (.iload_n 2) 1 13 := ⟨at_12, rfl⟩
theorem d0_13 : Dc code 13 (.ldc 7) 2 15 := ⟨at_13, rfl⟩
theorem d0_15 : Dc code 15 (.iand) 1 16 := ⟨at_15, rfl⟩
theorem d0_16 : Dc code 16 (.istore 8) 2 18 := ⟨at_16, rfl⟩
theorem d0_18 : Dc code 18 (.iload_n 3) 1 19 := ⟨at_18, rfl⟩
theorem d0_19 : Dc code 19 (.bipush 63) 2 21 := ⟨at_19, rfl⟩
theorem d0_21 : Dc code 21 (.iand) 1 22 := ⟨at_21, rfl⟩
theorem d0_22 : Dc code 22 (.istore 9) 2 24 := ⟨at_22, rfl⟩
theorem d0_24 : Dc code 24 (.iload 6) 2 26 := ⟨at_24, rfl⟩
theorem d0_26 : Dc code 26 (.iload 7) 2 28 := ⟨at_26, rfl⟩
theorem d0_28 : Dc code 28 (.invokestatic 8) 3 31 := ⟨at_28, rfl⟩
theorem d0_31 : Dc code 31 (.lstore 10) 2 33 := ⟨at_31, rfl⟩
theorem d0_33 : Dc code 33 (.iload 8) 2 35 := ⟨at_33, rfl⟩
theorem d0_35 : Dc code 35 (.iload 9) 2 37 := ⟨at_35, rfl⟩
theorem d0_37 : Dc code 37 (.invokestatic 8) 3 40 := ⟨at_37, rfl⟩
theorem d0_40 : Dc code 40 (.lstore 12) 2 42 := ⟨at_40, rfl⟩
theorem d0_42 : Dc code 42 (.lload 10) 2 44 := ⟨at_42, rfl⟩
theorem d0_44 : Dc code 44 (.ldc2_w 14) 3 47 := ⟨at_44, rfl⟩
theorem d0_47 : Dc code 47 (.land) 1 48 := ⟨at_47, rfl⟩
theorem d0_48 : Dc code 48 (.ldc2_w 16) 3 51 := ⟨at_48, rfl⟩
theorem d0_51 : Dc code 51 (.lcmp) 1 52 := ⟨at_51, rfl⟩
theorem d0_52 : Dj code 52 (.ifCond .ne 7) 7 59 55 := ⟨at_52, by decide, by decide, rfl⟩
theorem d0_55 : Dc code 55 (.iconst 1) 1 56 := ⟨at_55, rfl⟩
theorem d0_56 : Dj code 56 (.goto 4) 4 60 59 := ⟨at_56, by decide, by decide, rfl⟩
theorem d0_60 : Dc code 60 (.istore 14) 2 62 := ⟨at_60, rfl⟩
theorem d0_62 : Dc code 62 (.lload 10) 2 64 := ⟨at_62, rfl⟩
theorem d0_64 : Dc code 64 (.invokestatic 18) 3 67 := ⟨at_64, rfl⟩
theorem d0_67 : Dc code 67 (.iload 6) 2 69 := ⟨at_67, rfl⟩
theorem d0_69 : Dj code 69 (.if_icmp .ne 17) 17 86 72 := ⟨at_69, by decide, by decide, rfl⟩
theorem d0_72 : Dc code 72 (.lload 10) 2 74 := ⟨at_72, rfl⟩
theorem d0_74 : Dc code 74 (.invokestatic 22) 3 77 := ⟨at_74, rfl⟩
theorem d0_77 : Dc code 77 (.iload 7) 2 79 := ⟨at_77, rfl⟩
theorem d0_79 : Dj code 79 (.if_icmp .ne 7) 7 86 82 := ⟨at_79, by decide, by decide, rfl⟩
theorem d0_82 : Dc code 82 (.iconst 1) 1 83 := ⟨at_82, rfl⟩
theorem d0_83 : Dj code 83 (.goto 4) 4 87 86 := ⟨at_83, by decide, by decide, rfl⟩
theorem d0_87 : Dc code 87 (.istore 15) 2 89 := ⟨at_87, rfl⟩
theorem d0_89 : Dc code 89 (.iload 6) 2 91 := ⟨at_89, rfl⟩
theorem d0_91 : Dc code 91 (.iload 8) 2 93 := ⟨at_91, rfl⟩
theorem d0_93 : Dj code 93 (.if_icmp .lt 17) 17 110 96 := ⟨at_93, by decide, by decide, rfl⟩
theorem d0_96 : Dc code 96 (.iload 6) 2 98 := ⟨at_96, rfl⟩
theorem d0_98 : Dc code 98 (.iload 8) 2 100 := ⟨at_98, rfl⟩
theorem d0_100 : Dj code 100 (.if_icmp .ne 14) 14 114 103 := ⟨at_100, by decide, by decide, rfl⟩
theorem d0_103 : Dc code 103 (.iload 7) 2 105 := ⟨at_103, rfl⟩
theorem d0_105 : Dc code 105 (.iload 9) 2 107 := ⟨at_105, rfl⟩
theorem d0_107 : Dj code 107 (.if_icmp .ge 7) 7 114 110 := ⟨at_107, by decide, by decide, rfl⟩
theorem d0_110 : Dc code 110 (.iconst 1) 1 111 := ⟨at_110, rfl⟩
theorem d0_111 : Dj code 111 (.goto 4) 4 115 114 := ⟨at_111, by decide, by decide, rfl⟩
theorem d0_114 : Dc code 114 (.iconst 0) 1 115 := ⟨at_114, rfl⟩
theorem d0_115 : Dc code 115 (.istore 16) 2 117 := ⟨at_115, rfl⟩
theorem d0_117 : Dc code 117 (.iload 6) 2 119 := ⟨at_117, rfl⟩
theorem d0_119 : Dc code 119 (.iload 8) 2 121 := ⟨at_119, rfl⟩
theorem d0_121 : Dj code 121 (.if_icmp .ne 14) 14 135 124 := ⟨at_121, by decide, by decide, rfl⟩
theorem d0_124 : Dc code 124 (.iload 7) 2 126 := ⟨at_124, rfl⟩
theorem d0_126 : Dc code 126 (.iload 9) 2 128 := ⟨at_126, rfl⟩
theorem d0_128 : Dj code 128 (.if_icmp .ne 7) 7 135 131 := ⟨at_128, by decide, by decide, rfl⟩
theorem d0_131 : Dc code 131 (.iconst 1) 1 132 := ⟨at_131, rfl⟩
theorem d0_132 : Dj code 132 (.goto 4) 4 136 135 := ⟨at_132, by decide, by decide, rfl⟩
theorem d0_135 : Dc code 135 (.iconst 0) 1 136 := ⟨at_135, rfl⟩
theorem d0_136 : Dc code 136 (.istore 17) 2 138 := ⟨at_136, rfl⟩
theorem d0_138 : Dc code 138 (.lload 10) 2 140 := ⟨at_138, rfl⟩
theorem d0_140 : Dc code 140 (.lload 12) 2 142 := ⟨at_140, rfl⟩
theorem d0_142 : Dc code 142 (.lcmp) 1 143 := ⟨at_142, rfl⟩
theorem d0_143 : Dj code 143 (.ifCond .ge 7) 7 150 146 := ⟨at_143, by decide, by decide, rfl⟩
theorem d0_146 : Dc code 146 (.iconst 1) 1 147 := ⟨at_146, rfl⟩
theorem d0_147 : Dj code 147 (.goto 4) 4 151 150 := ⟨at_147, by decide, by decide, rfl⟩
theorem d0_150 : Dc code 150 (.iconst 0) 1 151 := ⟨at_150, rfl⟩
theorem d0_151 : Dc code 151 (.iload 16) 2 153 := ⟨at_151, rfl⟩
theorem d0_153 : Dj code 153 (.if_icmp .ne 25) 25 178 156 := ⟨at_153, by decide, by decide, rfl⟩
theorem d0_156 : Dc code 156 (.lload 10) 2 158 := ⟨at_156, rfl⟩
theorem d0_158 : Dc code 158 (.lload 12) 2 160 := ⟨at_158, rfl⟩
theorem d0_160 : Dc code 160 (.lcmp) 1 161 := ⟨at_160, rfl⟩
theorem d0_161 : Dj code 161 (.ifCond .ne 7) 7 168 164 := ⟨at_161, by decide, by decide, rfl⟩
theorem d0_164 : Dc code 164 (.iconst 1) 1 165 := ⟨at_164, rfl⟩
theorem d0_165 : Dj code 165 (.goto 4) 4 169 168 := ⟨at_165, by decide, by decide, rfl⟩
theorem d0_168 : Dc code 168 (.iconst 0) 1 169 := ⟨at_168, rfl⟩
theorem d0_169 : Dc code 169 (.iload 17) 2 171 := ⟨at_169, rfl⟩
theorem d0_171 : Dj code 171 (.if_icmp .ne 7) 7 178 174 := ⟨at_171, by decide, by decide, rfl⟩
theorem d0_174 : Dc code 174 (.iconst 1) 1 175 := ⟨at_174, rfl⟩
theorem d0_175 : Dj code 175 (.goto 4) 4 179 178 := ⟨at_175, by decide, by decide, rfl⟩
theorem d0_179 : Dc code 179 (.istore 18) 2 181 := ⟨at_179, rfl⟩
theorem d0_181 : Dc code 181 (.iload 4) 2 183 := ⟨at_181, rfl⟩
theorem d0_183 : Dc code 183 (.bipush 8) 2 185 := ⟨at_183, rfl⟩
theorem d0_185 : Dc code 185 (.ishr) 1 186 := ⟨at_185, rfl⟩
theorem d0_186 : Dc code 186 (.i2l) 1 187 := ⟨at_186, rfl⟩
theorem d0_187 : Dc code 187 (.ldc2_w 25) 3 190 := ⟨at_187, rfl⟩
theorem d0_190 : Dc code 190 (.invokestatic 27) 3 193 := ⟨at_190, rfl⟩
theorem d0_193 : Dc code 193 (.lstore 19) 2 195 := ⟨at_193, rfl⟩
theorem d0_195 : Dc code 195 (.iload 5) 2 197 := ⟨at_195, rfl⟩
theorem d0_197 : Dc code 197 (.ldc 33) 2 199 := ⟨at_197, rfl⟩
theorem d0_199 : Dc code 199 (.iand) 1 200 := ⟨at_199, rfl⟩
theorem d0_200 : Dc code 200 (.i2l) 1 201 := ⟨at_200, rfl⟩
theorem d0_201 : Dc code 201 (.lstore 21) 2 203 := ⟨at_201, rfl⟩
theorem d0_203 : Dc code 203 (.lload 19) 2 205 := ⟨at_203, rfl⟩
theorem d0_205 : Dc code 205 (.bipush 32) 2 207 := ⟨at_205, rfl⟩
theorem d0_207 : Dc code 207 (.lshl) 1 208 := ⟨at_207, rfl⟩
theorem d0_208 : Dc code 208 (.lload 21) 2 210 := ⟨at_208, rfl⟩
theorem d0_210 : Dc code 210 (.lor) 1 211 := ⟨at_210, rfl⟩
theorem d0_211 : Dc code 211 (.lstore 23) 2 213 := ⟨at_211, rfl⟩
theorem d0_213 : Dc code 213 (.lload 23) 2 215 := ⟨at_213, rfl⟩
theorem d0_215 : Dc code 215 (.iload 8) 2 217 := ⟨at_215, rfl⟩
theorem d0_217 : Dc code 217 (.iload 9) 2 219 := ⟨at_217, rfl⟩
theorem d0_219 : Dc code 219 (.invokestatic 34) 3 222 := ⟨at_219, rfl⟩
theorem d0_222 : Dc code 222 (.lload 10) 2 224 := ⟨at_222, rfl⟩
theorem d0_224 : Dc code 224 (.lcmp) 1 225 := ⟨at_224, rfl⟩
theorem d0_225 : Dj code 225 (.ifCond .ge 7) 7 232 228 := ⟨at_225, by decide, by decide, rfl⟩
theorem d0_228 : Dc code 228 (.iconst 1) 1 229 := ⟨at_228, rfl⟩
theorem d0_229 : Dj code 229 (.goto 4) 4 233 232 := ⟨at_229, by decide, by decide, rfl⟩
theorem d0_233 : Dc code 233 (.istore 25) 2 235 := ⟨at_233, rfl⟩
theorem d0_235 : Dc code 235 (.iload 14) 2 237 := ⟨at_235, rfl⟩
theorem d0_237 : Dj code 237 (.ifCond .eq 22) 22 259 240 := ⟨at_237, by decide, by decide, rfl⟩
theorem d0_240 : Dc code 240 (.iload 15) 2 242 := ⟨at_240, rfl⟩
theorem d0_242 : Dj code 242 (.ifCond .eq 17) 17 259 245 := ⟨at_242, by decide, by decide, rfl⟩
theorem d0_245 : Dc code 245 (.iload 18) 2 247 := ⟨at_245, rfl⟩
theorem d0_247 : Dj code 247 (.ifCond .eq 12) 12 259 250 := ⟨at_247, by decide, by decide, rfl⟩
theorem d0_250 : Dc code 250 (.iload 25) 2 252 := ⟨at_250, rfl⟩
theorem d0_252 : Dj code 252 (.ifCond .eq 7) 7 259 255 := ⟨at_252, by decide, by decide, rfl⟩
theorem d0_255 : Dc code 255 (.iconst 1) 1 256 := ⟨at_255, rfl⟩
theorem d0_256 : Dj code 256 (.goto 4) 4 260 259 := ⟨at_256, by decide, by decide, rfl⟩
theorem d0_260 : Dc code 260 (.ireturn) 1 261 := ⟨at_260, rfl⟩
theorem pn_0 : plainFor x = true := plainFor_of_name (by first | (simp [plainName, overriddenIn]; done) | decide +kernel)
theorem ef_0 (m : MethodId) (x0 : Int32) (x1 : Int32) (x2 : Int32) (x3 : Int32) (x4 : Int32) (x5 : Int32) : entryFrame m #[(.int x0), (.int x1), (.int x2), (.int x3), (.int x4), (.int x5)] maxLocals = mkF m 0 #[.val (.int x0), .val (.int x1), .val (.int x2), .val (.int x3), .val (.int x4), .val (.int x5), .unset, .unset, .unset, .unset, .unset, .unset, .unset, .unset, .unset, .unset, .unset, .unset, .unset, .unset, .unset, .unset, .unset, .unset, .unset, .unset] [] := by first | (simp [entryFrame, mkF, argsToLocals, Value.category, maxLocals]; done) | rfl
theorem d1_0 : Dc prog_24_method_3_code 0 (.ldc2_w 13) 3 3 := ⟨by decide +kernel, rfl⟩
theorem d1_3 : Dc prog_24_method_3_code 3 (.iload_n 0) 1 4 := ⟨by decide +kernel, rfl⟩
theorem d1_4 : Dc prog_24_method_3_code 4 (.i2l) 1 5 := ⟨by decide +kernel, rfl⟩
theorem d1_5 : Dc prog_24_method_3_code 5 (.bipush 6) 2 7 := ⟨by decide +kernel, rfl⟩
theorem d1_7 : Dc prog_24_method_3_code 7 (.lshl) 1 8 := ⟨by decide +kernel, rfl⟩
theorem d1_8 : Dc prog_24_method_3_code 8 (.lor) 1 9 := ⟨by decide +kernel, rfl⟩
theorem d1_9 : Dc prog_24_method_3_code 9 (.iload_n 1) 1 10 := ⟨by decide +kernel, rfl⟩
theorem d1_10 : Dc prog_24_method_3_code 10 (.i2l) 1 11 := ⟨by decide +kernel, rfl⟩
theorem d1_11 : Dc prog_24_method_3_code 11 (.lor) 1 12 := ⟨by decide +kernel, rfl⟩
theorem d1_12 : Dc prog_24_method_3_code 12 (.lreturn) 1 13 := ⟨by decide +kernel, rfl⟩
theorem pn_1 : plainFor (⟨"com/example/parts_to_nodes/partstonodes/placement/OfferKeys", "unreached", "(II)J"⟩ : MethodName) = true := plainFor_of_name (by first | (simp [plainName, overriddenIn]; done) | decide +kernel)
theorem ef_1 (m : MethodId) (x0 : Int32) (x1 : Int32) : entryFrame m #[(.int x0), (.int x1)] 2 = mkF m 0 #[.val (.int x0), .val (.int x1)] [] := by first | (simp [entryFrame, mkF, argsToLocals, Value.category]; done) | rfl
theorem d2_0 : Dc prog_24_method_5_code 0 (.lload_n 0) 1 1 := ⟨by decide +kernel, rfl⟩
theorem d2_1 : Dc prog_24_method_5_code 1 (.bipush 6) 2 3 := ⟨by decide +kernel, rfl⟩
theorem d2_3 : Dc prog_24_method_5_code 3 (.lushr) 1 4 := ⟨by decide +kernel, rfl⟩
theorem d2_4 : Dc prog_24_method_5_code 4 (.l2i) 1 5 := ⟨by decide +kernel, rfl⟩
theorem d2_5 : Dc prog_24_method_5_code 5 (.ldc 17) 2 7 := ⟨by decide +kernel, rfl⟩
theorem d2_7 : Dc prog_24_method_5_code 7 (.iand) 1 8 := ⟨by decide +kernel, rfl⟩
theorem d2_8 : Dc prog_24_method_5_code 8 (.ireturn) 1 9 := ⟨by decide +kernel, rfl⟩
theorem pn_2 : plainFor (⟨"com/example/parts_to_nodes/partstonodes/placement/OfferKeys", "partition", "(J)I"⟩ : MethodName) = true := plainFor_of_name (by first | (simp [plainName, overriddenIn]; done) | decide +kernel)
theorem ef_2 (m : MethodId) (x0 : Int64) : entryFrame m #[(.long x0)] 2 = mkF m 0 #[.val (.long x0), .second] [] := by first | (simp [entryFrame, mkF, argsToLocals, Value.category]; done) | rfl
theorem d3_0 : Dc prog_24_method_6_code 0 (.lload_n 0) 1 1 := ⟨by decide +kernel, rfl⟩
theorem d3_1 : Dc prog_24_method_6_code 1 (.l2i) 1 2 := ⟨by decide +kernel, rfl⟩
theorem d3_2 : Dc prog_24_method_6_code 2 (.bipush 63) 2 4 := ⟨by decide +kernel, rfl⟩
theorem d3_4 : Dc prog_24_method_6_code 4 (.iand) 1 5 := ⟨by decide +kernel, rfl⟩
theorem d3_5 : Dc prog_24_method_6_code 5 (.ireturn) 1 6 := ⟨by decide +kernel, rfl⟩
theorem pn_3 : plainFor (⟨"com/example/parts_to_nodes/partstonodes/placement/OfferKeys", "entry", "(J)I"⟩ : MethodName) = true := plainFor_of_name (by first | (simp [plainName, overriddenIn]; done) | decide +kernel)
theorem ef_3 (m : MethodId) (x0 : Int64) : entryFrame m #[(.long x0)] 2 = mkF m 0 #[.val (.long x0), .second] [] := by first | (simp [entryFrame, mkF, argsToLocals, Value.category]; done) | rfl
theorem d4_0 : Dc jdk_29_method_70_code 0 (.lload_n 0) 1 1 := ⟨by decide +kernel, rfl⟩
theorem d4_1 : Dc jdk_29_method_70_code 1 (.lload_n 2) 1 2 := ⟨by decide +kernel, rfl⟩
theorem d4_2 : Dc jdk_29_method_70_code 2 (.lcmp) 1 3 := ⟨by decide +kernel, rfl⟩
theorem d4_3 : Dj jdk_29_method_70_code 3 (.ifCond .gt 7) 7 10 6 := ⟨by decide +kernel, by decide, by decide, rfl⟩
theorem d4_6 : Dc jdk_29_method_70_code 6 (.lload_n 0) 1 7 := ⟨by decide +kernel, rfl⟩
theorem d4_7 : Dj jdk_29_method_70_code 7 (.goto 4) 4 11 10 := ⟨by decide +kernel, by decide, by decide, rfl⟩
theorem d4_10 : Dc jdk_29_method_70_code 10 (.lload_n 2) 1 11 := ⟨by decide +kernel, rfl⟩
theorem d4_11 : Dc jdk_29_method_70_code 11 (.lreturn) 1 12 := ⟨by decide +kernel, rfl⟩
theorem pn_4 : plainFor (⟨"java/lang/Math", "min", "(JJ)J"⟩ : MethodName) = true := Jvm.Free.JP.mathPlain rfl (by decide +kernel)
theorem ef_4 (m : MethodId) (x0 : Int64) (x1 : Int64) : entryFrame m #[(.long x0), (.long x1)] 4 = mkF m 0 #[.val (.long x0), .second, .val (.long x1), .second] [] := by first | (simp [entryFrame, mkF, argsToLocals, Value.category]; done) | rfl
theorem d5_0 : Dc prog_24_method_2_code 0 (.lload_n 0) 1 1 := ⟨by decide +kernel, rfl⟩
theorem d5_1 : Dc prog_24_method_2_code 1 (.bipush 32) 2 3 := ⟨by decide +kernel, rfl⟩
theorem d5_3 : Dc prog_24_method_2_code 3 (.lshr) 1 4 := ⟨by decide +kernel, rfl⟩
theorem d5_4 : Dc prog_24_method_2_code 4 (.bipush 40) 2 6 := ⟨by decide +kernel, rfl⟩
theorem d5_6 : Dc prog_24_method_2_code 6 (.lshl) 1 7 := ⟨by decide +kernel, rfl⟩
theorem d5_7 : Dc prog_24_method_2_code 7 (.lload_n 0) 1 8 := ⟨by decide +kernel, rfl⟩
theorem d5_8 : Dc prog_24_method_2_code 8 (.ldc2_w 9) 3 11 := ⟨by decide +kernel, rfl⟩
theorem d5_11 : Dc prog_24_method_2_code 11 (.land) 1 12 := ⟨by decide +kernel, rfl⟩
theorem d5_12 : Dc prog_24_method_2_code 12 (.bipush 22) 2 14 := ⟨by decide +kernel, rfl⟩
theorem d5_14 : Dc prog_24_method_2_code 14 (.lshl) 1 15 := ⟨by decide +kernel, rfl⟩
theorem d5_15 : Dc prog_24_method_2_code 15 (.lor) 1 16 := ⟨by decide +kernel, rfl⟩
theorem d5_16 : Dc prog_24_method_2_code 16 (.iload_n 2) 1 17 := ⟨by decide +kernel, rfl⟩
theorem d5_17 : Dc prog_24_method_2_code 17 (.i2l) 1 18 := ⟨by decide +kernel, rfl⟩
theorem d5_18 : Dc prog_24_method_2_code 18 (.bipush 6) 2 20 := ⟨by decide +kernel, rfl⟩
theorem d5_20 : Dc prog_24_method_2_code 20 (.lshl) 1 21 := ⟨by decide +kernel, rfl⟩
theorem d5_21 : Dc prog_24_method_2_code 21 (.lor) 1 22 := ⟨by decide +kernel, rfl⟩
theorem d5_22 : Dc prog_24_method_2_code 22 (.iload_n 3) 1 23 := ⟨by decide +kernel, rfl⟩
theorem d5_23 : Dc prog_24_method_2_code 23 (.i2l) 1 24 := ⟨by decide +kernel, rfl⟩
theorem d5_24 : Dc prog_24_method_2_code 24 (.lor) 1 25 := ⟨by decide +kernel, rfl⟩
theorem d5_25 : Dc prog_24_method_2_code 25 (.lreturn) 1 26 := ⟨by decide +kernel, rfl⟩
theorem pn_5 : plainFor (⟨"com/example/parts_to_nodes/partstonodes/placement/OfferKeys", "of", "(JII)J"⟩ : MethodName) = true := plainFor_of_name (by first | (simp [plainName, overriddenIn]; done) | decide +kernel)
theorem ef_5 (m : MethodId) (x0 : Int64) (x1 : Int32) (x2 : Int32) : entryFrame m #[(.long x0), (.int x1), (.int x2)] 4 = mkF m 0 #[.val (.long x0), .second, .val (.int x1), .val (.int x2)] [] := by first | (simp [entryFrame, mkF, argsToLocals, Value.category]; done) | rfl
theorem pd_0 : parseMethodDescriptor "(II)J" = some ⟨[.int, .int], some .long⟩ := by decide +kernel
theorem pd_1 : parseMethodDescriptor "(J)I" = some ⟨[.long], some .int⟩ := by decide +kernel
theorem pd_2 : parseMethodDescriptor "(JJ)J" = some ⟨[.long, .long], some .long⟩ := by decide +kernel
theorem pd_3 : parseMethodDescriptor "(JII)J" = some ⟨[.long, .int, .int], some .long⟩ := by decide +kernel

def dist (k : Int64) : Int64 := LShl (LShr k 40) 32 ||| (LUshr k 22 &&& 262143)
def part (k : Int64) : Int32 := (LUshr k 6).toInt32 &&& 65535
def entr (k : Int64) : Int32 := k.toInt32 &&& 63
def ofK (d : Int64) (p j : Int32) : Int64 := LShl (LShr d 32) 40 ||| LShl (d &&& 4294967295) 22 ||| LShl p.toInt64 6 ||| j.toInt64
theorem own_dist {k : Int64} {c a r : Int} (hc : -8388608 ≤ c ∧ c < 8388608) (ha : 0 ≤ a ∧ a < 262144) (hr : 0 ≤ r ∧ r < 4194304) (hk : k.toInt = c * 1099511627776 + a * 4194304 + r) : (dist k).toInt = c * 4294967296 + a := by
  have e1 : (LShr k 40).toInt = k.toInt / 2 ^ 40 := i_lshr k (k := 40) rfl (by decide)
  have e2 : u64 (LShl (LShr k 40) 32) = u64 (LShr k 40) * 2 ^ 32 % 18446744073709551616 := u_lshl _ (k := 32) rfl (by decide)
  have e3 : u64 (LUshr k 22) = u64 k / 2 ^ 22 := u_lushr k (k := 22) rfl (by decide)
  have e4 : u64 (LUshr k 22 &&& 262143) = u64 (LUshr k 22) % 2 ^ 18 := u64_and _ _ (by decide)
  have f1 := u64_i (LShr k 40); have f2 := u64_i k
  have g1 : (LShr k 40).toInt = c := by rw [e1, hk]; omega
  have g2 : u64 (LUshr k 22 &&& 262143) = a.toNat := by rw [e4, e3]; omega
  have e5 : u64 (dist k) = u64 (LShl (LShr k 40) 32) + u64 (LUshr k 22 &&& 262143) := u64_or 32 (by rw [e2]; omega) (by rw [g2]; omega)
  rw [i_u64, e5, e2, g2]
  rw [g1] at f1
  split <;> omega
theorem own_part {k : Int64} {q p j : Int} (hp : 0 ≤ p ∧ p < 65536) (hj : 0 ≤ j ∧ j < 64) (hk : k.toInt = q * 4194304 + p * 64 + j) : (part k).toInt = p := by
  have e1 : u64 (LUshr k 6) = u64 k / 2 ^ 6 := u_lushr k (k := 6) rfl (by decide)
  have e2 := u_l2i (LUshr k 6)
  have e3 : u32 (part k) = u32 (LUshr k 6).toInt32 % 2 ^ 16 := u32_and _ _ (by decide)
  have f := u64_i k
  rw [i_u32]; split <;> omega
theorem own_entr {k : Int64} {q j : Int} (hj : 0 ≤ j ∧ j < 64) (hk : k.toInt = q * 64 + j) : (entr k).toInt = j := by
  have e2 := u_l2i k
  have e3 : u32 (entr k) = u32 k.toInt32 % 2 ^ 6 := u32_and _ _ (by decide)
  have f := u64_i k
  rw [i_u32]; split <;> omega
theorem own_of {d : Int64} {p j : Int32} {c a : Int} (hc : -8388608 ≤ c ∧ c < 8388608) (ha : 0 ≤ a ∧ a < 262144) (hp : 0 ≤ p.toInt ∧ p.toInt < 65536) (hj : 0 ≤ j.toInt ∧ j.toInt < 64) (hd : d.toInt = c * 4294967296 + a) : (ofK d p j).toInt = c * 1099511627776 + a * 4194304 + p.toInt * 64 + j.toInt := by
  have e1 : (LShr d 32).toInt = d.toInt / 2 ^ 32 := i_lshr d (k := 32) rfl (by decide)
  have g1 : (LShr d 32).toInt = c := by rw [e1, hd]; omega
  have f1 := u64_i (LShr d 32); rw [g1] at f1
  have e2 : u64 (LShl (LShr d 32) 40) = u64 (LShr d 32) * 2 ^ 40 % 18446744073709551616 := u_lshl _ (k := 40) rfl (by decide)
  have f2 := u64_i d
  have e3 : u64 (d &&& 4294967295) = u64 d % 2 ^ 32 := u64_and _ _ (by decide)
  have g3 : u64 (d &&& 4294967295) = a.toNat := by rw [e3]; omega
  have e4 : u64 (LShl (d &&& 4294967295) 22) = u64 (d &&& 4294967295) * 2 ^ 22 % 18446744073709551616 := u_lshl _ (k := 22) rfl (by decide)
  have g4 : u64 (LShl (d &&& 4294967295) 22) = a.toNat * 4194304 := by rw [e4, g3]; omega
  have f5 := u64_i p.toInt64; rw [i_i2l] at f5
  have e5 : u64 (LShl p.toInt64 6) = u64 p.toInt64 * 2 ^ 6 % 18446744073709551616 := u_lshl _ (k := 6) rfl (by decide)
  have g5 : u64 (LShl p.toInt64 6) = p.toInt.toNat * 64 := by rw [e5]; omega
  have f6 := u64_i j.toInt64; rw [i_i2l] at f6
  have g6 : u64 j.toInt64 = j.toInt.toNat := by omega
  have g2 : u64 (LShl (LShr d 32) 40) % 1099511627776 = 0 := by rw [e2]; omega
  have t1 : u64 (LShl (LShr d 32) 40 ||| LShl (d &&& 4294967295) 22) = u64 (LShl (LShr d 32) 40) + u64 (LShl (d &&& 4294967295) 22) := u64_or 40 g2 (by rw [g4]; omega)
  have t2 : u64 (LShl (LShr d 32) 40 ||| LShl (d &&& 4294967295) 22 ||| LShl p.toInt64 6) = u64 (LShl (LShr d 32) 40 ||| LShl (d &&& 4294967295) 22) + u64 (LShl p.toInt64 6) := u64_or 22 (by rw [t1, g4]; omega) (by rw [g5]; omega)
  have t3 : u64 (ofK d p j) = u64 (LShl (LShr d 32) 40 ||| LShl (d &&& 4294967295) 22 ||| LShl p.toInt64 6) + u64 j.toInt64 := u64_or 6 (by rw [t2, t1, g4, g5]; omega) (by rw [g6]; omega)
  rw [i_u64, t3, t2, t1, g4, g5, g6, e2]
  split <;> omega
theorem own_d {x y : Int32} (hc : -8388608 ≤ x.toInt ∧ x.toInt < 8388608) (ha : 0 ≤ y.toInt ∧ y.toInt < 262144) : (LShl x.toInt64 32 ||| y.toInt64).toInt = x.toInt * 4294967296 + y.toInt := by
  have f1 := u64_i x.toInt64; rw [i_i2l] at f1
  have f2 := u64_i y.toInt64; rw [i_i2l] at f2
  have e1 : u64 (LShl x.toInt64 32) = u64 x.toInt64 * 2 ^ 32 % 18446744073709551616 := u_lshl _ (k := 32) rfl (by decide)
  have t1 : u64 (LShl x.toInt64 32 ||| y.toInt64) = u64 (LShl x.toInt64 32) + u64 y.toInt64 := u64_or 32 (by rw [e1]; omega) (by omega)
  rw [i_u64, t1, e1]; split <;> omega
theorem own_c (i : Int32) : -8388608 ≤ (IShr (IShl i 8) 8).toInt ∧ (IShr (IShl i 8) 8).toInt < 8388608 := by
  have e : (IShr (IShl i 8) 8).toInt = (IShl i 8).toInt / 2 ^ 8 := i_ishr _ (k := 8) rfl (by decide)
  have := i_rng32 (IShl i 8)
  rw [e]; omega
theorem own_a (i : Int32) : 0 ≤ (i &&& 262143).toInt ∧ (i &&& 262143).toInt < 262144 := by
  have e : (i &&& 262143).toInt = i.toInt % 2 ^ 18 := Jvm.Kit.i32_mask i 262143 (by decide) (by decide)
  rw [e]; omega
theorem own_p (i : Int32) : 0 ≤ (i &&& 65535).toInt ∧ (i &&& 65535).toInt < 65536 := by
  have e : (i &&& 65535).toInt = i.toInt % 2 ^ 16 := Jvm.Kit.i32_mask i 65535 (by decide) (by decide)
  rw [e]; omega
theorem own_j (i : Int32) : 0 ≤ (i &&& 63).toInt ∧ (i &&& 63).toInt < 64 := by
  have e : (i &&& 63).toInt = i.toInt % 2 ^ 6 := Jvm.Kit.i32_mask i 63 (by decide) (by decide)
  rw [e]; omega

def unr (p j : Int32) : Int64 := 9223372036850581504 ||| LShl p.toInt64 6 ||| j.toInt64
def minJ (x y : Int64) : Int64 := if y.toInt < x.toInt then y else x
theorem own_unr {p j : Int32} (hp : 0 ≤ p.toInt ∧ p.toInt < 65536) (hj : 0 ≤ j.toInt ∧ j.toInt < 64) : (unr p j).toInt = 9223372036850581504 + p.toInt * 64 + j.toInt := by
  have f5 := u64_i p.toInt64; rw [i_i2l] at f5
  have e5 : u64 (LShl p.toInt64 6) = u64 p.toInt64 * 2 ^ 6 % 18446744073709551616 := u_lshl _ (k := 6) rfl (by decide)
  have g5 : u64 (LShl p.toInt64 6) = p.toInt.toNat * 64 := by rw [e5]; omega
  have f6 := u64_i j.toInt64; rw [i_i2l] at f6
  have g6 : u64 j.toInt64 = j.toInt.toNat := by omega
  have l : u64 (9223372036850581504 : Int64) = 9223372036850581504 := by decide
  have t1 : u64 ((9223372036850581504 : Int64) ||| LShl p.toInt64 6) = u64 (9223372036850581504 : Int64) + u64 (LShl p.toInt64 6) := u64_or 22 (by rw [l]) (by rw [g5]; omega)
  have t2 : u64 (unr p j) = u64 ((9223372036850581504 : Int64) ||| LShl p.toInt64 6) + u64 j.toInt64 := u64_or 6 (by rw [t1, l, g5]; omega) (by rw [g6]; omega)
  rw [i_u64, t2, t1, l, g5, g6]; split <;> omega
theorem own_high {k : Int64} {r : Int} (hr : 0 ≤ r ∧ r < 4194304) (hk : k.toInt = 9223372036850581504 + r) : k &&& (-4194304) = 9223372036850581504 := by
  have e1 : u64 (k &&& 4194303) = u64 k % 2 ^ 22 := u64_and _ _ (by decide)
  have e2 : (k &&& (-4194304)) &&& 4194303 = 0 := by rw [Int64.and_assoc, show (-4194304 : Int64) &&& 4194303 = 0 by decide, Int64.and_zero]
  have e3 : u64 ((k &&& (-4194304)) &&& 4194303) = u64 (k &&& (-4194304)) % 2 ^ 22 := u64_and _ _ (by decide)
  have e4 : (k &&& (-4194304)) ||| (k &&& 4194303) = k := by rw [← and_or64, show (-4194304 : Int64) ||| 4194303 = -1 by decide, Int64.and_neg_one]
  rw [e2, show u64 (0 : Int64) = 0 by decide] at e3
  have e5 := u64_or (x := k &&& (-4194304)) (y := k &&& 4194303) 22 e3.symm (by rw [e1]; omega)
  rw [e4] at e5
  have f := u64_i k
  exact u64_inj (by rw [show u64 (9223372036850581504 : Int64) = 9223372036850581504 by decide]; omega)
theorem own_d64 {x : Int64} {y : Int32} (hc : -8388608 ≤ x.toInt ∧ x.toInt < 8388608) (ha : 0 ≤ y.toInt ∧ y.toInt < 262144) : (LShl x 32 ||| y.toInt64).toInt = x.toInt * 4294967296 + y.toInt := by
  have f1 := u64_i x
  have f2 := u64_i y.toInt64; rw [i_i2l] at f2
  have e1 : u64 (LShl x 32) = u64 x * 2 ^ 32 % 18446744073709551616 := u_lshl _ (k := 32) rfl (by decide)
  have t1 : u64 (LShl x 32 ||| y.toInt64) = u64 (LShl x 32) + u64 y.toInt64 := u64_or 32 (by rw [e1]; omega) (by omega)
  rw [i_u64, t1, e1]; split <;> omega
theorem own_cost (i : Int32) : -8388608 ≤ (minJ (IShr i 8).toInt64 8388606).toInt ∧ (minJ (IShr i 8).toInt64 8388606).toInt ≤ 8388606 := by
  have e : (IShr i 8).toInt = i.toInt / 2 ^ 8 := i_ishr _ (k := 8) rfl (by decide)
  have := i_rng32 i
  have l : (8388606 : Int64).toInt = 8388606 := by decide
  unfold minJ; rw [l, i_i2l, e]; split
  · rw [l]; omega
  · rw [i_i2l, e]; omega

set_option maxRecDepth 65536 in
set_option maxHeartbeats 40000000 in
theorem ct5 (l : Launch) (Z : State) (a0 : Array Value) (hw : ∀ d ∈ tables_1, d.before a0 Z = true) (x0 : Int64) (x1 : Int32) (x2 : Int32) (h0 : Heap)  :
    Ct l Z (⟨"com/example/parts_to_nodes/partstonodes/placement/OfferKeys", "of", "(JII)J"⟩ : MethodName) prog_24_method_2_code 4 (some .long) ({ frames := 0, cells := 0, slots := 0, locals := 0 } : Room) #[(.long x0), (.int x1), (.int x2)] h0 (fun v h' L => v = some (.long (ofK x0 x1 x2)) ∧ h' = h0 ∧ L = []) := by
  refine Ct.body pn_5 ?_
  intro p e s m below meth c T X hx hby hml hown hnm hret hlk hZ eT
  rw [ef_5]

  refine w_lloadN X hx (dq hby d5_0) rfl ?_
  refine w_bipush X hx (dq hby d5_1) (z := 32) rfl ?_
  refine w_lshr X hx (dq hby d5_3) ?_
  refine w_bipush X hx (dq hby d5_4) (z := 40) rfl ?_
  refine w_lshl X hx (dq hby d5_6) ?_
  refine w_lloadN X hx (dq hby d5_7) rfl ?_
  refine w_ldc2 X hx hZ hown (hw _ (List.mem_of_getElem? (i := 24) rfl)) (dq hby d5_8) ?_
  refine w_land X hx (dq hby d5_11) ?_
  refine w_bipush X hx (dq hby d5_12) (z := 22) rfl ?_
  refine w_lshl X hx (dq hby d5_14) ?_
  refine w_lor X hx (dq hby d5_15) ?_
  refine w_iloadN X hx (dq hby d5_16) rfl ?_
  refine w_i2l X hx (dq hby d5_17) ?_
  refine w_bipush X hx (dq hby d5_18) (z := 6) rfl ?_
  refine w_lshl X hx (dq hby d5_20) ?_
  refine w_lor X hx (dq hby d5_21) ?_
  refine w_iloadN X hx (dq hby d5_22) rfl ?_
  refine w_i2l X hx (dq hby d5_23) ?_
  refine w_lor X hx (dq hby d5_24) ?_
  refine w_retJ X hx hret hlk (dq hby d5_25) (by decide) (by decide) ?_
  exact ⟨rfl, eT, rfl⟩
set_option maxRecDepth 65536 in
set_option maxHeartbeats 40000000 in
theorem ct1 (l : Launch) (Z : State) (a0 : Array Value) (hw : ∀ d ∈ tables_1, d.before a0 Z = true) (x0 : Int32) (x1 : Int32) (h0 : Heap)  :
    Ct l Z (⟨"com/example/parts_to_nodes/partstonodes/placement/OfferKeys", "unreached", "(II)J"⟩ : MethodName) prog_24_method_3_code 2 (some .long) ({ frames := 0, cells := 0, slots := 0, locals := 0 } : Room) #[(.int x0), (.int x1)] h0 (fun v h' L => v = some (.long (unr x0 x1)) ∧ h' = h0 ∧ L = []) := by
  refine Ct.body pn_1 ?_
  intro p e s m below meth c T X hx hby hml hown hnm hret hlk hZ eT
  rw [ef_1]

  refine w_ldc2 X hx hZ hown (hw _ (List.mem_of_getElem? (i := 5) rfl)) (dq hby d1_0) ?_
  refine w_iloadN X hx (dq hby d1_3) rfl ?_
  refine w_i2l X hx (dq hby d1_4) ?_
  refine w_bipush X hx (dq hby d1_5) (z := 6) rfl ?_
  refine w_lshl X hx (dq hby d1_7) ?_
  refine w_lor X hx (dq hby d1_8) ?_
  refine w_iloadN X hx (dq hby d1_9) rfl ?_
  refine w_i2l X hx (dq hby d1_10) ?_
  refine w_lor X hx (dq hby d1_11) ?_
  refine w_retJ X hx hret hlk (dq hby d1_12) (by decide) (by decide) ?_
  exact ⟨rfl, eT, rfl⟩
set_option maxRecDepth 65536 in
set_option maxHeartbeats 40000000 in
theorem ct2 (l : Launch) (Z : State) (a0 : Array Value) (hw : ∀ d ∈ tables_1, d.before a0 Z = true) (x0 : Int64) (h0 : Heap)  :
    Ct l Z (⟨"com/example/parts_to_nodes/partstonodes/placement/OfferKeys", "partition", "(J)I"⟩ : MethodName) prog_24_method_5_code 2 (some .int) ({ frames := 0, cells := 0, slots := 0, locals := 0 } : Room) #[(.long x0)] h0 (fun v h' L => v = some (.int (part x0)) ∧ h' = h0 ∧ L = []) := by
  refine Ct.body pn_2 ?_
  intro p e s m below meth c T X hx hby hml hown hnm hret hlk hZ eT
  rw [ef_2]

  refine w_lloadN X hx (dq hby d2_0) rfl ?_
  refine w_bipush X hx (dq hby d2_1) (z := 6) rfl ?_
  refine w_lushr X hx (dq hby d2_3) ?_
  refine w_l2i X hx (dq hby d2_4) ?_
  refine w_ldc X hx hZ hown (hw _ (List.mem_of_getElem? (i := 11) rfl)) (dq hby d2_5) ?_
  refine w_iand X hx (dq hby d2_7) ?_
  refine w_retI X hx hret hlk (dq hby d2_8) (by decide) (by decide) ?_
  exact ⟨rfl, eT, rfl⟩
set_option maxRecDepth 65536 in
set_option maxHeartbeats 40000000 in
theorem ct3 (l : Launch) (Z : State) (a0 : Array Value) (hw : ∀ d ∈ tables_1, d.before a0 Z = true) (x0 : Int64) (h0 : Heap)  :
    Ct l Z (⟨"com/example/parts_to_nodes/partstonodes/placement/OfferKeys", "entry", "(J)I"⟩ : MethodName) prog_24_method_6_code 2 (some .int) ({ frames := 0, cells := 0, slots := 0, locals := 0 } : Room) #[(.long x0)] h0 (fun v h' L => v = some (.int (entr x0)) ∧ h' = h0 ∧ L = []) := by
  refine Ct.body pn_3 ?_
  intro p e s m below meth c T X hx hby hml hown hnm hret hlk hZ eT
  rw [ef_3]

  refine w_lloadN X hx (dq hby d3_0) rfl ?_
  refine w_l2i X hx (dq hby d3_1) ?_
  refine w_bipush X hx (dq hby d3_2) (z := 63) rfl ?_
  refine w_iand X hx (dq hby d3_4) ?_
  refine w_retI X hx hret hlk (dq hby d3_5) (by decide) (by decide) ?_
  exact ⟨rfl, eT, rfl⟩
set_option maxRecDepth 65536 in
set_option maxHeartbeats 40000000 in
theorem ct4 (l : Launch) (Z : State) (a0 : Array Value) (hw : ∀ d ∈ tables_1, d.before a0 Z = true) (x0 : Int64) (x1 : Int64) (h0 : Heap)  :
    Ct l Z (⟨"java/lang/Math", "min", "(JJ)J"⟩ : MethodName) jdk_29_method_70_code 4 (some .long) ({ frames := 0, cells := 0, slots := 0, locals := 0 } : Room) #[(.long x0), (.long x1)] h0 (fun v h' L => v = some (.long (minJ x0 x1)) ∧ h' = h0 ∧ L = []) := by
  refine Ct.body pn_4 ?_
  intro p e s m below meth c T X hx hby hml hown hnm hret hlk hZ eT
  rw [ef_4]

  refine w_lloadN X hx (dq hby d4_0) rfl ?_
  refine w_lloadN X hx (dq hby d4_1) rfl ?_
  refine w_lcmp_gt X hx (dq hby d4_2) (dj hby d4_3) (fun hc3 => ?_) (fun hc3 => ?_)
  · refine w_lloadN X hx (dq hby d4_10) rfl ?_
    refine w_retJ X hx hret hlk (dq hby d4_11) (by decide) (by decide) ?_
    exact ⟨by unfold minJ; split <;> first | rfl | omega, eT, rfl⟩
  · refine w_lloadN X hx (dq hby d4_6) rfl ?_
    refine w_goto X hx (dj hby d4_7) ?_
    refine w_retJ X hx hret hlk (dq hby d4_11) (by decide) (by decide) ?_
    exact ⟨by unfold minJ; split <;> first | rfl | omega, eT, rfl⟩
def Q0 (n0 : Nat) (v : Option Value) (h : Heap) (L : List Loc) : Prop := v = some (.int (1 : Int32)) ∧ Fr n0 L
set_option maxRecDepth 65536 in
set_option maxHeartbeats 40000000 in
theorem rm0 (l : Launch) (Z : State) (a0 : Array Value) (hw : ∀ d ∈ tables_1, d.before a0 Z = true) (ws : List Jvm.Cond) (i0 : Int32) (i1 : Int32) (i2 : Int32) (i3 : Int32) (i4 : Int32) (i5 : Int32) (h0 : Heap) (n0 : Nat) (Z0 : n0 ≤ h0.size) :
    MetFree l x (head1 (Jvm.Cond.code x code maxLocals ret :: ws) room_1) (fun a U => a = #[(.int i0), (.int i1), (.int i2), (.int i3), (.int i4), (.int i5)] ∧ Z.Warmed39 U.vm ∧ U.heap = h0) (fun _ _ _ _ _ => True) (fun _ U o U' => ∃ v L, o = .returned v ∧ Q0 n0 v U'.heap L ∧ FrameEnd U o U' L 0 0) := by
  refine w_body pn_0 ?_
  intro p e s m below meth c T X hx hby hml hown hnm hret hlk hZ eT
  rw [ef_0]
  have N := Fr.nil n0
  refine w_iloadN X hx (dq hby d0_0) rfl ?_
  refine w_ldc X hx hZ hown (hw _ (List.mem_of_getElem? (i := 0) rfl)) (dq hby d0_1) ?_
  refine w_iand X hx (dq hby d0_3) ?_
  obtain ⟨v6_4, hv6_4⟩ : ∃ z : Int32, z = (i0 &&& (65535 : Int32)) := ⟨_, rfl⟩
  refine w_istore X hx (dq hby d0_4) (z := v6_4) hv6_4 (Ls' := #[.val (.int i0), .val (.int i1), .val (.int i2), .val (.int i3), .val (.int i4), .val (.int i5), .val (.int v6_4), .unset, .unset, .unset, .unset, .unset, .unset, .unset, .unset, .unset, .unset, .unset, .unset, .unset, .unset, .unset, .unset, .unset, .unset, .unset]) rfl ?_
  refine w_iloadN X hx (dq hby d0_6) rfl ?_
  refine w_bipush X hx (dq hby d0_7) (z := 63) rfl ?_
  refine w_iand X hx (dq hby d0_9) ?_
  obtain ⟨v7_10, hv7_10⟩ : ∃ z : Int32, z = (i1 &&& (63 : Int32)) := ⟨_, rfl⟩
  refine w_istore X hx (dq hby d0_10) (z := v7_10) hv7_10 (Ls' := #[.val (.int i0), .val (.int i1), .val (.int i2), .val (.int i3), .val (.int i4), .val (.int i5), .val (.int v6_4), .val (.int v7_10), .unset, .unset, .unset, .unset, .unset, .unset, .unset, .unset, .unset, .unset, .unset, .unset, .unset, .unset, .unset, .unset, .unset, .unset]) rfl ?_
  refine w_iloadN X hx (dq hby d0_12) rfl ?_
  refine w_ldc X hx hZ hown (hw _ (List.mem_of_getElem? (i := 0) rfl)) (dq hby d0_13) ?_
  refine w_iand X hx (dq hby d0_15) ?_
  obtain ⟨v8_16, hv8_16⟩ : ∃ z : Int32, z = (i2 &&& (65535 : Int32)) := ⟨_, rfl⟩
  refine w_istore X hx (dq hby d0_16) (z := v8_16) hv8_16 (Ls' := #[.val (.int i0), .val (.int i1), .val (.int i2), .val (.int i3), .val (.int i4), .val (.int i5), .val (.int v6_4), .val (.int v7_10), .val (.int v8_16), .unset, .unset, .unset, .unset, .unset, .unset, .unset, .unset, .unset, .unset, .unset, .unset, .unset, .unset, .unset, .unset, .unset]) rfl ?_
  refine w_iloadN X hx (dq hby d0_18) rfl ?_
  refine w_bipush X hx (dq hby d0_19) (z := 63) rfl ?_
  refine w_iand X hx (dq hby d0_21) ?_
  obtain ⟨v9_22, hv9_22⟩ : ∃ z : Int32, z = (i3 &&& (63 : Int32)) := ⟨_, rfl⟩
  refine w_istore X hx (dq hby d0_22) (z := v9_22) hv9_22 (Ls' := #[.val (.int i0), .val (.int i1), .val (.int i2), .val (.int i3), .val (.int i4), .val (.int i5), .val (.int v6_4), .val (.int v7_10), .val (.int v8_16), .val (.int v9_22), .unset, .unset, .unset, .unset, .unset, .unset, .unset, .unset, .unset, .unset, .unset, .unset, .unset, .unset, .unset, .unset]) rfl ?_
  have rv6_4 := own_p i0; rw [← hv6_4] at rv6_4
  have rv7_10 := own_j i1; rw [← hv7_10] at rv7_10
  have rv8_16 := own_p i2; rw [← hv8_16] at rv8_16
  have rv9_22 := own_j i3; rw [← hv9_22] at rv9_22
  refine w_iload X hx (dq hby d0_24) rfl ?_
  refine w_iload X hx (dq hby d0_26) rfl ?_
  refine w_callSP X hx hZ eT hml (by rfl) hown (hw _ (List.mem_of_getElem? (i := 1) rfl)) (hw _ (List.mem_of_getElem? (i := 2) rfl)) (hw _ (List.mem_of_getElem? (i := 3) rfl)) (hw _ (List.mem_of_getElem? (i := 4) rfl)) (by decide) (ct1 l Z a0 hw v6_4 v7_10 h0) (dq hby d0_28) pd_0 (argsL := [(.int v6_4), (.int v7_10)]) (rest := []) rfl rfl rfl (W := 0) rfl (by decide) (by decide) (by decide) (by decide) fun T X eT => ?_
  obtain ⟨v10_31, hv10_31⟩ : ∃ z : Int64, z = (unr v6_4 v7_10) := ⟨_, rfl⟩
  refine w_lstore X hx (dq hby d0_31) (z := v10_31) hv10_31 (Ls' := #[.val (.int i0), .val (.int i1), .val (.int i2), .val (.int i3), .val (.int i4), .val (.int i5), .val (.int v6_4), .val (.int v7_10), .val (.int v8_16), .val (.int v9_22), .val (.long v10_31), .second, .unset, .unset, .unset, .unset, .unset, .unset, .unset, .unset, .unset, .unset, .unset, .unset, .unset, .unset]) rfl ?_
  refine w_iload X hx (dq hby d0_33) rfl ?_
  refine w_iload X hx (dq hby d0_35) rfl ?_
  refine w_callSP X hx hZ eT hml (by rfl) hown (hw _ (List.mem_of_getElem? (i := 1) rfl)) (hw _ (List.mem_of_getElem? (i := 2) rfl)) (hw _ (List.mem_of_getElem? (i := 3) rfl)) (hw _ (List.mem_of_getElem? (i := 4) rfl)) (by decide) (ct1 l Z a0 hw v8_16 v9_22 h0) (dq hby d0_37) pd_0 (argsL := [(.int v8_16), (.int v9_22)]) (rest := []) rfl rfl rfl (W := 0) rfl (by decide) (by decide) (by decide) (by decide) fun T X eT => ?_
  obtain ⟨v12_40, hv12_40⟩ : ∃ z : Int64, z = (unr v8_16 v9_22) := ⟨_, rfl⟩
  refine w_lstore X hx (dq hby d0_40) (z := v12_40) hv12_40 (Ls' := #[.val (.int i0), .val (.int i1), .val (.int i2), .val (.int i3), .val (.int i4), .val (.int i5), .val (.int v6_4), .val (.int v7_10), .val (.int v8_16), .val (.int v9_22), .val (.long v10_31), .second, .val (.long v12_40), .second, .unset, .unset, .unset, .unset, .unset, .unset, .unset, .unset, .unset, .unset, .unset, .unset]) rfl ?_
  have e10 := own_unr rv6_4 rv7_10; rw [← hv10_31] at e10
  have e12 := own_unr rv8_16 rv9_22; rw [← hv12_40] at e12
  refine w_lload X hx (dq hby d0_42) rfl ?_
  refine w_ldc2 X hx hZ hown (hw _ (List.mem_of_getElem? (i := 6) rfl)) (dq hby d0_44) ?_
  refine w_land X hx (dq hby d0_47) ?_
  refine w_ldc2 X hx hZ hown (hw _ (List.mem_of_getElem? (i := 7) rfl)) (dq hby d0_48) ?_
  refine w_lcmp_ne X hx (dq hby d0_51) (dj hby d0_52) (fun hc52 => (?_ : False).elim) (fun hc52 => ?_)
  · exact hc52 (own_high (r := v6_4.toInt * 64 + v7_10.toInt) (by omega) (by omega))
  refine w_iconst X hx (dq hby d0_55) (z := 1) rfl ?_
  refine w_goto X hx (dj hby d0_56) ?_
  refine w_istore X hx (dq hby d0_60) (z := (1 : Int32)) rfl (Ls' := #[.val (.int i0), .val (.int i1), .val (.int i2), .val (.int i3), .val (.int i4), .val (.int i5), .val (.int v6_4), .val (.int v7_10), .val (.int v8_16), .val (.int v9_22), .val (.long v10_31), .second, .val (.long v12_40), .second, .val (.int (1 : Int32)), .unset, .unset, .unset, .unset, .unset, .unset, .unset, .unset, .unset, .unset, .unset]) rfl ?_
  refine w_lload X hx (dq hby d0_62) rfl ?_
  refine w_callSP X hx hZ eT hml (by rfl) hown (hw _ (List.mem_of_getElem? (i := 8) rfl)) (hw _ (List.mem_of_getElem? (i := 9) rfl)) (hw _ (List.mem_of_getElem? (i := 3) rfl)) (hw _ (List.mem_of_getElem? (i := 10) rfl)) (by decide) (ct2 l Z a0 hw v10_31 h0) (dq hby d0_64) pd_1 (argsL := [(.long v10_31)]) (rest := []) rfl rfl rfl (W := 0) rfl (by decide) (by decide) (by decide) (by decide) fun T X eT => ?_
  refine w_iload X hx (dq hby d0_67) rfl ?_
  refine w_icmp_ne X hx (dj hby d0_69) (fun hc69 => (?_ : False).elim) (fun hc69 => ?_)
  · refine hc69 (i32_inj ?_)
    exact own_part (q := 2199023255551) rv6_4 rv7_10 (by omega)
  refine w_lload X hx (dq hby d0_72) rfl ?_
  refine w_callSP X hx hZ eT hml (by rfl) hown (hw _ (List.mem_of_getElem? (i := 12) rfl)) (hw _ (List.mem_of_getElem? (i := 13) rfl)) (hw _ (List.mem_of_getElem? (i := 3) rfl)) (hw _ (List.mem_of_getElem? (i := 14) rfl)) (by decide) (ct3 l Z a0 hw v10_31 h0) (dq hby d0_74) pd_1 (argsL := [(.long v10_31)]) (rest := []) rfl rfl rfl (W := 0) rfl (by decide) (by decide) (by decide) (by decide) fun T X eT => ?_
  refine w_iload X hx (dq hby d0_77) rfl ?_
  refine w_icmp_ne X hx (dj hby d0_79) (fun hc79 => (?_ : False).elim) (fun hc79 => ?_)
  · refine hc79 (i32_inj ?_)
    exact own_entr (q := 144115188075790336 + v6_4.toInt) rv7_10 (by omega)
  refine w_iconst X hx (dq hby d0_82) (z := 1) rfl ?_
  refine w_goto X hx (dj hby d0_83) ?_
  refine w_istore X hx (dq hby d0_87) (z := (1 : Int32)) rfl (Ls' := #[.val (.int i0), .val (.int i1), .val (.int i2), .val (.int i3), .val (.int i4), .val (.int i5), .val (.int v6_4), .val (.int v7_10), .val (.int v8_16), .val (.int v9_22), .val (.long v10_31), .second, .val (.long v12_40), .second, .val (.int (1 : Int32)), .val (.int (1 : Int32)), .unset, .unset, .unset, .unset, .unset, .unset, .unset, .unset, .unset, .unset]) rfl ?_
  refine w_iload X hx (dq hby d0_89) rfl ?_
  refine w_iload X hx (dq hby d0_91) rfl ?_
  refine w_icmp_lt X hx (dj hby d0_93) (fun hc93 => ?_) (fun hc93 => ?_)
  · refine w_iconst X hx (dq hby d0_110) (z := 1) rfl ?_
    refine w_goto X hx (dj hby d0_111) ?_
    refine w_istore X hx (dq hby d0_115) (z := (1 : Int32)) rfl (Ls' := #[.val (.int i0), .val (.int i1), .val (.int i2), .val (.int i3), .val (.int i4), .val (.int i5), .val (.int v6_4), .val (.int v7_10), .val (.int v8_16), .val (.int v9_22), .val (.long v10_31), .second, .val (.long v12_40), .second, .val (.int (1 : Int32)), .val (.int (1 : Int32)), .val (.int (1 : Int32)), .unset, .unset, .unset, .unset, .unset, .unset, .unset, .unset, .unset]) rfl ?_
    refine w_iload X hx (dq hby d0_117) rfl ?_
    refine w_iload X hx (dq hby d0_119) rfl ?_
    refine w_icmp_ne X hx (dj hby d0_121) (fun hc121 => ?_) (fun hc121 => (?_ : False).elim)
    rotate_left
    · have hq := congrArg Int32.toInt hc121
      omega
    refine w_iconst X hx (dq hby d0_135) (z := 0) rfl ?_
    refine w_istore X hx (dq hby d0_136) (z := (0 : Int32)) rfl (Ls' := #[.val (.int i0), .val (.int i1), .val (.int i2), .val (.int i3), .val (.int i4), .val (.int i5), .val (.int v6_4), .val (.int v7_10), .val (.int v8_16), .val (.int v9_22), .val (.long v10_31), .second, .val (.long v12_40), .second, .val (.int (1 : Int32)), .val (.int (1 : Int32)), .val (.int (1 : Int32)), .val (.int (0 : Int32)), .unset, .unset, .unset, .unset, .unset, .unset, .unset, .unset]) rfl ?_
    refine w_lload X hx (dq hby d0_138) rfl ?_
    refine w_lload X hx (dq hby d0_140) rfl ?_
    refine w_lcmp_ge X hx (dq hby d0_142) (dj hby d0_143) (fun hc143 => (?_ : False).elim) (fun hc143 => ?_)
    · have hc121' := i32_ne hc121
      omega
    refine w_iconst X hx (dq hby d0_146) (z := 1) rfl ?_
    refine w_goto X hx (dj hby d0_147) ?_
    refine w_iload X hx (dq hby d0_151) rfl ?_
    refine w_icmp_ne X hx (dj hby d0_153) (fun hc153 => (?_ : False).elim) (fun hc153 => ?_)
    · exact absurd hc153 (by decide)
    refine w_lload X hx (dq hby d0_156) rfl ?_
    refine w_lload X hx (dq hby d0_158) rfl ?_
    refine w_lcmp_ne X hx (dq hby d0_160) (dj hby d0_161) (fun hc161 => ?_) (fun hc161 => (?_ : False).elim)
    rotate_left
    · have hc121' := i32_ne hc121
      have hq := congrArg Int64.toInt hc161
      omega
    refine w_iconst X hx (dq hby d0_168) (z := 0) rfl ?_
    refine w_iload X hx (dq hby d0_169) rfl ?_
    refine w_icmp_ne X hx (dj hby d0_171) (fun hc171 => (?_ : False).elim) (fun hc171 => ?_)
    · exact absurd hc171 (by decide)
    refine w_iconst X hx (dq hby d0_174) (z := 1) rfl ?_
    refine w_goto X hx (dj hby d0_175) ?_
    refine w_istore X hx (dq hby d0_179) (z := (1 : Int32)) rfl (Ls' := #[.val (.int i0), .val (.int i1), .val (.int i2), .val (.int i3), .val (.int i4), .val (.int i5), .val (.int v6_4), .val (.int v7_10), .val (.int v8_16), .val (.int v9_22), .val (.long v10_31), .second, .val (.long v12_40), .second, .val (.int (1 : Int32)), .val (.int (1 : Int32)), .val (.int (1 : Int32)), .val (.int (0 : Int32)), .val (.int (1 : Int32)), .unset, .unset, .unset, .unset, .unset, .unset, .unset]) rfl ?_
    refine w_iload X hx (dq hby d0_181) rfl ?_
    refine w_bipush X hx (dq hby d0_183) (z := 8) rfl ?_
    refine w_ishr X hx (dq hby d0_185) ?_
    refine w_i2l X hx (dq hby d0_186) ?_
    refine w_ldc2 X hx hZ hown (hw _ (List.mem_of_getElem? (i := 15) rfl)) (dq hby d0_187) ?_
    refine w_callSP X hx hZ eT hml (by rfl) hown (hw _ (List.mem_of_getElem? (i := 16) rfl)) (hw _ (List.mem_of_getElem? (i := 17) rfl)) (hw _ (List.mem_of_getElem? (i := 18) rfl)) (hw _ (List.mem_of_getElem? (i := 19) rfl)) (by decide) (ct4 l Z a0 hw ((IShr i4 (8 : Int32)).toInt64) (8388606 : Int64) h0) (dq hby d0_190) pd_2 (argsL := [(.long ((IShr i4 (8 : Int32)).toInt64)), (.long (8388606 : Int64))]) (rest := []) rfl rfl rfl (W := 0) rfl (by decide) (by decide) (by decide) (by decide) fun T X eT => ?_
    obtain ⟨v19_193, hv19_193⟩ : ∃ z : Int64, z = (minJ ((IShr i4 (8 : Int32)).toInt64) (8388606 : Int64)) := ⟨_, rfl⟩
    refine w_lstore X hx (dq hby d0_193) (z := v19_193) hv19_193 (Ls' := #[.val (.int i0), .val (.int i1), .val (.int i2), .val (.int i3), .val (.int i4), .val (.int i5), .val (.int v6_4), .val (.int v7_10), .val (.int v8_16), .val (.int v9_22), .val (.long v10_31), .second, .val (.long v12_40), .second, .val (.int (1 : Int32)), .val (.int (1 : Int32)), .val (.int (1 : Int32)), .val (.int (0 : Int32)), .val (.int (1 : Int32)), .val (.long v19_193), .second, .unset, .unset, .unset, .unset, .unset]) rfl ?_
    refine w_iload X hx (dq hby d0_195) rfl ?_
    refine w_ldc X hx hZ hown (hw _ (List.mem_of_getElem? (i := 20) rfl)) (dq hby d0_197) ?_
    refine w_iand X hx (dq hby d0_199) ?_
    refine w_i2l X hx (dq hby d0_200) ?_
    obtain ⟨v21_201, hv21_201⟩ : ∃ z : Int64, z = ((i5 &&& (262143 : Int32)).toInt64) := ⟨_, rfl⟩
    refine w_lstore X hx (dq hby d0_201) (z := v21_201) hv21_201 (Ls' := #[.val (.int i0), .val (.int i1), .val (.int i2), .val (.int i3), .val (.int i4), .val (.int i5), .val (.int v6_4), .val (.int v7_10), .val (.int v8_16), .val (.int v9_22), .val (.long v10_31), .second, .val (.long v12_40), .second, .val (.int (1 : Int32)), .val (.int (1 : Int32)), .val (.int (1 : Int32)), .val (.int (0 : Int32)), .val (.int (1 : Int32)), .val (.long v19_193), .second, .val (.long v21_201), .second, .unset, .unset, .unset]) rfl ?_
    refine w_lload X hx (dq hby d0_203) rfl ?_
    refine w_bipush X hx (dq hby d0_205) (z := 32) rfl ?_
    refine w_lshl X hx (dq hby d0_207) ?_
    refine w_lload X hx (dq hby d0_208) rfl ?_
    refine w_lor X hx (dq hby d0_210) ?_
    obtain ⟨v23_211, hv23_211⟩ : ∃ z : Int64, z = ((LShl v19_193 (32 : Int32)) ||| v21_201) := ⟨_, rfl⟩
    refine w_lstore X hx (dq hby d0_211) (z := v23_211) hv23_211 (Ls' := #[.val (.int i0), .val (.int i1), .val (.int i2), .val (.int i3), .val (.int i4), .val (.int i5), .val (.int v6_4), .val (.int v7_10), .val (.int v8_16), .val (.int v9_22), .val (.long v10_31), .second, .val (.long v12_40), .second, .val (.int (1 : Int32)), .val (.int (1 : Int32)), .val (.int (1 : Int32)), .val (.int (0 : Int32)), .val (.int (1 : Int32)), .val (.long v19_193), .second, .val (.long v21_201), .second, .val (.long v23_211), .second, .unset]) rfl ?_
    have rc := own_cost i4; rw [← hv19_193] at rc
    have ra := own_a i5
    have ed := own_d64 (x := v19_193) (y := i5 &&& 262143) (by omega) ra
    rw [← hv21_201, ← hv23_211] at ed
    have eo := own_of (p := v8_16) (j := v9_22) (by omega) ra rv8_16 rv9_22 ed
    refine w_lload X hx (dq hby d0_213) rfl ?_
    refine w_iload X hx (dq hby d0_215) rfl ?_
    refine w_iload X hx (dq hby d0_217) rfl ?_
    refine w_callSP X hx hZ eT hml (by rfl) hown (hw _ (List.mem_of_getElem? (i := 21) rfl)) (hw _ (List.mem_of_getElem? (i := 22) rfl)) (hw _ (List.mem_of_getElem? (i := 3) rfl)) (hw _ (List.mem_of_getElem? (i := 23) rfl)) (by decide) (ct5 l Z a0 hw v23_211 v8_16 v9_22 h0) (dq hby d0_219) pd_3 (argsL := [(.long v23_211), (.int v8_16), (.int v9_22)]) (rest := []) rfl rfl rfl (W := 0) rfl (by decide) (by decide) (by decide) (by decide) fun T X eT => ?_
    refine w_lload X hx (dq hby d0_222) rfl ?_
    refine w_lcmp_ge X hx (dq hby d0_224) (dj hby d0_225) (fun hc225 => (?_ : False).elim) (fun hc225 => ?_)
    · omega
    refine w_iconst X hx (dq hby d0_228) (z := 1) rfl ?_
    refine w_goto X hx (dj hby d0_229) ?_
    refine w_istore X hx (dq hby d0_233) (z := (1 : Int32)) rfl (Ls' := #[.val (.int i0), .val (.int i1), .val (.int i2), .val (.int i3), .val (.int i4), .val (.int i5), .val (.int v6_4), .val (.int v7_10), .val (.int v8_16), .val (.int v9_22), .val (.long v10_31), .second, .val (.long v12_40), .second, .val (.int (1 : Int32)), .val (.int (1 : Int32)), .val (.int (1 : Int32)), .val (.int (0 : Int32)), .val (.int (1 : Int32)), .val (.long v19_193), .second, .val (.long v21_201), .second, .val (.long v23_211), .second, .val (.int (1 : Int32))]) rfl ?_
    refine w_iload X hx (dq hby d0_235) rfl ?_
    refine w_if_eq X hx (dj hby d0_237) (fun hc237 => (?_ : False).elim) (fun hc237 => ?_)
    · exact absurd hc237 (by decide)
    refine w_iload X hx (dq hby d0_240) rfl ?_
    refine w_if_eq X hx (dj hby d0_242) (fun hc242 => (?_ : False).elim) (fun hc242 => ?_)
    · exact absurd hc242 (by decide)
    refine w_iload X hx (dq hby d0_245) rfl ?_
    refine w_if_eq X hx (dj hby d0_247) (fun hc247 => (?_ : False).elim) (fun hc247 => ?_)
    · exact absurd hc247 (by decide)
    refine w_iload X hx (dq hby d0_250) rfl ?_
    refine w_if_eq X hx (dj hby d0_252) (fun hc252 => (?_ : False).elim) (fun hc252 => ?_)
    · exact absurd hc252 (by decide)
    refine w_iconst X hx (dq hby d0_255) (z := 1) rfl ?_
    refine w_goto X hx (dj hby d0_256) ?_
    refine w_retN X hx hret (by simp) hlk (dq hby d0_260) (by decide) (by decide) ?_
    exact ⟨by simp [nar], N⟩
  · refine w_iload X hx (dq hby d0_96) rfl ?_
    refine w_iload X hx (dq hby d0_98) rfl ?_
    refine w_icmp_ne X hx (dj hby d0_100) (fun hc100 => ?_) (fun hc100 => ?_)
    · refine w_iconst X hx (dq hby d0_114) (z := 0) rfl ?_
      refine w_istore X hx (dq hby d0_115) (z := (0 : Int32)) rfl (Ls' := #[.val (.int i0), .val (.int i1), .val (.int i2), .val (.int i3), .val (.int i4), .val (.int i5), .val (.int v6_4), .val (.int v7_10), .val (.int v8_16), .val (.int v9_22), .val (.long v10_31), .second, .val (.long v12_40), .second, .val (.int (1 : Int32)), .val (.int (1 : Int32)), .val (.int (0 : Int32)), .unset, .unset, .unset, .unset, .unset, .unset, .unset, .unset, .unset]) rfl ?_
      refine w_iload X hx (dq hby d0_117) rfl ?_
      refine w_iload X hx (dq hby d0_119) rfl ?_
      refine w_icmp_ne X hx (dj hby d0_121) (fun hc121 => ?_) (fun hc121 => (?_ : False).elim)
      rotate_left
      · exact hc100 hc121
      refine w_iconst X hx (dq hby d0_135) (z := 0) rfl ?_
      refine w_istore X hx (dq hby d0_136) (z := (0 : Int32)) rfl (Ls' := #[.val (.int i0), .val (.int i1), .val (.int i2), .val (.int i3), .val (.int i4), .val (.int i5), .val (.int v6_4), .val (.int v7_10), .val (.int v8_16), .val (.int v9_22), .val (.long v10_31), .second, .val (.long v12_40), .second, .val (.int (1 : Int32)), .val (.int (1 : Int32)), .val (.int (0 : Int32)), .val (.int (0 : Int32)), .unset, .unset, .unset, .unset, .unset, .unset, .unset, .unset]) rfl ?_
      refine w_lload X hx (dq hby d0_138) rfl ?_
      refine w_lload X hx (dq hby d0_140) rfl ?_
      refine w_lcmp_ge X hx (dq hby d0_142) (dj hby d0_143) (fun hc143 => ?_) (fun hc143 => (?_ : False).elim)
      rotate_left
      · have hc100' := i32_ne hc100
        have hc121' := i32_ne hc121
        omega
      refine w_iconst X hx (dq hby d0_150) (z := 0) rfl ?_
      refine w_iload X hx (dq hby d0_151) rfl ?_
      refine w_icmp_ne X hx (dj hby d0_153) (fun hc153 => (?_ : False).elim) (fun hc153 => ?_)
      · exact absurd hc153 (by decide)
      refine w_lload X hx (dq hby d0_156) rfl ?_
      refine w_lload X hx (dq hby d0_158) rfl ?_
      refine w_lcmp_ne X hx (dq hby d0_160) (dj hby d0_161) (fun hc161 => ?_) (fun hc161 => (?_ : False).elim)
      rotate_left
      · have hc100' := i32_ne hc100
        have hc121' := i32_ne hc121
        have hq := congrArg Int64.toInt hc161
        omega
      refine w_iconst X hx (dq hby d0_168) (z := 0) rfl ?_
      refine w_iload X hx (dq hby d0_169) rfl ?_
      refine w_icmp_ne X hx (dj hby d0_171) (fun hc171 => (?_ : False).elim) (fun hc171 => ?_)
      · exact absurd hc171 (by decide)
      refine w_iconst X hx (dq hby d0_174) (z := 1) rfl ?_
      refine w_goto X hx (dj hby d0_175) ?_
      refine w_istore X hx (dq hby d0_179) (z := (1 : Int32)) rfl (Ls' := #[.val (.int i0), .val (.int i1), .val (.int i2), .val (.int i3), .val (.int i4), .val (.int i5), .val (.int v6_4), .val (.int v7_10), .val (.int v8_16), .val (.int v9_22), .val (.long v10_31), .second, .val (.long v12_40), .second, .val (.int (1 : Int32)), .val (.int (1 : Int32)), .val (.int (0 : Int32)), .val (.int (0 : Int32)), .val (.int (1 : Int32)), .unset, .unset, .unset, .unset, .unset, .unset, .unset]) rfl ?_
      refine w_iload X hx (dq hby d0_181) rfl ?_
      refine w_bipush X hx (dq hby d0_183) (z := 8) rfl ?_
      refine w_ishr X hx (dq hby d0_185) ?_
      refine w_i2l X hx (dq hby d0_186) ?_
      refine w_ldc2 X hx hZ hown (hw _ (List.mem_of_getElem? (i := 15) rfl)) (dq hby d0_187) ?_
      refine w_callSP X hx hZ eT hml (by rfl) hown (hw _ (List.mem_of_getElem? (i := 16) rfl)) (hw _ (List.mem_of_getElem? (i := 17) rfl)) (hw _ (List.mem_of_getElem? (i := 18) rfl)) (hw _ (List.mem_of_getElem? (i := 19) rfl)) (by decide) (ct4 l Z a0 hw ((IShr i4 (8 : Int32)).toInt64) (8388606 : Int64) h0) (dq hby d0_190) pd_2 (argsL := [(.long ((IShr i4 (8 : Int32)).toInt64)), (.long (8388606 : Int64))]) (rest := []) rfl rfl rfl (W := 0) rfl (by decide) (by decide) (by decide) (by decide) fun T X eT => ?_
      obtain ⟨v19_193, hv19_193⟩ : ∃ z : Int64, z = (minJ ((IShr i4 (8 : Int32)).toInt64) (8388606 : Int64)) := ⟨_, rfl⟩
      refine w_lstore X hx (dq hby d0_193) (z := v19_193) hv19_193 (Ls' := #[.val (.int i0), .val (.int i1), .val (.int i2), .val (.int i3), .val (.int i4), .val (.int i5), .val (.int v6_4), .val (.int v7_10), .val (.int v8_16), .val (.int v9_22), .val (.long v10_31), .second, .val (.long v12_40), .second, .val (.int (1 : Int32)), .val (.int (1 : Int32)), .val (.int (0 : Int32)), .val (.int (0 : Int32)), .val (.int (1 : Int32)), .val (.long v19_193), .second, .unset, .unset, .unset, .unset, .unset]) rfl ?_
      refine w_iload X hx (dq hby d0_195) rfl ?_
      refine w_ldc X hx hZ hown (hw _ (List.mem_of_getElem? (i := 20) rfl)) (dq hby d0_197) ?_
      refine w_iand X hx (dq hby d0_199) ?_
      refine w_i2l X hx (dq hby d0_200) ?_
      obtain ⟨v21_201, hv21_201⟩ : ∃ z : Int64, z = ((i5 &&& (262143 : Int32)).toInt64) := ⟨_, rfl⟩
      refine w_lstore X hx (dq hby d0_201) (z := v21_201) hv21_201 (Ls' := #[.val (.int i0), .val (.int i1), .val (.int i2), .val (.int i3), .val (.int i4), .val (.int i5), .val (.int v6_4), .val (.int v7_10), .val (.int v8_16), .val (.int v9_22), .val (.long v10_31), .second, .val (.long v12_40), .second, .val (.int (1 : Int32)), .val (.int (1 : Int32)), .val (.int (0 : Int32)), .val (.int (0 : Int32)), .val (.int (1 : Int32)), .val (.long v19_193), .second, .val (.long v21_201), .second, .unset, .unset, .unset]) rfl ?_
      refine w_lload X hx (dq hby d0_203) rfl ?_
      refine w_bipush X hx (dq hby d0_205) (z := 32) rfl ?_
      refine w_lshl X hx (dq hby d0_207) ?_
      refine w_lload X hx (dq hby d0_208) rfl ?_
      refine w_lor X hx (dq hby d0_210) ?_
      obtain ⟨v23_211, hv23_211⟩ : ∃ z : Int64, z = ((LShl v19_193 (32 : Int32)) ||| v21_201) := ⟨_, rfl⟩
      refine w_lstore X hx (dq hby d0_211) (z := v23_211) hv23_211 (Ls' := #[.val (.int i0), .val (.int i1), .val (.int i2), .val (.int i3), .val (.int i4), .val (.int i5), .val (.int v6_4), .val (.int v7_10), .val (.int v8_16), .val (.int v9_22), .val (.long v10_31), .second, .val (.long v12_40), .second, .val (.int (1 : Int32)), .val (.int (1 : Int32)), .val (.int (0 : Int32)), .val (.int (0 : Int32)), .val (.int (1 : Int32)), .val (.long v19_193), .second, .val (.long v21_201), .second, .val (.long v23_211), .second, .unset]) rfl ?_
      have rc := own_cost i4; rw [← hv19_193] at rc
      have ra := own_a i5
      have ed := own_d64 (x := v19_193) (y := i5 &&& 262143) (by omega) ra
      rw [← hv21_201, ← hv23_211] at ed
      have eo := own_of (p := v8_16) (j := v9_22) (by omega) ra rv8_16 rv9_22 ed
      refine w_lload X hx (dq hby d0_213) rfl ?_
      refine w_iload X hx (dq hby d0_215) rfl ?_
      refine w_iload X hx (dq hby d0_217) rfl ?_
      refine w_callSP X hx hZ eT hml (by rfl) hown (hw _ (List.mem_of_getElem? (i := 21) rfl)) (hw _ (List.mem_of_getElem? (i := 22) rfl)) (hw _ (List.mem_of_getElem? (i := 3) rfl)) (hw _ (List.mem_of_getElem? (i := 23) rfl)) (by decide) (ct5 l Z a0 hw v23_211 v8_16 v9_22 h0) (dq hby d0_219) pd_3 (argsL := [(.long v23_211), (.int v8_16), (.int v9_22)]) (rest := []) rfl rfl rfl (W := 0) rfl (by decide) (by decide) (by decide) (by decide) fun T X eT => ?_
      refine w_lload X hx (dq hby d0_222) rfl ?_
      refine w_lcmp_ge X hx (dq hby d0_224) (dj hby d0_225) (fun hc225 => (?_ : False).elim) (fun hc225 => ?_)
      · omega
      refine w_iconst X hx (dq hby d0_228) (z := 1) rfl ?_
      refine w_goto X hx (dj hby d0_229) ?_
      refine w_istore X hx (dq hby d0_233) (z := (1 : Int32)) rfl (Ls' := #[.val (.int i0), .val (.int i1), .val (.int i2), .val (.int i3), .val (.int i4), .val (.int i5), .val (.int v6_4), .val (.int v7_10), .val (.int v8_16), .val (.int v9_22), .val (.long v10_31), .second, .val (.long v12_40), .second, .val (.int (1 : Int32)), .val (.int (1 : Int32)), .val (.int (0 : Int32)), .val (.int (0 : Int32)), .val (.int (1 : Int32)), .val (.long v19_193), .second, .val (.long v21_201), .second, .val (.long v23_211), .second, .val (.int (1 : Int32))]) rfl ?_
      refine w_iload X hx (dq hby d0_235) rfl ?_
      refine w_if_eq X hx (dj hby d0_237) (fun hc237 => (?_ : False).elim) (fun hc237 => ?_)
      · exact absurd hc237 (by decide)
      refine w_iload X hx (dq hby d0_240) rfl ?_
      refine w_if_eq X hx (dj hby d0_242) (fun hc242 => (?_ : False).elim) (fun hc242 => ?_)
      · exact absurd hc242 (by decide)
      refine w_iload X hx (dq hby d0_245) rfl ?_
      refine w_if_eq X hx (dj hby d0_247) (fun hc247 => (?_ : False).elim) (fun hc247 => ?_)
      · exact absurd hc247 (by decide)
      refine w_iload X hx (dq hby d0_250) rfl ?_
      refine w_if_eq X hx (dj hby d0_252) (fun hc252 => (?_ : False).elim) (fun hc252 => ?_)
      · exact absurd hc252 (by decide)
      refine w_iconst X hx (dq hby d0_255) (z := 1) rfl ?_
      refine w_goto X hx (dj hby d0_256) ?_
      refine w_retN X hx hret (by simp) hlk (dq hby d0_260) (by decide) (by decide) ?_
      exact ⟨by simp [nar], N⟩
    · refine w_iload X hx (dq hby d0_103) rfl ?_
      refine w_iload X hx (dq hby d0_105) rfl ?_
      refine w_icmp_ge X hx (dj hby d0_107) (fun hc107 => ?_) (fun hc107 => ?_)
      · refine w_iconst X hx (dq hby d0_114) (z := 0) rfl ?_
        refine w_istore X hx (dq hby d0_115) (z := (0 : Int32)) rfl (Ls' := #[.val (.int i0), .val (.int i1), .val (.int i2), .val (.int i3), .val (.int i4), .val (.int i5), .val (.int v6_4), .val (.int v7_10), .val (.int v8_16), .val (.int v9_22), .val (.long v10_31), .second, .val (.long v12_40), .second, .val (.int (1 : Int32)), .val (.int (1 : Int32)), .val (.int (0 : Int32)), .unset, .unset, .unset, .unset, .unset, .unset, .unset, .unset, .unset]) rfl ?_
        refine w_iload X hx (dq hby d0_117) rfl ?_
        refine w_iload X hx (dq hby d0_119) rfl ?_
        refine w_icmp_ne X hx (dj hby d0_121) (fun hc121 => (?_ : False).elim) (fun hc121 => ?_)
        · exact hc121 hc100
        refine w_iload X hx (dq hby d0_124) rfl ?_
        refine w_iload X hx (dq hby d0_126) rfl ?_
        refine w_icmp_ne X hx (dj hby d0_128) (fun hc128 => ?_) (fun hc128 => ?_)
        · refine w_iconst X hx (dq hby d0_135) (z := 0) rfl ?_
          refine w_istore X hx (dq hby d0_136) (z := (0 : Int32)) rfl (Ls' := #[.val (.int i0), .val (.int i1), .val (.int i2), .val (.int i3), .val (.int i4), .val (.int i5), .val (.int v6_4), .val (.int v7_10), .val (.int v8_16), .val (.int v9_22), .val (.long v10_31), .second, .val (.long v12_40), .second, .val (.int (1 : Int32)), .val (.int (1 : Int32)), .val (.int (0 : Int32)), .val (.int (0 : Int32)), .unset, .unset, .unset, .unset, .unset, .unset, .unset, .unset]) rfl ?_
          refine w_lload X hx (dq hby d0_138) rfl ?_
          refine w_lload X hx (dq hby d0_140) rfl ?_
          refine w_lcmp_ge X hx (dq hby d0_142) (dj hby d0_143) (fun hc143 => ?_) (fun hc143 => (?_ : False).elim)
          rotate_left
          · have hc100' := congrArg Int32.toInt hc100
            have hc121' := congrArg Int32.toInt hc121
            have hc128' := i32_ne hc128
            omega
          refine w_iconst X hx (dq hby d0_150) (z := 0) rfl ?_
          refine w_iload X hx (dq hby d0_151) rfl ?_
          refine w_icmp_ne X hx (dj hby d0_153) (fun hc153 => (?_ : False).elim) (fun hc153 => ?_)
          · exact absurd hc153 (by decide)
          refine w_lload X hx (dq hby d0_156) rfl ?_
          refine w_lload X hx (dq hby d0_158) rfl ?_
          refine w_lcmp_ne X hx (dq hby d0_160) (dj hby d0_161) (fun hc161 => ?_) (fun hc161 => (?_ : False).elim)
          rotate_left
          · have hc100' := congrArg Int32.toInt hc100
            have hc121' := congrArg Int32.toInt hc121
            have hc128' := i32_ne hc128
            have hq := congrArg Int64.toInt hc161
            omega
          refine w_iconst X hx (dq hby d0_168) (z := 0) rfl ?_
          refine w_iload X hx (dq hby d0_169) rfl ?_
          refine w_icmp_ne X hx (dj hby d0_171) (fun hc171 => (?_ : False).elim) (fun hc171 => ?_)
          · exact absurd hc171 (by decide)
          refine w_iconst X hx (dq hby d0_174) (z := 1) rfl ?_
          refine w_goto X hx (dj hby d0_175) ?_
          refine w_istore X hx (dq hby d0_179) (z := (1 : Int32)) rfl (Ls' := #[.val (.int i0), .val (.int i1), .val (.int i2), .val (.int i3), .val (.int i4), .val (.int i5), .val (.int v6_4), .val (.int v7_10), .val (.int v8_16), .val (.int v9_22), .val (.long v10_31), .second, .val (.long v12_40), .second, .val (.int (1 : Int32)), .val (.int (1 : Int32)), .val (.int (0 : Int32)), .val (.int (0 : Int32)), .val (.int (1 : Int32)), .unset, .unset, .unset, .unset, .unset, .unset, .unset]) rfl ?_
          refine w_iload X hx (dq hby d0_181) rfl ?_
          refine w_bipush X hx (dq hby d0_183) (z := 8) rfl ?_
          refine w_ishr X hx (dq hby d0_185) ?_
          refine w_i2l X hx (dq hby d0_186) ?_
          refine w_ldc2 X hx hZ hown (hw _ (List.mem_of_getElem? (i := 15) rfl)) (dq hby d0_187) ?_
          refine w_callSP X hx hZ eT hml (by rfl) hown (hw _ (List.mem_of_getElem? (i := 16) rfl)) (hw _ (List.mem_of_getElem? (i := 17) rfl)) (hw _ (List.mem_of_getElem? (i := 18) rfl)) (hw _ (List.mem_of_getElem? (i := 19) rfl)) (by decide) (ct4 l Z a0 hw ((IShr i4 (8 : Int32)).toInt64) (8388606 : Int64) h0) (dq hby d0_190) pd_2 (argsL := [(.long ((IShr i4 (8 : Int32)).toInt64)), (.long (8388606 : Int64))]) (rest := []) rfl rfl rfl (W := 0) rfl (by decide) (by decide) (by decide) (by decide) fun T X eT => ?_
          obtain ⟨v19_193, hv19_193⟩ : ∃ z : Int64, z = (minJ ((IShr i4 (8 : Int32)).toInt64) (8388606 : Int64)) := ⟨_, rfl⟩
          refine w_lstore X hx (dq hby d0_193) (z := v19_193) hv19_193 (Ls' := #[.val (.int i0), .val (.int i1), .val (.int i2), .val (.int i3), .val (.int i4), .val (.int i5), .val (.int v6_4), .val (.int v7_10), .val (.int v8_16), .val (.int v9_22), .val (.long v10_31), .second, .val (.long v12_40), .second, .val (.int (1 : Int32)), .val (.int (1 : Int32)), .val (.int (0 : Int32)), .val (.int (0 : Int32)), .val (.int (1 : Int32)), .val (.long v19_193), .second, .unset, .unset, .unset, .unset, .unset]) rfl ?_
          refine w_iload X hx (dq hby d0_195) rfl ?_
          refine w_ldc X hx hZ hown (hw _ (List.mem_of_getElem? (i := 20) rfl)) (dq hby d0_197) ?_
          refine w_iand X hx (dq hby d0_199) ?_
          refine w_i2l X hx (dq hby d0_200) ?_
          obtain ⟨v21_201, hv21_201⟩ : ∃ z : Int64, z = ((i5 &&& (262143 : Int32)).toInt64) := ⟨_, rfl⟩
          refine w_lstore X hx (dq hby d0_201) (z := v21_201) hv21_201 (Ls' := #[.val (.int i0), .val (.int i1), .val (.int i2), .val (.int i3), .val (.int i4), .val (.int i5), .val (.int v6_4), .val (.int v7_10), .val (.int v8_16), .val (.int v9_22), .val (.long v10_31), .second, .val (.long v12_40), .second, .val (.int (1 : Int32)), .val (.int (1 : Int32)), .val (.int (0 : Int32)), .val (.int (0 : Int32)), .val (.int (1 : Int32)), .val (.long v19_193), .second, .val (.long v21_201), .second, .unset, .unset, .unset]) rfl ?_
          refine w_lload X hx (dq hby d0_203) rfl ?_
          refine w_bipush X hx (dq hby d0_205) (z := 32) rfl ?_
          refine w_lshl X hx (dq hby d0_207) ?_
          refine w_lload X hx (dq hby d0_208) rfl ?_
          refine w_lor X hx (dq hby d0_210) ?_
          obtain ⟨v23_211, hv23_211⟩ : ∃ z : Int64, z = ((LShl v19_193 (32 : Int32)) ||| v21_201) := ⟨_, rfl⟩
          refine w_lstore X hx (dq hby d0_211) (z := v23_211) hv23_211 (Ls' := #[.val (.int i0), .val (.int i1), .val (.int i2), .val (.int i3), .val (.int i4), .val (.int i5), .val (.int v6_4), .val (.int v7_10), .val (.int v8_16), .val (.int v9_22), .val (.long v10_31), .second, .val (.long v12_40), .second, .val (.int (1 : Int32)), .val (.int (1 : Int32)), .val (.int (0 : Int32)), .val (.int (0 : Int32)), .val (.int (1 : Int32)), .val (.long v19_193), .second, .val (.long v21_201), .second, .val (.long v23_211), .second, .unset]) rfl ?_
          have rc := own_cost i4; rw [← hv19_193] at rc
          have ra := own_a i5
          have ed := own_d64 (x := v19_193) (y := i5 &&& 262143) (by omega) ra
          rw [← hv21_201, ← hv23_211] at ed
          have eo := own_of (p := v8_16) (j := v9_22) (by omega) ra rv8_16 rv9_22 ed
          refine w_lload X hx (dq hby d0_213) rfl ?_
          refine w_iload X hx (dq hby d0_215) rfl ?_
          refine w_iload X hx (dq hby d0_217) rfl ?_
          refine w_callSP X hx hZ eT hml (by rfl) hown (hw _ (List.mem_of_getElem? (i := 21) rfl)) (hw _ (List.mem_of_getElem? (i := 22) rfl)) (hw _ (List.mem_of_getElem? (i := 3) rfl)) (hw _ (List.mem_of_getElem? (i := 23) rfl)) (by decide) (ct5 l Z a0 hw v23_211 v8_16 v9_22 h0) (dq hby d0_219) pd_3 (argsL := [(.long v23_211), (.int v8_16), (.int v9_22)]) (rest := []) rfl rfl rfl (W := 0) rfl (by decide) (by decide) (by decide) (by decide) fun T X eT => ?_
          refine w_lload X hx (dq hby d0_222) rfl ?_
          refine w_lcmp_ge X hx (dq hby d0_224) (dj hby d0_225) (fun hc225 => (?_ : False).elim) (fun hc225 => ?_)
          · omega
          refine w_iconst X hx (dq hby d0_228) (z := 1) rfl ?_
          refine w_goto X hx (dj hby d0_229) ?_
          refine w_istore X hx (dq hby d0_233) (z := (1 : Int32)) rfl (Ls' := #[.val (.int i0), .val (.int i1), .val (.int i2), .val (.int i3), .val (.int i4), .val (.int i5), .val (.int v6_4), .val (.int v7_10), .val (.int v8_16), .val (.int v9_22), .val (.long v10_31), .second, .val (.long v12_40), .second, .val (.int (1 : Int32)), .val (.int (1 : Int32)), .val (.int (0 : Int32)), .val (.int (0 : Int32)), .val (.int (1 : Int32)), .val (.long v19_193), .second, .val (.long v21_201), .second, .val (.long v23_211), .second, .val (.int (1 : Int32))]) rfl ?_
          refine w_iload X hx (dq hby d0_235) rfl ?_
          refine w_if_eq X hx (dj hby d0_237) (fun hc237 => (?_ : False).elim) (fun hc237 => ?_)
          · exact absurd hc237 (by decide)
          refine w_iload X hx (dq hby d0_240) rfl ?_
          refine w_if_eq X hx (dj hby d0_242) (fun hc242 => (?_ : False).elim) (fun hc242 => ?_)
          · exact absurd hc242 (by decide)
          refine w_iload X hx (dq hby d0_245) rfl ?_
          refine w_if_eq X hx (dj hby d0_247) (fun hc247 => (?_ : False).elim) (fun hc247 => ?_)
          · exact absurd hc247 (by decide)
          refine w_iload X hx (dq hby d0_250) rfl ?_
          refine w_if_eq X hx (dj hby d0_252) (fun hc252 => (?_ : False).elim) (fun hc252 => ?_)
          · exact absurd hc252 (by decide)
          refine w_iconst X hx (dq hby d0_255) (z := 1) rfl ?_
          refine w_goto X hx (dj hby d0_256) ?_
          refine w_retN X hx hret (by simp) hlk (dq hby d0_260) (by decide) (by decide) ?_
          exact ⟨by simp [nar], N⟩
        · refine w_iconst X hx (dq hby d0_131) (z := 1) rfl ?_
          refine w_goto X hx (dj hby d0_132) ?_
          refine w_istore X hx (dq hby d0_136) (z := (1 : Int32)) rfl (Ls' := #[.val (.int i0), .val (.int i1), .val (.int i2), .val (.int i3), .val (.int i4), .val (.int i5), .val (.int v6_4), .val (.int v7_10), .val (.int v8_16), .val (.int v9_22), .val (.long v10_31), .second, .val (.long v12_40), .second, .val (.int (1 : Int32)), .val (.int (1 : Int32)), .val (.int (0 : Int32)), .val (.int (1 : Int32)), .unset, .unset, .unset, .unset, .unset, .unset, .unset, .unset]) rfl ?_
          refine w_lload X hx (dq hby d0_138) rfl ?_
          refine w_lload X hx (dq hby d0_140) rfl ?_
          refine w_lcmp_ge X hx (dq hby d0_142) (dj hby d0_143) (fun hc143 => ?_) (fun hc143 => (?_ : False).elim)
          rotate_left
          · have hc100' := congrArg Int32.toInt hc100
            have hc121' := congrArg Int32.toInt hc121
            have hc128' := congrArg Int32.toInt hc128
            omega
          refine w_iconst X hx (dq hby d0_150) (z := 0) rfl ?_
          refine w_iload X hx (dq hby d0_151) rfl ?_
          refine w_icmp_ne X hx (dj hby d0_153) (fun hc153 => (?_ : False).elim) (fun hc153 => ?_)
          · exact absurd hc153 (by decide)
          refine w_lload X hx (dq hby d0_156) rfl ?_
          refine w_lload X hx (dq hby d0_158) rfl ?_
          refine w_lcmp_ne X hx (dq hby d0_160) (dj hby d0_161) (fun hc161 => (?_ : False).elim) (fun hc161 => ?_)
          · have hc100' := congrArg Int32.toInt hc100
            have hc121' := congrArg Int32.toInt hc121
            have hc128' := congrArg Int32.toInt hc128
            exact hc161 (i64_inj (by omega))
          refine w_iconst X hx (dq hby d0_164) (z := 1) rfl ?_
          refine w_goto X hx (dj hby d0_165) ?_
          refine w_iload X hx (dq hby d0_169) rfl ?_
          refine w_icmp_ne X hx (dj hby d0_171) (fun hc171 => (?_ : False).elim) (fun hc171 => ?_)
          · exact absurd hc171 (by decide)
          refine w_iconst X hx (dq hby d0_174) (z := 1) rfl ?_
          refine w_goto X hx (dj hby d0_175) ?_
          refine w_istore X hx (dq hby d0_179) (z := (1 : Int32)) rfl (Ls' := #[.val (.int i0), .val (.int i1), .val (.int i2), .val (.int i3), .val (.int i4), .val (.int i5), .val (.int v6_4), .val (.int v7_10), .val (.int v8_16), .val (.int v9_22), .val (.long v10_31), .second, .val (.long v12_40), .second, .val (.int (1 : Int32)), .val (.int (1 : Int32)), .val (.int (0 : Int32)), .val (.int (1 : Int32)), .val (.int (1 : Int32)), .unset, .unset, .unset, .unset, .unset, .unset, .unset]) rfl ?_
          refine w_iload X hx (dq hby d0_181) rfl ?_
          refine w_bipush X hx (dq hby d0_183) (z := 8) rfl ?_
          refine w_ishr X hx (dq hby d0_185) ?_
          refine w_i2l X hx (dq hby d0_186) ?_
          refine w_ldc2 X hx hZ hown (hw _ (List.mem_of_getElem? (i := 15) rfl)) (dq hby d0_187) ?_
          refine w_callSP X hx hZ eT hml (by rfl) hown (hw _ (List.mem_of_getElem? (i := 16) rfl)) (hw _ (List.mem_of_getElem? (i := 17) rfl)) (hw _ (List.mem_of_getElem? (i := 18) rfl)) (hw _ (List.mem_of_getElem? (i := 19) rfl)) (by decide) (ct4 l Z a0 hw ((IShr i4 (8 : Int32)).toInt64) (8388606 : Int64) h0) (dq hby d0_190) pd_2 (argsL := [(.long ((IShr i4 (8 : Int32)).toInt64)), (.long (8388606 : Int64))]) (rest := []) rfl rfl rfl (W := 0) rfl (by decide) (by decide) (by decide) (by decide) fun T X eT => ?_
          obtain ⟨v19_193, hv19_193⟩ : ∃ z : Int64, z = (minJ ((IShr i4 (8 : Int32)).toInt64) (8388606 : Int64)) := ⟨_, rfl⟩
          refine w_lstore X hx (dq hby d0_193) (z := v19_193) hv19_193 (Ls' := #[.val (.int i0), .val (.int i1), .val (.int i2), .val (.int i3), .val (.int i4), .val (.int i5), .val (.int v6_4), .val (.int v7_10), .val (.int v8_16), .val (.int v9_22), .val (.long v10_31), .second, .val (.long v12_40), .second, .val (.int (1 : Int32)), .val (.int (1 : Int32)), .val (.int (0 : Int32)), .val (.int (1 : Int32)), .val (.int (1 : Int32)), .val (.long v19_193), .second, .unset, .unset, .unset, .unset, .unset]) rfl ?_
          refine w_iload X hx (dq hby d0_195) rfl ?_
          refine w_ldc X hx hZ hown (hw _ (List.mem_of_getElem? (i := 20) rfl)) (dq hby d0_197) ?_
          refine w_iand X hx (dq hby d0_199) ?_
          refine w_i2l X hx (dq hby d0_200) ?_
          obtain ⟨v21_201, hv21_201⟩ : ∃ z : Int64, z = ((i5 &&& (262143 : Int32)).toInt64) := ⟨_, rfl⟩
          refine w_lstore X hx (dq hby d0_201) (z := v21_201) hv21_201 (Ls' := #[.val (.int i0), .val (.int i1), .val (.int i2), .val (.int i3), .val (.int i4), .val (.int i5), .val (.int v6_4), .val (.int v7_10), .val (.int v8_16), .val (.int v9_22), .val (.long v10_31), .second, .val (.long v12_40), .second, .val (.int (1 : Int32)), .val (.int (1 : Int32)), .val (.int (0 : Int32)), .val (.int (1 : Int32)), .val (.int (1 : Int32)), .val (.long v19_193), .second, .val (.long v21_201), .second, .unset, .unset, .unset]) rfl ?_
          refine w_lload X hx (dq hby d0_203) rfl ?_
          refine w_bipush X hx (dq hby d0_205) (z := 32) rfl ?_
          refine w_lshl X hx (dq hby d0_207) ?_
          refine w_lload X hx (dq hby d0_208) rfl ?_
          refine w_lor X hx (dq hby d0_210) ?_
          obtain ⟨v23_211, hv23_211⟩ : ∃ z : Int64, z = ((LShl v19_193 (32 : Int32)) ||| v21_201) := ⟨_, rfl⟩
          refine w_lstore X hx (dq hby d0_211) (z := v23_211) hv23_211 (Ls' := #[.val (.int i0), .val (.int i1), .val (.int i2), .val (.int i3), .val (.int i4), .val (.int i5), .val (.int v6_4), .val (.int v7_10), .val (.int v8_16), .val (.int v9_22), .val (.long v10_31), .second, .val (.long v12_40), .second, .val (.int (1 : Int32)), .val (.int (1 : Int32)), .val (.int (0 : Int32)), .val (.int (1 : Int32)), .val (.int (1 : Int32)), .val (.long v19_193), .second, .val (.long v21_201), .second, .val (.long v23_211), .second, .unset]) rfl ?_
          have rc := own_cost i4; rw [← hv19_193] at rc
          have ra := own_a i5
          have ed := own_d64 (x := v19_193) (y := i5 &&& 262143) (by omega) ra
          rw [← hv21_201, ← hv23_211] at ed
          have eo := own_of (p := v8_16) (j := v9_22) (by omega) ra rv8_16 rv9_22 ed
          refine w_lload X hx (dq hby d0_213) rfl ?_
          refine w_iload X hx (dq hby d0_215) rfl ?_
          refine w_iload X hx (dq hby d0_217) rfl ?_
          refine w_callSP X hx hZ eT hml (by rfl) hown (hw _ (List.mem_of_getElem? (i := 21) rfl)) (hw _ (List.mem_of_getElem? (i := 22) rfl)) (hw _ (List.mem_of_getElem? (i := 3) rfl)) (hw _ (List.mem_of_getElem? (i := 23) rfl)) (by decide) (ct5 l Z a0 hw v23_211 v8_16 v9_22 h0) (dq hby d0_219) pd_3 (argsL := [(.long v23_211), (.int v8_16), (.int v9_22)]) (rest := []) rfl rfl rfl (W := 0) rfl (by decide) (by decide) (by decide) (by decide) fun T X eT => ?_
          refine w_lload X hx (dq hby d0_222) rfl ?_
          refine w_lcmp_ge X hx (dq hby d0_224) (dj hby d0_225) (fun hc225 => (?_ : False).elim) (fun hc225 => ?_)
          · omega
          refine w_iconst X hx (dq hby d0_228) (z := 1) rfl ?_
          refine w_goto X hx (dj hby d0_229) ?_
          refine w_istore X hx (dq hby d0_233) (z := (1 : Int32)) rfl (Ls' := #[.val (.int i0), .val (.int i1), .val (.int i2), .val (.int i3), .val (.int i4), .val (.int i5), .val (.int v6_4), .val (.int v7_10), .val (.int v8_16), .val (.int v9_22), .val (.long v10_31), .second, .val (.long v12_40), .second, .val (.int (1 : Int32)), .val (.int (1 : Int32)), .val (.int (0 : Int32)), .val (.int (1 : Int32)), .val (.int (1 : Int32)), .val (.long v19_193), .second, .val (.long v21_201), .second, .val (.long v23_211), .second, .val (.int (1 : Int32))]) rfl ?_
          refine w_iload X hx (dq hby d0_235) rfl ?_
          refine w_if_eq X hx (dj hby d0_237) (fun hc237 => (?_ : False).elim) (fun hc237 => ?_)
          · exact absurd hc237 (by decide)
          refine w_iload X hx (dq hby d0_240) rfl ?_
          refine w_if_eq X hx (dj hby d0_242) (fun hc242 => (?_ : False).elim) (fun hc242 => ?_)
          · exact absurd hc242 (by decide)
          refine w_iload X hx (dq hby d0_245) rfl ?_
          refine w_if_eq X hx (dj hby d0_247) (fun hc247 => (?_ : False).elim) (fun hc247 => ?_)
          · exact absurd hc247 (by decide)
          refine w_iload X hx (dq hby d0_250) rfl ?_
          refine w_if_eq X hx (dj hby d0_252) (fun hc252 => (?_ : False).elim) (fun hc252 => ?_)
          · exact absurd hc252 (by decide)
          refine w_iconst X hx (dq hby d0_255) (z := 1) rfl ?_
          refine w_goto X hx (dj hby d0_256) ?_
          refine w_retN X hx hret (by simp) hlk (dq hby d0_260) (by decide) (by decide) ?_
          exact ⟨by simp [nar], N⟩
      · refine w_iconst X hx (dq hby d0_110) (z := 1) rfl ?_
        refine w_goto X hx (dj hby d0_111) ?_
        refine w_istore X hx (dq hby d0_115) (z := (1 : Int32)) rfl (Ls' := #[.val (.int i0), .val (.int i1), .val (.int i2), .val (.int i3), .val (.int i4), .val (.int i5), .val (.int v6_4), .val (.int v7_10), .val (.int v8_16), .val (.int v9_22), .val (.long v10_31), .second, .val (.long v12_40), .second, .val (.int (1 : Int32)), .val (.int (1 : Int32)), .val (.int (1 : Int32)), .unset, .unset, .unset, .unset, .unset, .unset, .unset, .unset, .unset]) rfl ?_
        refine w_iload X hx (dq hby d0_117) rfl ?_
        refine w_iload X hx (dq hby d0_119) rfl ?_
        refine w_icmp_ne X hx (dj hby d0_121) (fun hc121 => (?_ : False).elim) (fun hc121 => ?_)
        · exact hc121 hc100
        refine w_iload X hx (dq hby d0_124) rfl ?_
        refine w_iload X hx (dq hby d0_126) rfl ?_
        refine w_icmp_ne X hx (dj hby d0_128) (fun hc128 => ?_) (fun hc128 => (?_ : False).elim)
        rotate_left
        · have hq := congrArg Int32.toInt hc128
          omega
        refine w_iconst X hx (dq hby d0_135) (z := 0) rfl ?_
        refine w_istore X hx (dq hby d0_136) (z := (0 : Int32)) rfl (Ls' := #[.val (.int i0), .val (.int i1), .val (.int i2), .val (.int i3), .val (.int i4), .val (.int i5), .val (.int v6_4), .val (.int v7_10), .val (.int v8_16), .val (.int v9_22), .val (.long v10_31), .second, .val (.long v12_40), .second, .val (.int (1 : Int32)), .val (.int (1 : Int32)), .val (.int (1 : Int32)), .val (.int (0 : Int32)), .unset, .unset, .unset, .unset, .unset, .unset, .unset, .unset]) rfl ?_
        refine w_lload X hx (dq hby d0_138) rfl ?_
        refine w_lload X hx (dq hby d0_140) rfl ?_
        refine w_lcmp_ge X hx (dq hby d0_142) (dj hby d0_143) (fun hc143 => (?_ : False).elim) (fun hc143 => ?_)
        · have hc100' := congrArg Int32.toInt hc100
          have hc121' := congrArg Int32.toInt hc121
          have hc128' := i32_ne hc128
          omega
        refine w_iconst X hx (dq hby d0_146) (z := 1) rfl ?_
        refine w_goto X hx (dj hby d0_147) ?_
        refine w_iload X hx (dq hby d0_151) rfl ?_
        refine w_icmp_ne X hx (dj hby d0_153) (fun hc153 => (?_ : False).elim) (fun hc153 => ?_)
        · exact absurd hc153 (by decide)
        refine w_lload X hx (dq hby d0_156) rfl ?_
        refine w_lload X hx (dq hby d0_158) rfl ?_
        refine w_lcmp_ne X hx (dq hby d0_160) (dj hby d0_161) (fun hc161 => ?_) (fun hc161 => (?_ : False).elim)
        rotate_left
        · have hc100' := congrArg Int32.toInt hc100
          have hc121' := congrArg Int32.toInt hc121
          have hc128' := i32_ne hc128
          have hq := congrArg Int64.toInt hc161
          omega
        refine w_iconst X hx (dq hby d0_168) (z := 0) rfl ?_
        refine w_iload X hx (dq hby d0_169) rfl ?_
        refine w_icmp_ne X hx (dj hby d0_171) (fun hc171 => (?_ : False).elim) (fun hc171 => ?_)
        · exact absurd hc171 (by decide)
        refine w_iconst X hx (dq hby d0_174) (z := 1) rfl ?_
        refine w_goto X hx (dj hby d0_175) ?_
        refine w_istore X hx (dq hby d0_179) (z := (1 : Int32)) rfl (Ls' := #[.val (.int i0), .val (.int i1), .val (.int i2), .val (.int i3), .val (.int i4), .val (.int i5), .val (.int v6_4), .val (.int v7_10), .val (.int v8_16), .val (.int v9_22), .val (.long v10_31), .second, .val (.long v12_40), .second, .val (.int (1 : Int32)), .val (.int (1 : Int32)), .val (.int (1 : Int32)), .val (.int (0 : Int32)), .val (.int (1 : Int32)), .unset, .unset, .unset, .unset, .unset, .unset, .unset]) rfl ?_
        refine w_iload X hx (dq hby d0_181) rfl ?_
        refine w_bipush X hx (dq hby d0_183) (z := 8) rfl ?_
        refine w_ishr X hx (dq hby d0_185) ?_
        refine w_i2l X hx (dq hby d0_186) ?_
        refine w_ldc2 X hx hZ hown (hw _ (List.mem_of_getElem? (i := 15) rfl)) (dq hby d0_187) ?_
        refine w_callSP X hx hZ eT hml (by rfl) hown (hw _ (List.mem_of_getElem? (i := 16) rfl)) (hw _ (List.mem_of_getElem? (i := 17) rfl)) (hw _ (List.mem_of_getElem? (i := 18) rfl)) (hw _ (List.mem_of_getElem? (i := 19) rfl)) (by decide) (ct4 l Z a0 hw ((IShr i4 (8 : Int32)).toInt64) (8388606 : Int64) h0) (dq hby d0_190) pd_2 (argsL := [(.long ((IShr i4 (8 : Int32)).toInt64)), (.long (8388606 : Int64))]) (rest := []) rfl rfl rfl (W := 0) rfl (by decide) (by decide) (by decide) (by decide) fun T X eT => ?_
        obtain ⟨v19_193, hv19_193⟩ : ∃ z : Int64, z = (minJ ((IShr i4 (8 : Int32)).toInt64) (8388606 : Int64)) := ⟨_, rfl⟩
        refine w_lstore X hx (dq hby d0_193) (z := v19_193) hv19_193 (Ls' := #[.val (.int i0), .val (.int i1), .val (.int i2), .val (.int i3), .val (.int i4), .val (.int i5), .val (.int v6_4), .val (.int v7_10), .val (.int v8_16), .val (.int v9_22), .val (.long v10_31), .second, .val (.long v12_40), .second, .val (.int (1 : Int32)), .val (.int (1 : Int32)), .val (.int (1 : Int32)), .val (.int (0 : Int32)), .val (.int (1 : Int32)), .val (.long v19_193), .second, .unset, .unset, .unset, .unset, .unset]) rfl ?_
        refine w_iload X hx (dq hby d0_195) rfl ?_
        refine w_ldc X hx hZ hown (hw _ (List.mem_of_getElem? (i := 20) rfl)) (dq hby d0_197) ?_
        refine w_iand X hx (dq hby d0_199) ?_
        refine w_i2l X hx (dq hby d0_200) ?_
        obtain ⟨v21_201, hv21_201⟩ : ∃ z : Int64, z = ((i5 &&& (262143 : Int32)).toInt64) := ⟨_, rfl⟩
        refine w_lstore X hx (dq hby d0_201) (z := v21_201) hv21_201 (Ls' := #[.val (.int i0), .val (.int i1), .val (.int i2), .val (.int i3), .val (.int i4), .val (.int i5), .val (.int v6_4), .val (.int v7_10), .val (.int v8_16), .val (.int v9_22), .val (.long v10_31), .second, .val (.long v12_40), .second, .val (.int (1 : Int32)), .val (.int (1 : Int32)), .val (.int (1 : Int32)), .val (.int (0 : Int32)), .val (.int (1 : Int32)), .val (.long v19_193), .second, .val (.long v21_201), .second, .unset, .unset, .unset]) rfl ?_
        refine w_lload X hx (dq hby d0_203) rfl ?_
        refine w_bipush X hx (dq hby d0_205) (z := 32) rfl ?_
        refine w_lshl X hx (dq hby d0_207) ?_
        refine w_lload X hx (dq hby d0_208) rfl ?_
        refine w_lor X hx (dq hby d0_210) ?_
        obtain ⟨v23_211, hv23_211⟩ : ∃ z : Int64, z = ((LShl v19_193 (32 : Int32)) ||| v21_201) := ⟨_, rfl⟩
        refine w_lstore X hx (dq hby d0_211) (z := v23_211) hv23_211 (Ls' := #[.val (.int i0), .val (.int i1), .val (.int i2), .val (.int i3), .val (.int i4), .val (.int i5), .val (.int v6_4), .val (.int v7_10), .val (.int v8_16), .val (.int v9_22), .val (.long v10_31), .second, .val (.long v12_40), .second, .val (.int (1 : Int32)), .val (.int (1 : Int32)), .val (.int (1 : Int32)), .val (.int (0 : Int32)), .val (.int (1 : Int32)), .val (.long v19_193), .second, .val (.long v21_201), .second, .val (.long v23_211), .second, .unset]) rfl ?_
        have rc := own_cost i4; rw [← hv19_193] at rc
        have ra := own_a i5
        have ed := own_d64 (x := v19_193) (y := i5 &&& 262143) (by omega) ra
        rw [← hv21_201, ← hv23_211] at ed
        have eo := own_of (p := v8_16) (j := v9_22) (by omega) ra rv8_16 rv9_22 ed
        refine w_lload X hx (dq hby d0_213) rfl ?_
        refine w_iload X hx (dq hby d0_215) rfl ?_
        refine w_iload X hx (dq hby d0_217) rfl ?_
        refine w_callSP X hx hZ eT hml (by rfl) hown (hw _ (List.mem_of_getElem? (i := 21) rfl)) (hw _ (List.mem_of_getElem? (i := 22) rfl)) (hw _ (List.mem_of_getElem? (i := 3) rfl)) (hw _ (List.mem_of_getElem? (i := 23) rfl)) (by decide) (ct5 l Z a0 hw v23_211 v8_16 v9_22 h0) (dq hby d0_219) pd_3 (argsL := [(.long v23_211), (.int v8_16), (.int v9_22)]) (rest := []) rfl rfl rfl (W := 0) rfl (by decide) (by decide) (by decide) (by decide) fun T X eT => ?_
        refine w_lload X hx (dq hby d0_222) rfl ?_
        refine w_lcmp_ge X hx (dq hby d0_224) (dj hby d0_225) (fun hc225 => (?_ : False).elim) (fun hc225 => ?_)
        · omega
        refine w_iconst X hx (dq hby d0_228) (z := 1) rfl ?_
        refine w_goto X hx (dj hby d0_229) ?_
        refine w_istore X hx (dq hby d0_233) (z := (1 : Int32)) rfl (Ls' := #[.val (.int i0), .val (.int i1), .val (.int i2), .val (.int i3), .val (.int i4), .val (.int i5), .val (.int v6_4), .val (.int v7_10), .val (.int v8_16), .val (.int v9_22), .val (.long v10_31), .second, .val (.long v12_40), .second, .val (.int (1 : Int32)), .val (.int (1 : Int32)), .val (.int (1 : Int32)), .val (.int (0 : Int32)), .val (.int (1 : Int32)), .val (.long v19_193), .second, .val (.long v21_201), .second, .val (.long v23_211), .second, .val (.int (1 : Int32))]) rfl ?_
        refine w_iload X hx (dq hby d0_235) rfl ?_
        refine w_if_eq X hx (dj hby d0_237) (fun hc237 => (?_ : False).elim) (fun hc237 => ?_)
        · exact absurd hc237 (by decide)
        refine w_iload X hx (dq hby d0_240) rfl ?_
        refine w_if_eq X hx (dj hby d0_242) (fun hc242 => (?_ : False).elim) (fun hc242 => ?_)
        · exact absurd hc242 (by decide)
        refine w_iload X hx (dq hby d0_245) rfl ?_
        refine w_if_eq X hx (dj hby d0_247) (fun hc247 => (?_ : False).elim) (fun hc247 => ?_)
        · exact absurd hc247 (by decide)
        refine w_iload X hx (dq hby d0_250) rfl ?_
        refine w_if_eq X hx (dj hby d0_252) (fun hc252 => (?_ : False).elim) (fun hc252 => ?_)
        · exact absurd hc252 (by decide)
        refine w_iconst X hx (dq hby d0_255) (z := 1) rfl ?_
        refine w_goto X hx (dj hby d0_256) ?_
        refine w_retN X hx hret (by simp) hlk (dq hby d0_260) (by decide) (by decide) ?_
        exact ⟨by simp [nar], N⟩
set_option maxRecDepth 65536 in
set_option maxHeartbeats 40000000 in
theorem comes_1 {Post : Tables → Env → Array Value → State → Outcome → State → Prop} (hpost : ∀ tb e args s v u, (limb_1_1.after args s (.returned v) u = true ∧ limb_1_2.after args s (.returned v) u = true) → FrameEnd s (.returned v) u (Jvm.fieldLocs frame_1_writes args s ++ Jvm.arrayLocs frame_1_arrays args s ++ Jvm.staticLocs frame_1_statics s) 0 0 → Post tb e args s (.returned v) u) :
    ArmFor flags0 classFile x code maxLocals ret World_1 tables_1 room_1 Calls_1 rest_1 Pre_1 Post := by
  intro l hfl _ _ p e ha hc hk s m args below hf hA hF happ hP
  obtain ⟨hcalls, hrest, hpre⟩ := hP
  obtain ⟨-, -, -, hnamed, -, -, -, hat⟩ := (Spec.applies_iff hf).mp happ
  obtain ⟨hg, hn⟩ := and_e (Cond.before_iff.mp (show (Jvm.Cond.and given_1 narrow_1).before args s = true from hpre))
  obtain ⟨g0, k0⟩ := and_e hg
  obtain ⟨g1, k1⟩ := and_e k0
  obtain ⟨g2, k2⟩ := and_e k1
  obtain ⟨g3, k3⟩ := and_e k2
  obtain ⟨g4, k4⟩ := and_e k3
  obtain ⟨g5, k5⟩ := and_e k4
  obtain ⟨w0, w1, w2, w3, w4, w5, rfl⟩ : ∃ w0 w1 w2 w3 w4 w5 : Value, args = #[w0, w1, w2, w3, w4, w5] := by
    have hs : args.size = 6 := by simpa [Cond.value, given_1] using g0
    obtain ⟨L⟩ := args
    match L, hs with
    | [w0, w1, w2, w3, w4, w5], _ => exact ⟨w0, w1, w2, w3, w4, w5, rfl⟩
  have hw := fun d (hd : d ∈ tables_1) => atoms_spec (ws := Jvm.Cond.code x code maxLocals ret :: tables_1) hat d (List.mem_cons_of_mem _ hd)
  obtain ⟨i0, ei0⟩ := is_v g1
  obtain rfl : w0 = (.int i0) := Option.some.inj ei0
  obtain ⟨i1, ei1⟩ := is_v g2
  obtain rfl : w1 = (.int i1) := Option.some.inj ei1
  obtain ⟨i2, ei2⟩ := is_v g3
  obtain rfl : w2 = (.int i2) := Option.some.inj ei2
  obtain ⟨i3, ei3⟩ := is_v g4
  obtain rfl : w3 = (.int i3) := Option.some.inj ei3
  obtain ⟨i4, ei4⟩ := is_v g5
  obtain rfl : w4 = (.int i4) := Option.some.inj ei4
  obtain ⟨i5, ei5⟩ := is_v k5
  obtain rfl : w5 = (.int i5) := Option.some.inj ei5
  obtain ⟨n, o, h1, h2, h3, _, L, rfl, ⟨rfl, N⟩, hq⟩ := rm0 l s _ hw tables_1 i0 i1 i2 i3 i4 i5 s.heap s.heap.size (Nat.le_refl _) p e ha hc hk s m _ below hf ((Spec.applies_iff_loose hf).mp happ).1 ⟨rfl, State.Warmed39.refl s, rfl⟩ trivial
  exact ⟨n, _, h1, h2, h3, hpost _ _ _ _ _ _ ⟨Cond.after_iff.mpr rfl, Cond.after_iff.mpr (eq_i res_at (Term.int_eval (1)) rfl)⟩ ⟨hq.1, hq.2.1, hq.2.2.sift fun y hy => Or.inr (N y hy)⟩⟩
theorem main_1_1 : Claimed_1_1 := comes_1 fun _ _ _ _ _ _ h hF => ⟨h.1, hF⟩
theorem main_1_2 : Claimed_1_2 := comes_1 fun _ _ _ _ _ _ h hF => ⟨h.2, hF⟩

end Jvm.Pilot.@@N@@
namespace Jvm.Pilot.@@N@@
open Jvm Jvm.ClassFile Sem Op Lib Jvm.Free Jvm.Stand Jvm.Pilot.@@N@@.Jvm.D
/-! MADE BY PROGRAM (witnessworld.py) out of the Statement's table words and the real class files: 10 classes; the members and pool entries that the words name. The judged class is class 1, her method 1. -/
namespace start1
open Jvm.ClassFile
def u (s : String) : CpInfo := .utf8 (stringToUtf16 s)
/-- a pool by its gaps: so many unusable entries, then the entry; so many at the end -/
def gap : Nat → List CpInfo → List CpInfo
  | 0, r => r
  | n + 1, r => .unusable :: gap n r
def poolList (es : List (Nat × CpInfo)) (last : Nat) : List CpInfo := es.foldr (fun e r => gap e.1 (e.2 :: r)) (gap last [])
def pool (es : List (Nat × CpInfo)) (last : Nat) : Array CpInfo := ⟨poolList es last⟩
def fileOf (pool : Array CpInfo) (this : Nat) (attrs : Array Attribute := #[]) (ms : Array MethodInfo := #[]) (fl : Nat := 33) (sup : Nat := 0) (ifs : Array Nat := #[]) (fds : Array FieldInfo := #[]) : ClassFile where
  minorVersion := 0
  majorVersion := 65
  constantPool := pool
  accessFlags := fl
  thisClass := this
  superClass := sup
  interfaces := ifs
  fields := fds
  methods := ms
  attributes := attrs
def plain (name : String) (sup : Option ClassId) : Class where
  name := name
  kind := .ordinary
  loader := none
  accessFlags := 33
  super := sup
  interfaces := #[]
  cf := none
  fields := #[]
  methods := #[]
  instanceTypes := #[]
  staticTypes := #[]
  resolved := #[]
  callSites := []
  init := .initialized
  statics := none
  mirror := none

def pool0 : Array CpInfo := pool [(5, u "<init>"), (0, u "()V"), (1, .class_ 10), (1, u "java/lang/Object")] 113

def k0m0 : Method := { name := "<init>", desc := "()V", sig := { parameters := [], returnType := none }, accessFlags := 1, code := none }
/-- java/lang/Object -/
def k0 : Class := { plain "java/lang/Object" none with
  accessFlags := 33
  interfaces := #[]
  cf := some (fileOf pool0 8 #[] #[{ accessFlags := 1, nameIndex := 5, descriptorIndex := 6, attributes := #[] }] 33 0 #[] #[])
  fields := #[]
  methods := #[k0m0]
  instanceTypes := #[]
  staticTypes := #[]
  resolved := Array.replicate 124 none
  statics := none }

def pool1 : Array CpInfo := pool [(2, .class_ 4), (1, u "java/lang/Object"), (0, u "<init>"), (0, u "()V"), (0, .integer 65535), (0, .methodref 9 10), (0, .class_ 11), (0, .nameAndType 12 13), (0, u "com/example/parts_to_nodes/partstonodes/placement/OfferKeys"), (0, u "unreached"), (0, u "(II)J"), (0, .long 18446744073705357312), (1, .long 9223372036850581504), (1, .methodref 9 19), (0, .nameAndType 20 21), (0, u "partition"), (0, u "(J)I"), (0, .methodref 9 23), (0, .nameAndType 24 21), (0, u "entry"), (0, .long 8388606), (1, .methodref 28 29), (0, .class_ 30), (0, .nameAndType 31 32), (0, u "java/lang/Math"), (0, u "min"), (0, u "(JJ)J"), (0, .integer 262143), (0, .methodref 9 35), (0, .nameAndType 36 37), (0, u "of"), (0, u "(JII)J"), (0, .class_ 39), (0, u "com/example/parts_to_nodes/partstonodes/placement/OfferKeysUnreachedPinLaw"), (2, u "law"), (0, u "(IIIIII)Z")] 3

def k1m0 : Method := { name := "<init>", desc := "()V", sig := { parameters := [], returnType := none }, accessFlags := 2, code := none }
def k1c1 : Code := { maxStack := 4, maxLocals := 26, code := code, exceptionTable := #[], attributes := #[] }
def k1m1 : Method := { name := "law", desc := "(IIIIII)Z", sig := { parameters := [.int, .int, .int, .int, .int, .int], returnType := some .boolean }, accessFlags := 9, code := some k1c1 }
/-- com/example/parts_to_nodes/partstonodes/placement/OfferKeysUnreachedPinLaw -/
def k1 : Class := { plain "com/example/parts_to_nodes/partstonodes/placement/OfferKeysUnreachedPinLaw" (some 0) with
  accessFlags := 49
  interfaces := #[]
  cf := some (fileOf pool1 38 #[] #[{ accessFlags := 2, nameIndex := 5, descriptorIndex := 6, attributes := #[] }, { accessFlags := 9, nameIndex := 42, descriptorIndex := 43, attributes := #[] }] 49 2 #[] #[])
  fields := #[]
  methods := #[k1m0, k1m1]
  instanceTypes := #[]
  staticTypes := #[]
  resolved := Array.replicate 47 none
  statics := none }

def pool2 : Array CpInfo := pool [(4, .class_ 6), (1, u "java/lang/Object"), (0, u "<init>"), (0, u "()V"), (0, .long 4294967295), (1, .class_ 12), (0, u "com/example/parts_to_nodes/partstonodes/placement/OfferKeys"), (0, .long 9223372036850581504), (3, .integer 65535), (21, u "(J)I"), (23, u "of"), (0, u "(JII)J"), (0, u "EMPTY"), (0, u "I"), (2, u "NONE"), (0, u "J"), (0, u "MOST_NODES"), (3, u "unreached"), (0, u "(II)J"), (2, u "partition"), (0, u "entry")] 10

def k2m0 : Method := { name := "<init>", desc := "()V", sig := { parameters := [], returnType := none }, accessFlags := 2, code := none }
def k2c1 : Code := { maxStack := 6, maxLocals := 4, code := prog_24_method_2_code, exceptionTable := #[], attributes := #[] }
def k2m1 : Method := { name := "of", desc := "(JII)J", sig := { parameters := [.long, .int, .int], returnType := some .long }, accessFlags := 8, code := some k2c1 }
def k2c2 : Code := { maxStack := 5, maxLocals := 2, code := prog_24_method_3_code, exceptionTable := #[], attributes := #[] }
def k2m2 : Method := { name := "unreached", desc := "(II)J", sig := { parameters := [.int, .int], returnType := some .long }, accessFlags := 8, code := some k2c2 }
def k2c3 : Code := { maxStack := 3, maxLocals := 2, code := prog_24_method_5_code, exceptionTable := #[], attributes := #[] }
def k2m3 : Method := { name := "partition", desc := "(J)I", sig := { parameters := [.long], returnType := some .int }, accessFlags := 8, code := some k2c3 }
def k2c4 : Code := { maxStack := 2, maxLocals := 2, code := prog_24_method_6_code, exceptionTable := #[], attributes := #[] }
def k2m4 : Method := { name := "entry", desc := "(J)I", sig := { parameters := [.long], returnType := some .int }, accessFlags := 8, code := some k2c4 }
/-- com/example/parts_to_nodes/partstonodes/placement/OfferKeys -/
def k2 : Class := { plain "com/example/parts_to_nodes/partstonodes/placement/OfferKeys" (some 0) with
  accessFlags := 48
  interfaces := #[]
  cf := some (fileOf pool2 11 #[] #[{ accessFlags := 2, nameIndex := 7, descriptorIndex := 8, attributes := #[] }, { accessFlags := 8, nameIndex := 63, descriptorIndex := 64, attributes := #[] }, { accessFlags := 8, nameIndex := 75, descriptorIndex := 76, attributes := #[] }, { accessFlags := 8, nameIndex := 79, descriptorIndex := 39, attributes := #[] }, { accessFlags := 8, nameIndex := 80, descriptorIndex := 39, attributes := #[] }] 48 4 #[] #[{ accessFlags := 24, nameIndex := 65, descriptorIndex := 66, attributes := #[] }, { accessFlags := 24, nameIndex := 69, descriptorIndex := 70, attributes := #[] }, { accessFlags := 24, nameIndex := 71, descriptorIndex := 66, attributes := #[] }])
  fields := #[{ name := "EMPTY", type := .int, accessFlags := 24, slot := 0, constantValue := 0 }, { name := "NONE", type := .long, accessFlags := 24, slot := 1, constantValue := 0 }, { name := "MOST_NODES", type := .int, accessFlags := 24, slot := 2, constantValue := 0 }]
  methods := #[k2m0, k2m1, k2m2, k2m3, k2m4]
  instanceTypes := #[]
  staticTypes := #[.int, .long, .int]
  resolved := Array.replicate 91 none
  statics := none }

def pool3 : Array CpInfo := pool [(1, .class_ 2), (0, u "java/lang/Math"), (1, .class_ 6), (1, u "java/lang/Object"), (0, u "<init>"), (0, u "()V"), (89, .class_ 100), (1, u "java/lang/Math$RandomNumberGeneratorHolder"), (20, u "(JJ)J"), (50, u "negativeZeroFloatBits"), (0, u "J"), (2, u "negativeZeroDoubleBits"), (24, u "min"), (43, u "$assertionsDisabled"), (0, u "Z"), (91, u "twoToTheDoubleScaleDown"), (0, u "D"), (4, u "twoToTheDoubleScaleUp"), (9, u "E"), (3, u "PI"), (2, u "TAU"), (2, u "DEGREES_TO_RADIANS"), (0, u "RADIANS_TO_DEGREES")] 94

def k3m0 : Method := { name := "<init>", desc := "()V", sig := { parameters := [], returnType := none }, accessFlags := 2, code := none }
def k3c1 : Code := { maxStack := 4, maxLocals := 4, code := jdk_29_method_70_code, exceptionTable := #[], attributes := #[] }
def k3m1 : Method := { name := "min", desc := "(JJ)J", sig := { parameters := [.long, .long], returnType := some .long }, accessFlags := 9, code := some k3c1 }
/-- java/lang/Math -/
def k3 : Class := { plain "java/lang/Math" (some 0) with
  accessFlags := 49
  interfaces := #[]
  cf := some (fileOf pool3 1 #[.nestMembers #[98]] #[{ accessFlags := 2, nameIndex := 7, descriptorIndex := 8, attributes := #[] }, { accessFlags := 9, nameIndex := 201, descriptorIndex := 121, attributes := #[] }] 49 4 #[] #[{ accessFlags := 25, nameIndex := 354, descriptorIndex := 339, attributes := #[] }, { accessFlags := 25, nameIndex := 358, descriptorIndex := 339, attributes := #[] }, { accessFlags := 25, nameIndex := 361, descriptorIndex := 339, attributes := #[] }, { accessFlags := 26, nameIndex := 364, descriptorIndex := 339, attributes := #[] }, { accessFlags := 26, nameIndex := 365, descriptorIndex := 339, attributes := #[] }, { accessFlags := 26, nameIndex := 172, descriptorIndex := 173, attributes := #[] }, { accessFlags := 26, nameIndex := 176, descriptorIndex := 173, attributes := #[] }, { accessFlags := 8, nameIndex := 344, descriptorIndex := 339, attributes := #[] }, { accessFlags := 8, nameIndex := 338, descriptorIndex := 339, attributes := #[] }, { accessFlags := 4120, nameIndex := 245, descriptorIndex := 246, attributes := #[] }])
  fields := #[{ name := "E", type := .double, accessFlags := 25, slot := 0, constantValue := 0 }, { name := "PI", type := .double, accessFlags := 25, slot := 1, constantValue := 0 }, { name := "TAU", type := .double, accessFlags := 25, slot := 2, constantValue := 0 }, { name := "DEGREES_TO_RADIANS", type := .double, accessFlags := 26, slot := 3, constantValue := 0 }, { name := "RADIANS_TO_DEGREES", type := .double, accessFlags := 26, slot := 4, constantValue := 0 }, { name := "negativeZeroFloatBits", type := .long, accessFlags := 26, slot := 5, constantValue := 0 }, { name := "negativeZeroDoubleBits", type := .long, accessFlags := 26, slot := 6, constantValue := 0 }, { name := "twoToTheDoubleScaleUp", type := .double, accessFlags := 8, slot := 7, constantValue := 0 }, { name := "twoToTheDoubleScaleDown", type := .double, accessFlags := 8, slot := 8, constantValue := 0 }, { name := "$assertionsDisabled", type := .boolean, accessFlags := 4120, slot := 9, constantValue := 0 }]
  methods := #[k3m0, k3m1]
  instanceTypes := #[]
  staticTypes := #[.double, .double, .double, .double, .double, .long, .long, .double, .double, .boolean]
  resolved := Array.replicate 460 none
  statics := none }

def pool4 : Array CpInfo := pool [(1, u "java/lang/Cloneable"), (0, .class_ 1), (0, u "java/lang/Object"), (0, .class_ 3)] 3

/-- java/lang/Cloneable -/
def k4 : Class := { plain "java/lang/Cloneable" (some 0) with
  accessFlags := 1537
  interfaces := #[]
  cf := some (fileOf pool4 2 #[] #[] 1537 4 #[] #[])
  fields := #[]
  methods := #[]
  instanceTypes := #[]
  staticTypes := #[]
  resolved := Array.replicate 8 none
  statics := none }

def pool5 : Array CpInfo := pool [(1, u "java/io/Serializable"), (0, .class_ 1), (0, u "java/lang/Object"), (0, .class_ 3)] 3

/-- java/io/Serializable -/
def k5 : Class := { plain "java/io/Serializable" (some 0) with
  accessFlags := 1537
  interfaces := #[]
  cf := some (fileOf pool5 2 #[] #[] 1537 4 #[] #[])
  fields := #[]
  methods := #[]
  instanceTypes := #[]
  staticTypes := #[]
  resolved := Array.replicate 8 none
  statics := none }

/-- the primitive byte -/
def k6 : Class := { plain "byte" none with kind := .primitive 'B', accessFlags := 0x411 }
/-- [B -/
def k7 : Class := { plain "[B" (some 0) with kind := .array 6 .byte, interfaces := #[4, 5], accessFlags := 1041 }

/-- the primitive int -/
def k8 : Class := { plain "int" none with kind := .primitive 'I', accessFlags := 0x411 }
/-- [I -/
def k9 : Class := { plain "[I" (some 0) with kind := .array 8 .int, interfaces := #[4, 5], accessFlags := 1041 }

def heap : Heap := #[]
def classes : Array Class := #[k0, k1, k2, k3, k4, k5, k6, k7, k8, k9]
def interned : List (Array UInt16 × Addr) := []
def slotsUsed : Nat := 0
def theMethod : MethodId := ⟨1, 1⟩
def args0 : Array Value := #[.int 5, .int 7, .int 1, .int 3, .int 4, .int 9]
def aboutOver (below : List Frame) : State where
  vm := { classes := classes, interned := interned.toArray }
  heap := heap
  slotsUsed := slotsUsed
  threads := #[{ frames := .invoking theMethod args0 :: below }]
def below0 : List Frame := [.native { method := ⟨0, 0⟩, args := #[] }]
def about1 : State := aboutOver below0
def p0 : Program := .bare "" "" ""
def e0 : Env := launch0.env 0 0 0
theorem w_frames : about1.frames = Frame.invoking theMethod args0 :: below0 := rfl
set_option maxRecDepth 65536 in
theorem w_args : argsFit about1.vm theMethod args0 = true := by decide +kernel
set_option maxRecDepth 65536 in
theorem w_heap : heapFits about1 = true := by decide +kernel
set_option maxRecDepth 65536 in
theorem w_runnable : about1.curStatus? = some .runnable := by decide +kernel
set_option maxRecDepth 65536 in
theorem w_alone : about1.alone = true := by decide +kernel
set_option maxRecDepth 65536 in
theorem w_named : about1.methodNamed? x = some theMethod := by decide +kernel
set_option maxRecDepth 65536 in
theorem w_hears : about1.hears theMethod below0 = true := by decide +kernel
set_option maxRecDepth 65536 in
theorem w_ripe : about1.ripe theMethod args0 below0 = true := by decide +kernel
theorem w_running : about1.status = .running := rfl
set_option maxRecDepth 65536 in
theorem w_room : about1.hasRoom e0.platform room_1 = true :=
  launch0.hasRoom_least _ room_1 (by decide +kernel) (by decide +kernel) (by decide +kernel) (by decide +kernel) (by decide +kernel) (by decide +kernel)
theorem allAtoms_all (ts : List Jvm.Cond) (a : Array Jvm.Value) (st : Jvm.State) : (allAtoms ts).before a st = ts.all (fun c => c.before a st) := by
  induction ts with
  | nil => rfl
  | cons c t ih =>
    show (Jvm.Cond.and c (allAtoms t)).before a st = _
    rw [Jvm.Cond.before_and, ih, List.all_cons]
def words1 : List Jvm.Cond := Jvm.Cond.code x code maxLocals ret :: tables_1
/-- a 'code' word, met by the world's own term for the bytes: nothing is compared byte by byte -/
theorem code_word {y : MethodName} {bytes : ByteArray} {mx : Nat} {rt : Option FieldType} {a : Array Value} {s : State} {m : MethodId} {meth : Method} {c : Code} (h1 : s.methodNamed? y = some m) (h2 : s.vm.method? m = some meth) (h3 : meth.code = some c) (h4 : c.code = bytes)
    (h5 : (c.maxLocals == mx && c.exceptionTable.isEmpty && decide (c.maxStack ≤ mostOperands) && decide (meth.sig.returnType = rt) && !meth.locks && decide (parseMethodDescriptor y.desc = some meth.sig)) = true) : (Jvm.Cond.code y bytes mx rt).before a s = true := by
  simp only [Bool.and_eq_true, beq_iff_eq, Bool.not_eq_true', decide_eq_true_eq] at h5
  obtain ⟨⟨⟨⟨⟨g1, g2⟩, g3⟩, g4⟩, g5⟩, g6⟩ := h5
  simp [Cond.before, Cond.holds, Cond.value, h1, h2, h3, h4, g1, g2, g3, g4, g5, g6]
def isCode : Jvm.Cond → Bool
  | .code _ _ _ _ => true
  | _ => false
theorem all_split {L : List Jvm.Cond} {P : Jvm.Cond → Bool} (h1 : L.all (fun c => isCode c || P c) = true) (h2 : ∀ c ∈ L.filter isCode, P c = true) : L.all P = true := by
  refine List.all_eq_true.mpr fun c hc => ?_
  have h := List.all_eq_true.mp h1 c hc
  rcases Bool.eq_false_or_eq_true (isCode c) with hi | hi
  · exact h2 c (List.mem_filter.mpr ⟨hc, hi⟩)
  · simpa [hi] using h
set_option maxRecDepth 65536 in
theorem w_c0 : (Jvm.Cond.code x code maxLocals ret).before args0 about1 = true := code_word (m := ⟨1, 1⟩) (meth := k1m1) (c := k1c1) (by decide +kernel) rfl rfl rfl (by decide +kernel)
set_option maxRecDepth 65536 in
theorem w_c1 : (Jvm.Cond.code ({ cls := "com/example/parts_to_nodes/partstonodes/placement/OfferKeys", name := "unreached", desc := "(II)J" } : Jvm.MethodName) prog_24_method_3_code (2 : Nat) (Option.some Jvm.ClassFile.FieldType.long)).before args0 about1 = true := code_word (m := ⟨2, 2⟩) (meth := k2m2) (c := k2c2) (by decide +kernel) rfl rfl rfl (by decide +kernel)
set_option maxRecDepth 65536 in
theorem w_c2 : (Jvm.Cond.code ({ cls := "com/example/parts_to_nodes/partstonodes/placement/OfferKeys", name := "partition", desc := "(J)I" } : Jvm.MethodName) prog_24_method_5_code (2 : Nat) (Option.some Jvm.ClassFile.FieldType.int)).before args0 about1 = true := code_word (m := ⟨2, 3⟩) (meth := k2m3) (c := k2c3) (by decide +kernel) rfl rfl rfl (by decide +kernel)
set_option maxRecDepth 65536 in
theorem w_c3 : (Jvm.Cond.code ({ cls := "com/example/parts_to_nodes/partstonodes/placement/OfferKeys", name := "entry", desc := "(J)I" } : Jvm.MethodName) prog_24_method_6_code (2 : Nat) (Option.some Jvm.ClassFile.FieldType.int)).before args0 about1 = true := code_word (m := ⟨2, 4⟩) (meth := k2m4) (c := k2c4) (by decide +kernel) rfl rfl rfl (by decide +kernel)
set_option maxRecDepth 65536 in
theorem w_c4 : (Jvm.Cond.code ({ cls := "java/lang/Math", name := "min", desc := "(JJ)J" } : Jvm.MethodName) jdk_29_method_70_code (4 : Nat) (Option.some Jvm.ClassFile.FieldType.long)).before args0 about1 = true := code_word (m := ⟨3, 1⟩) (meth := k3m1) (c := k3c1) (by decide +kernel) rfl rfl rfl (by decide +kernel)
set_option maxRecDepth 65536 in
theorem w_c5 : (Jvm.Cond.code ({ cls := "com/example/parts_to_nodes/partstonodes/placement/OfferKeys", name := "of", desc := "(JII)J" } : Jvm.MethodName) prog_24_method_2_code (4 : Nat) (Option.some Jvm.ClassFile.FieldType.long)).before args0 about1 = true := code_word (m := ⟨2, 1⟩) (meth := k2m1) (c := k2c1) (by decide +kernel) rfl rfl rfl (by decide +kernel)
def codes1 : List Jvm.Cond := [Jvm.Cond.code x code maxLocals ret, Jvm.Cond.code ({ cls := "com/example/parts_to_nodes/partstonodes/placement/OfferKeys", name := "unreached", desc := "(II)J" } : Jvm.MethodName) prog_24_method_3_code (2 : Nat) (Option.some Jvm.ClassFile.FieldType.long), Jvm.Cond.code ({ cls := "com/example/parts_to_nodes/partstonodes/placement/OfferKeys", name := "partition", desc := "(J)I" } : Jvm.MethodName) prog_24_method_5_code (2 : Nat) (Option.some Jvm.ClassFile.FieldType.int), Jvm.Cond.code ({ cls := "com/example/parts_to_nodes/partstonodes/placement/OfferKeys", name := "entry", desc := "(J)I" } : Jvm.MethodName) prog_24_method_6_code (2 : Nat) (Option.some Jvm.ClassFile.FieldType.int), Jvm.Cond.code ({ cls := "java/lang/Math", name := "min", desc := "(JJ)J" } : Jvm.MethodName) jdk_29_method_70_code (4 : Nat) (Option.some Jvm.ClassFile.FieldType.long), Jvm.Cond.code ({ cls := "com/example/parts_to_nodes/partstonodes/placement/OfferKeys", name := "of", desc := "(JII)J" } : Jvm.MethodName) prog_24_method_2_code (4 : Nat) (Option.some Jvm.ClassFile.FieldType.long)]
set_option maxRecDepth 65536 in
theorem codes_eq : words1.filter isCode = codes1 := rfl
theorem w_codes : ∀ c ∈ words1.filter isCode, c.before args0 about1 = true := by
  rw [codes_eq]
  intro c hc
  simp only [codes1, List.mem_cons, List.not_mem_nil, or_false] at hc
  rcases hc with rfl | rfl | rfl | rfl | rfl | rfl
  · exact w_c0
  · exact w_c1
  · exact w_c2
  · exact w_c3
  · exact w_c4
  · exact w_c5
set_option maxRecDepth 65536 in
theorem w_t1 : (words1.take 24).all (fun c => isCode c || c.before args0 about1) = true := by decide +kernel
set_option maxRecDepth 65536 in
theorem w_t2 : (words1.drop 24).all (fun c => isCode c || c.before args0 about1) = true := by decide +kernel
theorem w_tables : (allAtoms (Jvm.Cond.code x code maxLocals ret :: tables_1)).before args0 about1 = true := by
  rw [allAtoms_all]
  show words1.all (fun c => c.before args0 about1) = true
  refine all_split ?_ w_codes
  rw [← List.take_append_drop 24 words1, List.all_append, w_t1, w_t2]
  rfl
set_option maxRecDepth 65536 in
theorem w_case : (Jvm.Cond.and given_1 narrow_1).before args0 about1 = true := by decide +kernel
theorem w_applies : (headSpec (Jvm.Cond.code x code maxLocals ret :: tables_1) room_1).applies x e0.platform about1 = true :=
  (Spec.applies_iff w_frames).mpr ⟨w_running, w_runnable, w_alone, w_named, w_hears, w_ripe, w_room, w_tables⟩
theorem atStart : AtStart classFile x code maxLocals ret World_1 tables_1 room_1 Calls_1 rest_1 Pre_1 launch0 p0 e0 about1 theMethod args0 below0 :=
  ⟨lists_1, trivial, launch0.admits_env _ _ _, launch0.least_env, fairChoices_fair.cas, fairChoices_fair.clock, w_frames, w_args, w_heap, w_applies, trivial, trivial, w_case⟩
end start1
theorem witness_1 : WitnessClaimed_1 := ⟨start1.p0, start1.e0, start1.about1, start1.theMethod, start1.args0, start1.below0, start1.atStart⟩
end Jvm.Pilot.@@N@@
