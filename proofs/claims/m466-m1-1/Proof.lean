import JvmDerived
import JvmDerived.Pilot.@@N@@Statement
import JvmDerived.Pilot.@@N@@Code
set_option linter.unusedVariables false
set_option linter.unusedSimpArgs false
@@BLOCK:NumsL.lean.txt@@
namespace Jvm.Pilot.@@N@@
open Jvm Jvm.ClassFile Sem Op Lib Jvm.Free Jvm.Stand Jvm.LawKit Jvm.RoadKit Bundle Jvm.Pilot.@@N@@.Jvm.D
section Kit
variable {p : Program} {l : Launch} {e : Env} {R : Room} {s : State} {m : MethodId} {args : Array Value} {below : List Frame} {meth : Method} {c : Code} {T : State} {locs : List Loc} {cells slots : Nat} {Z : State} {a0 : Array Value} {h : Heap}
variable {Q : Option Value → Heap → List Loc → Prop} {C S : Nat} {pc pc' : Nat} {Ls Ls' : Array Slot} {rest : List Value}
/-- the goal of a walk: from the state σ the run comes to its end, which is as Q says -/
def Go (p : Program) (e : Env) (below : List Frame) (s : State) (Q : Option Value → Heap → List Loc → Prop) (C S : Nat) (σ : State) : Prop :=
  ∃ s₂ o, Steps p.tables e below σ s₂ ∧ s₂.status = .running ∧ Ended s₂ below o ∧ ∃ v L, o = .returned v ∧ Q v s₂.heap L ∧ FrameEnd s o s₂ L C S
theorem Go.step {σ τ : State} (st : ∀ t, Steps p.tables e below τ t → Steps p.tables e below σ t) (k : Go p e below s Q C S τ) : Go p e below s Q C S σ := by
  obtain ⟨s₂, o, h1, h2⟩ := k
  exact ⟨s₂, o, st _ h1, h2⟩
theorem Go.mono {Q' : Option Value → Heap → List Loc → Prop} {σ : State} (k : Go p e below s Q C S σ) (hq : ∀ v h L, Q v h L → Q' v h L) : Go p e below s Q' C S σ := by
  obtain ⟨s₂, o, h1, h2, h3, v, L, h4, h5, h6⟩ := k
  exact ⟨s₂, o, h1, h2, h3, v, L, h4, hq _ _ _ h5, h6⟩
/-- a join: the road behind it is walked once -/
theorem w_j1 {A0 : Type} {σ : State} (F : A0 → State) (P : A0 → Prop) (hJ : ∀ a0, P a0 → Go p e below s Q C S (F a0)) (hB : (∀ a0, P a0 → Go p e below s Q C S (F a0)) → Go p e below s Q C S σ) : Go p e below s Q C S σ := hB hJ
theorem w_j2 {A0 A1 : Type} {σ : State} (F : A0 → A1 → State) (P : A0 → A1 → Prop) (hJ : ∀ a0 a1, P a0 a1 → Go p e below s Q C S (F a0 a1)) (hB : (∀ a0 a1, P a0 a1 → Go p e below s Q C S (F a0 a1)) → Go p e below s Q C S σ) : Go p e below s Q C S σ := hB hJ
theorem w_j3 {A0 A1 A2 : Type} {σ : State} (F : A0 → A1 → A2 → State) (P : A0 → A1 → A2 → Prop) (hJ : ∀ a0 a1 a2, P a0 a1 a2 → Go p e below s Q C S (F a0 a1 a2)) (hB : (∀ a0 a1 a2, P a0 a1 a2 → Go p e below s Q C S (F a0 a1 a2)) → Go p e below s Q C S σ) : Go p e below s Q C S σ := hB hJ
theorem w_j4 {A0 A1 A2 A3 : Type} {σ : State} (F : A0 → A1 → A2 → A3 → State) (P : A0 → A1 → A2 → A3 → Prop) (hJ : ∀ a0 a1 a2 a3, P a0 a1 a2 a3 → Go p e below s Q C S (F a0 a1 a2 a3)) (hB : (∀ a0 a1 a2 a3, P a0 a1 a2 a3 → Go p e below s Q C S (F a0 a1 a2 a3)) → Go p e below s Q C S σ) : Go p e below s Q C S σ := hB hJ
theorem w_j5 {A0 A1 A2 A3 A4 : Type} {σ : State} (F : A0 → A1 → A2 → A3 → A4 → State) (P : A0 → A1 → A2 → A3 → A4 → Prop) (hJ : ∀ a0 a1 a2 a3 a4, P a0 a1 a2 a3 a4 → Go p e below s Q C S (F a0 a1 a2 a3 a4)) (hB : (∀ a0 a1 a2 a3 a4, P a0 a1 a2 a3 a4 → Go p e below s Q C S (F a0 a1 a2 a3 a4)) → Go p e below s Q C S σ) : Go p e below s Q C S σ := hB hJ
theorem w_j6 {A0 A1 A2 A3 A4 A5 : Type} {σ : State} (F : A0 → A1 → A2 → A3 → A4 → A5 → State) (P : A0 → A1 → A2 → A3 → A4 → A5 → Prop) (hJ : ∀ a0 a1 a2 a3 a4 a5, P a0 a1 a2 a3 a4 a5 → Go p e below s Q C S (F a0 a1 a2 a3 a4 a5)) (hB : (∀ a0 a1 a2 a3 a4 a5, P a0 a1 a2 a3 a4 a5 → Go p e below s Q C S (F a0 a1 a2 a3 a4 a5)) → Go p e below s Q C S σ) : Go p e below s Q C S σ := hB hJ
theorem w_j7 {A0 A1 A2 A3 A4 A5 A6 : Type} {σ : State} (F : A0 → A1 → A2 → A3 → A4 → A5 → A6 → State) (P : A0 → A1 → A2 → A3 → A4 → A5 → A6 → Prop) (hJ : ∀ a0 a1 a2 a3 a4 a5 a6, P a0 a1 a2 a3 a4 a5 a6 → Go p e below s Q C S (F a0 a1 a2 a3 a4 a5 a6)) (hB : (∀ a0 a1 a2 a3 a4 a5 a6, P a0 a1 a2 a3 a4 a5 a6 → Go p e below s Q C S (F a0 a1 a2 a3 a4 a5 a6)) → Go p e below s Q C S σ) : Go p e below s Q C S σ := hB hJ
theorem w_eqI {x z : Int32} (hz : x = z) (k : Go p e below s Q C S (T.setTop (mkF m pc Ls (.int z :: rest)))) : Go p e below s Q C S (T.setTop (mkF m pc Ls (.int x :: rest))) := hz ▸ k
theorem w_eqJ {x z : Int64} (hz : x = z) (k : Go p e below s Q C S (T.setTop (mkF m pc Ls (.long z :: rest)))) : Go p e below s Q C S (T.setTop (mkF m pc Ls (.long x :: rest))) := hz ▸ k
def Dc (code : ByteArray) (pc : Nat) (i : Instr) (n pc' : Nat) : Prop := decode code pc = .ok (i, n) ∧ pc + n = pc'
def Dj (code : ByteArray) (pc : Nat) (i : Instr) (o : Int) (pcT pcF : Nat) : Prop := decode code pc = .ok (i, 3) ∧ 0 ≤ (pc : Int) + o ∧ ((pc : Int) + o).toNat = pcT ∧ pc + 3 = pcF
theorem dq {code : ByteArray} {i : Instr} {n : Nat} (hq : c.code = code) (d : Dc code pc i n pc') : Dc c.code pc i n pc' := hq ▸ d
theorem dj {code : ByteArray} {i : Instr} {o : Int} {pcT pcF : Nat} (hq : c.code = code) (d : Dj code pc i o pcT pcF) : Dj c.code pc i o pcT pcF := hq ▸ d
abbrev St (p : Program) (l : Launch) (e : Env) (R : Room) (s : State) (m : MethodId) (args : Array Value) (below : List Frame) (meth : Method) (c : Code) (T : State) (locs : List Loc) (cells slots : Nat) : Prop := Stand p l e R s m args below meth c T locs cells slots
/-! loads, stores, constants -/
theorem w_iload (X : Stand p l e R s m args below meth c T locs cells slots) (hx : p.tables.exec = Jvm.exec) {n : Nat} {z : Int32} (hd : Dc c.code pc (.iload n) 2 pc') (hl : Ls[n]? = some (.val (.int z))) (k : Go p e below s Q C S (T.setTop (mkF m pc' Ls (.int z :: rest)))) : Go p e below s Q C S (T.setTop (mkF m pc Ls (rest))) := by
  obtain ⟨hd, rfl⟩ := hd; exact k.step fun _ t => XS.iload X.here hx rfl hd hl t
theorem w_iloadN (X : Stand p l e R s m args below meth c T locs cells slots) (hx : p.tables.exec = Jvm.exec) {n : Fin 4} {z : Int32} (hd : Dc c.code pc (.iload_n n) 1 pc') (hl : Ls[n.val]? = some (.val (.int z))) (k : Go p e below s Q C S (T.setTop (mkF m pc' Ls (.int z :: rest)))) : Go p e below s Q C S (T.setTop (mkF m pc Ls (rest))) := by
  obtain ⟨hd, rfl⟩ := hd; exact k.step fun _ t => XS.iloadN X.here hx rfl hd hl t
theorem w_istore (X : Stand p l e R s m args below meth c T locs cells slots) (hx : p.tables.exec = Jvm.exec) {n : Nat} {x z : Int32} (hd : Dc c.code pc (.istore n) 2 pc') (hz : z = x) (hs : storeLocals Ls n (.int z) = some Ls') (k : Go p e below s Q C S (T.setTop (mkF m pc' Ls' (rest)))) : Go p e below s Q C S (T.setTop (mkF m pc Ls (.int x :: rest))) := by
  obtain ⟨hd, rfl⟩ := hd; subst hz; exact k.step fun _ t => XS.istore X.here hx rfl hd rfl hs t
theorem w_istoreN (X : Stand p l e R s m args below meth c T locs cells slots) (hx : p.tables.exec = Jvm.exec) {n : Fin 4} {x z : Int32} (hd : Dc c.code pc (.istore_n n) 1 pc') (hz : z = x) (hs : storeLocals Ls n.val (.int z) = some Ls') (k : Go p e below s Q C S (T.setTop (mkF m pc' Ls' (rest)))) : Go p e below s Q C S (T.setTop (mkF m pc Ls (.int x :: rest))) := by
  obtain ⟨hd, rfl⟩ := hd; subst hz; exact k.step fun _ t => XS.istoreN X.here hx rfl hd rfl hs t
theorem w_lload (X : Stand p l e R s m args below meth c T locs cells slots) (hx : p.tables.exec = Jvm.exec) {n : Nat} {z : Int64} (hd : Dc c.code pc (.lload n) 2 pc') (hl : Ls[n]? = some (.val (.long z))) (k : Go p e below s Q C S (T.setTop (mkF m pc' Ls (.long z :: rest)))) : Go p e below s Q C S (T.setTop (mkF m pc Ls (rest))) := by
  obtain ⟨hd, rfl⟩ := hd; exact k.step fun _ t => XS.lload X.here hx rfl hd hl t
theorem w_lloadN (X : Stand p l e R s m args below meth c T locs cells slots) (hx : p.tables.exec = Jvm.exec) {n : Fin 4} {z : Int64} (hd : Dc c.code pc (.lload_n n) 1 pc') (hl : Ls[n.val]? = some (.val (.long z))) (k : Go p e below s Q C S (T.setTop (mkF m pc' Ls (.long z :: rest)))) : Go p e below s Q C S (T.setTop (mkF m pc Ls (rest))) := by
  obtain ⟨hd, rfl⟩ := hd; exact k.step fun _ t => XS.lloadN X.here hx rfl hd hl t
theorem w_lstore (X : Stand p l e R s m args below meth c T locs cells slots) (hx : p.tables.exec = Jvm.exec) {n : Nat} {x z : Int64} (hd : Dc c.code pc (.lstore n) 2 pc') (hz : z = x) (hs : storeLocals Ls n (.long z) = some Ls') (k : Go p e below s Q C S (T.setTop (mkF m pc' Ls' (rest)))) : Go p e below s Q C S (T.setTop (mkF m pc Ls (.long x :: rest))) := by
  obtain ⟨hd, rfl⟩ := hd; subst hz; exact k.step fun _ t => XS.lstore X.here hx rfl hd rfl hs t
theorem w_lstoreN (X : Stand p l e R s m args below meth c T locs cells slots) (hx : p.tables.exec = Jvm.exec) {n : Fin 4} {x z : Int64} (hd : Dc c.code pc (.lstore_n n) 1 pc') (hz : z = x) (hs : storeLocals Ls n.val (.long z) = some Ls') (k : Go p e below s Q C S (T.setTop (mkF m pc' Ls' (rest)))) : Go p e below s Q C S (T.setTop (mkF m pc Ls (.long x :: rest))) := by
  obtain ⟨hd, rfl⟩ := hd; subst hz; exact k.step fun _ t => XS.lstoreN X.here hx rfl hd rfl hs t
theorem w_aload (X : Stand p l e R s m args below meth c T locs cells slots) (hx : p.tables.exec = Jvm.exec) {n : Nat} {v : Value} (hd : Dc c.code pc (.aload n) 2 pc') (hl : Ls[n]? = some (.val v)) (hv : v.isRef = true) (k : Go p e below s Q C S (T.setTop (mkF m pc' Ls (v :: rest)))) : Go p e below s Q C S (T.setTop (mkF m pc Ls (rest))) := by
  obtain ⟨hd, rfl⟩ := hd; exact k.step fun _ t => XS.aload X.here hx rfl hd hl hv t
theorem w_aloadN (X : Stand p l e R s m args below meth c T locs cells slots) (hx : p.tables.exec = Jvm.exec) {n : Fin 4} {v : Value} (hd : Dc c.code pc (.aload_n n) 1 pc') (hl : Ls[n.val]? = some (.val v)) (hv : v.isRef = true) (k : Go p e below s Q C S (T.setTop (mkF m pc' Ls (v :: rest)))) : Go p e below s Q C S (T.setTop (mkF m pc Ls (rest))) := by
  obtain ⟨hd, rfl⟩ := hd; exact k.step fun _ t => XS.aloadN X.here hx rfl hd hl hv t
theorem w_astore (X : Stand p l e R s m args below meth c T locs cells slots) (hx : p.tables.exec = Jvm.exec) {n : Nat} {v : Value} (hd : Dc c.code pc (.astore n) 2 pc') (hv : v.isRef = true) (hs : storeLocals Ls n v = some Ls') (k : Go p e below s Q C S (T.setTop (mkF m pc' Ls' (rest)))) : Go p e below s Q C S (T.setTop (mkF m pc Ls (v :: rest))) := by
  obtain ⟨hd, rfl⟩ := hd; exact k.step fun _ t => XS.astore X.here hx rfl hd rfl hv hs t
theorem w_astoreN (X : Stand p l e R s m args below meth c T locs cells slots) (hx : p.tables.exec = Jvm.exec) {n : Fin 4} {v : Value} (hd : Dc c.code pc (.astore_n n) 1 pc') (hv : v.isRef = true) (hs : storeLocals Ls n.val v = some Ls') (k : Go p e below s Q C S (T.setTop (mkF m pc' Ls' (rest)))) : Go p e below s Q C S (T.setTop (mkF m pc Ls (v :: rest))) := by
  obtain ⟨hd, rfl⟩ := hd; exact k.step fun _ t => XS.astoreN X.here hx rfl hd rfl hv hs t
theorem w_iconst (X : Stand p l e R s m args below meth c T locs cells slots) (hx : p.tables.exec = Jvm.exec) {i : Int} {z : Int32} (hd : Dc c.code pc (.iconst i) 1 pc') (hz : Int32.ofInt i = z) (k : Go p e below s Q C S (T.setTop (mkF m pc' Ls (.int z :: rest)))) : Go p e below s Q C S (T.setTop (mkF m pc Ls rest)) := by
  obtain ⟨hd, rfl⟩ := hd; subst hz; exact k.step fun _ t => XS.iconst X.here hx rfl hd t
theorem w_bipush (X : Stand p l e R s m args below meth c T locs cells slots) (hx : p.tables.exec = Jvm.exec) {i : Int} {z : Int32} (hd : Dc c.code pc (.bipush i) 2 pc') (hz : (Int8.ofInt i).toInt32 = z) (k : Go p e below s Q C S (T.setTop (mkF m pc' Ls (.int z :: rest)))) : Go p e below s Q C S (T.setTop (mkF m pc Ls rest)) := by
  obtain ⟨hd, rfl⟩ := hd; subst hz; exact k.step fun _ t => XS.bipush X.here hx rfl hd t
theorem w_sipush (X : Stand p l e R s m args below meth c T locs cells slots) (hx : p.tables.exec = Jvm.exec) {i : Int} {z : Int32} (hd : Dc c.code pc (.sipush i) 3 pc') (hz : (Int16.ofInt i).toInt32 = z) (k : Go p e below s Q C S (T.setTop (mkF m pc' Ls (.int z :: rest)))) : Go p e below s Q C S (T.setTop (mkF m pc Ls rest)) := by
  obtain ⟨hd, rfl⟩ := hd; subst hz; exact k.step fun _ t => XS.sipush X.here hx rfl hd t
theorem w_lconst (X : Stand p l e R s m args below meth c T locs cells slots) (hx : p.tables.exec = Jvm.exec) {i : Fin 2} {z : Int64} (hd : Dc c.code pc (.lconst i) 1 pc') (hz : Int64.ofNat i = z) (k : Go p e below s Q C S (T.setTop (mkF m pc' Ls (.long z :: rest)))) : Go p e below s Q C S (T.setTop (mkF m pc Ls rest)) := by
  obtain ⟨hd, rfl⟩ := hd; subst hz; exact k.step fun _ t => XS.lconst X.here hx rfl hd t
theorem w_null (X : Stand p l e R s m args below meth c T locs cells slots) (hx : p.tables.exec = Jvm.exec) (hd : Dc c.code pc .aconst_null 1 pc') (k : Go p e below s Q C S (T.setTop (mkF m pc' Ls (.null :: rest)))) : Go p e below s Q C S (T.setTop (mkF m pc Ls rest)) := by
  obtain ⟨hd, rfl⟩ := hd; exact k.step fun _ t => XS.aconstNull X.here hx rfl hd t
theorem w_ldc (X : Stand p l e R s m args below meth c T locs cells slots) (hx : p.tables.exec = Jvm.exec) (hZ : Z.Warmed39 s.vm) {own : String} {index : Nat} {z : Int32} (hown : s.vm.findClass own = some m.cls) (w : (Jvm.Cond.constant own index z).before a0 Z = true) (hd : Dc c.code pc (.ldc index) 2 pc') (k : Go p e below s Q C S (T.setTop (mkF m pc' Ls (.int z :: rest)))) : Go p e below s Q C S (T.setTop (mkF m pc Ls rest)) := by
  obtain ⟨hd, rfl⟩ := hd; exact k.step fun t q => X.ldcInt hx hown (mvT hZ w) (g := mkF m pc Ls rest) rfl hd t q
theorem w_ldcw (X : Stand p l e R s m args below meth c T locs cells slots) (hx : p.tables.exec = Jvm.exec) (hZ : Z.Warmed39 s.vm) {own : String} {index : Nat} {z : Int32} (hown : s.vm.findClass own = some m.cls) (w : (Jvm.Cond.constant own index z).before a0 Z = true) (hd : Dc c.code pc (.ldc_w index) 3 pc') (k : Go p e below s Q C S (T.setTop (mkF m pc' Ls (.int z :: rest)))) : Go p e below s Q C S (T.setTop (mkF m pc Ls rest)) := by
  obtain ⟨hd, rfl⟩ := hd; exact k.step fun t q => X.ldcwInt hx hown (mvT hZ w) (g := mkF m pc Ls rest) rfl hd t q
theorem w_ldc2 (X : Stand p l e R s m args below meth c T locs cells slots) (hx : p.tables.exec = Jvm.exec) (hZ : Z.Warmed39 s.vm) {own : String} {index : Nat} {z : Int64} (hown : s.vm.findClass own = some m.cls) (w : (Jvm.Cond.constantLong own index z).before a0 Z = true) (hd : Dc c.code pc (.ldc2_w index) 3 pc') (k : Go p e below s Q C S (T.setTop (mkF m pc' Ls (.long z :: rest)))) : Go p e below s Q C S (T.setTop (mkF m pc Ls rest)) := by
  obtain ⟨hd, rfl⟩ := hd; exact k.step fun t q => X.ldc2Long hx hown (mvT hZ w) (g := mkF m pc Ls rest) rfl hd t q
theorem w_iinc (X : Stand p l e R s m args below meth c T locs cells slots) (hx : p.tables.exec = Jvm.exec) {n : Nat} {i : Int} {x z : Int32} (hd : Dc c.code pc (.iinc n i) 3 pc') (hl : Ls[n]? = some (.val (.int x))) (hz : x + Int32.ofInt i = z) (hs : storeLocals Ls n (.int z) = some Ls') (k : Go p e below s Q C S (T.setTop (mkF m pc' Ls' rest))) : Go p e below s Q C S (T.setTop (mkF m pc Ls rest)) := by
  obtain ⟨hd, rfl⟩ := hd; subst hz; exact k.step fun _ t => XS.iinc X.here hx rfl hd hl hs t
/-! arithmetic -/
def IShl (x y : Int32) : Int32 := x <<< (y &&& 31)
def IShr (x y : Int32) : Int32 := x >>> (y &&& 31)
def IUshr (x y : Int32) : Int32 := (x.toUInt32 >>> (y &&& 31).toUInt32).toInt32
def LShl (x : Int64) (y : Int32) : Int64 := x <<< (y &&& 0x3f).toInt64
def LShr (x : Int64) (y : Int32) : Int64 := x >>> (y &&& 0x3f).toInt64
def LUshr (x : Int64) (y : Int32) : Int64 := (x.toUInt64 >>> (y &&& 0x3f).toInt64.toUInt64).toInt64
theorem w_iadd (X : Stand p l e R s m args below meth c T locs cells slots) (hx : p.tables.exec = Jvm.exec) {x y : Int32} (hd : Dc c.code pc .iadd 1 pc') (k : Go p e below s Q C S (T.setTop (mkF m pc' Ls (.int (x + y) :: rest)))) : Go p e below s Q C S (T.setTop (mkF m pc Ls (.int y :: .int x :: rest))) := by
  obtain ⟨hd, rfl⟩ := hd; exact k.step fun _ t => XS.iadd X.here hx rfl hd rfl t
theorem w_isub (X : Stand p l e R s m args below meth c T locs cells slots) (hx : p.tables.exec = Jvm.exec) {x y : Int32} (hd : Dc c.code pc .isub 1 pc') (k : Go p e below s Q C S (T.setTop (mkF m pc' Ls (.int (x - y) :: rest)))) : Go p e below s Q C S (T.setTop (mkF m pc Ls (.int y :: .int x :: rest))) := by
  obtain ⟨hd, rfl⟩ := hd; exact k.step fun _ t => XS.isub X.here hx rfl hd rfl t
theorem w_imul (X : Stand p l e R s m args below meth c T locs cells slots) (hx : p.tables.exec = Jvm.exec) {x y : Int32} (hd : Dc c.code pc .imul 1 pc') (k : Go p e below s Q C S (T.setTop (mkF m pc' Ls (.int (x * y) :: rest)))) : Go p e below s Q C S (T.setTop (mkF m pc Ls (.int y :: .int x :: rest))) := by
  obtain ⟨hd, rfl⟩ := hd; exact k.step fun _ t => XS.imul X.here hx rfl hd rfl t
theorem w_iand (X : Stand p l e R s m args below meth c T locs cells slots) (hx : p.tables.exec = Jvm.exec) {x y : Int32} (hd : Dc c.code pc .iand 1 pc') (k : Go p e below s Q C S (T.setTop (mkF m pc' Ls (.int (x &&& y) :: rest)))) : Go p e below s Q C S (T.setTop (mkF m pc Ls (.int y :: .int x :: rest))) := by
  obtain ⟨hd, rfl⟩ := hd; exact k.step fun _ t => XS.iand X.here hx rfl hd rfl t
theorem w_ior (X : Stand p l e R s m args below meth c T locs cells slots) (hx : p.tables.exec = Jvm.exec) {x y : Int32} (hd : Dc c.code pc .ior 1 pc') (k : Go p e below s Q C S (T.setTop (mkF m pc' Ls (.int (x ||| y) :: rest)))) : Go p e below s Q C S (T.setTop (mkF m pc Ls (.int y :: .int x :: rest))) := by
  obtain ⟨hd, rfl⟩ := hd; exact k.step fun _ t => XS.ior X.here hx rfl hd rfl t
theorem w_ixor (X : Stand p l e R s m args below meth c T locs cells slots) (hx : p.tables.exec = Jvm.exec) {x y : Int32} (hd : Dc c.code pc .ixor 1 pc') (k : Go p e below s Q C S (T.setTop (mkF m pc' Ls (.int (x ^^^ y) :: rest)))) : Go p e below s Q C S (T.setTop (mkF m pc Ls (.int y :: .int x :: rest))) := by
  obtain ⟨hd, rfl⟩ := hd; exact k.step fun _ t => XS.ixor X.here hx rfl hd rfl t
theorem w_ishl (X : Stand p l e R s m args below meth c T locs cells slots) (hx : p.tables.exec = Jvm.exec) {x : Int32} {y : Int32} (hd : Dc c.code pc .ishl 1 pc') (k : Go p e below s Q C S (T.setTop (mkF m pc' Ls (.int (IShl x y) :: rest)))) : Go p e below s Q C S (T.setTop (mkF m pc Ls (.int y :: .int x :: rest))) := by
  obtain ⟨hd, rfl⟩ := hd; exact k.step fun _ t => XS.ishl X.here hx rfl hd rfl t
theorem w_ishr (X : Stand p l e R s m args below meth c T locs cells slots) (hx : p.tables.exec = Jvm.exec) {x : Int32} {y : Int32} (hd : Dc c.code pc .ishr 1 pc') (k : Go p e below s Q C S (T.setTop (mkF m pc' Ls (.int (IShr x y) :: rest)))) : Go p e below s Q C S (T.setTop (mkF m pc Ls (.int y :: .int x :: rest))) := by
  obtain ⟨hd, rfl⟩ := hd; exact k.step fun _ t => XS.ishr X.here hx rfl hd rfl t
theorem w_iushr (X : Stand p l e R s m args below meth c T locs cells slots) (hx : p.tables.exec = Jvm.exec) {x : Int32} {y : Int32} (hd : Dc c.code pc .iushr 1 pc') (k : Go p e below s Q C S (T.setTop (mkF m pc' Ls (.int (IUshr x y) :: rest)))) : Go p e below s Q C S (T.setTop (mkF m pc Ls (.int y :: .int x :: rest))) := by
  obtain ⟨hd, rfl⟩ := hd; exact k.step fun _ t => XS.iushr X.here hx rfl hd rfl t
theorem w_ladd (X : Stand p l e R s m args below meth c T locs cells slots) (hx : p.tables.exec = Jvm.exec) {x y : Int64} (hd : Dc c.code pc .ladd 1 pc') (k : Go p e below s Q C S (T.setTop (mkF m pc' Ls (.long (x + y) :: rest)))) : Go p e below s Q C S (T.setTop (mkF m pc Ls (.long y :: .long x :: rest))) := by
  obtain ⟨hd, rfl⟩ := hd; exact k.step fun _ t => XS.ladd X.here hx rfl hd rfl t
theorem w_lsub (X : Stand p l e R s m args below meth c T locs cells slots) (hx : p.tables.exec = Jvm.exec) {x y : Int64} (hd : Dc c.code pc .lsub 1 pc') (k : Go p e below s Q C S (T.setTop (mkF m pc' Ls (.long (x - y) :: rest)))) : Go p e below s Q C S (T.setTop (mkF m pc Ls (.long y :: .long x :: rest))) := by
  obtain ⟨hd, rfl⟩ := hd; exact k.step fun _ t => XS.lsub X.here hx rfl hd rfl t
theorem w_lmul (X : Stand p l e R s m args below meth c T locs cells slots) (hx : p.tables.exec = Jvm.exec) {x y : Int64} (hd : Dc c.code pc .lmul 1 pc') (k : Go p e below s Q C S (T.setTop (mkF m pc' Ls (.long (x * y) :: rest)))) : Go p e below s Q C S (T.setTop (mkF m pc Ls (.long y :: .long x :: rest))) := by
  obtain ⟨hd, rfl⟩ := hd; exact k.step fun _ t => XS.lmul X.here hx rfl hd rfl t
theorem w_land (X : Stand p l e R s m args below meth c T locs cells slots) (hx : p.tables.exec = Jvm.exec) {x y : Int64} (hd : Dc c.code pc .land 1 pc') (k : Go p e below s Q C S (T.setTop (mkF m pc' Ls (.long (x &&& y) :: rest)))) : Go p e below s Q C S (T.setTop (mkF m pc Ls (.long y :: .long x :: rest))) := by
  obtain ⟨hd, rfl⟩ := hd; exact k.step fun _ t => XS.land X.here hx rfl hd rfl t
theorem w_lor (X : Stand p l e R s m args below meth c T locs cells slots) (hx : p.tables.exec = Jvm.exec) {x y : Int64} (hd : Dc c.code pc .lor 1 pc') (k : Go p e below s Q C S (T.setTop (mkF m pc' Ls (.long (x ||| y) :: rest)))) : Go p e below s Q C S (T.setTop (mkF m pc Ls (.long y :: .long x :: rest))) := by
  obtain ⟨hd, rfl⟩ := hd; exact k.step fun _ t => XS.lor X.here hx rfl hd rfl t
theorem w_lxor (X : Stand p l e R s m args below meth c T locs cells slots) (hx : p.tables.exec = Jvm.exec) {x y : Int64} (hd : Dc c.code pc .lxor 1 pc') (k : Go p e below s Q C S (T.setTop (mkF m pc' Ls (.long (x ^^^ y) :: rest)))) : Go p e below s Q C S (T.setTop (mkF m pc Ls (.long y :: .long x :: rest))) := by
  obtain ⟨hd, rfl⟩ := hd; exact k.step fun _ t => XS.lxor X.here hx rfl hd rfl t
theorem w_lshl (X : Stand p l e R s m args below meth c T locs cells slots) (hx : p.tables.exec = Jvm.exec) {x : Int64} {y : Int32} (hd : Dc c.code pc .lshl 1 pc') (k : Go p e below s Q C S (T.setTop (mkF m pc' Ls (.long (LShl x y) :: rest)))) : Go p e below s Q C S (T.setTop (mkF m pc Ls (.int y :: .long x :: rest))) := by
  obtain ⟨hd, rfl⟩ := hd; exact k.step fun _ t => XS.lshl X.here hx rfl hd rfl t
theorem w_lshr (X : Stand p l e R s m args below meth c T locs cells slots) (hx : p.tables.exec = Jvm.exec) {x : Int64} {y : Int32} (hd : Dc c.code pc .lshr 1 pc') (k : Go p e below s Q C S (T.setTop (mkF m pc' Ls (.long (LShr x y) :: rest)))) : Go p e below s Q C S (T.setTop (mkF m pc Ls (.int y :: .long x :: rest))) := by
  obtain ⟨hd, rfl⟩ := hd; exact k.step fun _ t => XS.lshr X.here hx rfl hd rfl t
theorem w_lushr (X : Stand p l e R s m args below meth c T locs cells slots) (hx : p.tables.exec = Jvm.exec) {x : Int64} {y : Int32} (hd : Dc c.code pc .lushr 1 pc') (k : Go p e below s Q C S (T.setTop (mkF m pc' Ls (.long (LUshr x y) :: rest)))) : Go p e below s Q C S (T.setTop (mkF m pc Ls (.int y :: .long x :: rest))) := by
  obtain ⟨hd, rfl⟩ := hd; exact k.step fun _ t => XS.lushr X.here hx rfl hd rfl t
theorem w_ineg (X : Stand p l e R s m args below meth c T locs cells slots) (hx : p.tables.exec = Jvm.exec) {x : Int32} (hd : Dc c.code pc .ineg 1 pc') (k : Go p e below s Q C S (T.setTop (mkF m pc' Ls (.int (-x) :: rest)))) : Go p e below s Q C S (T.setTop (mkF m pc Ls (.int x :: rest))) := by
  obtain ⟨hd, rfl⟩ := hd; exact k.step fun _ t => XS.ineg X.here hx rfl hd rfl t
theorem w_lneg (X : Stand p l e R s m args below meth c T locs cells slots) (hx : p.tables.exec = Jvm.exec) {x : Int64} (hd : Dc c.code pc .lneg 1 pc') (k : Go p e below s Q C S (T.setTop (mkF m pc' Ls (.long (-x) :: rest)))) : Go p e below s Q C S (T.setTop (mkF m pc Ls (.long x :: rest))) := by
  obtain ⟨hd, rfl⟩ := hd; exact k.step fun _ t => XS.lneg X.here hx rfl hd rfl t
theorem w_i2l (X : Stand p l e R s m args below meth c T locs cells slots) (hx : p.tables.exec = Jvm.exec) {x : Int32} (hd : Dc c.code pc .i2l 1 pc') (k : Go p e below s Q C S (T.setTop (mkF m pc' Ls (.long (x.toInt64) :: rest)))) : Go p e below s Q C S (T.setTop (mkF m pc Ls (.int x :: rest))) := by
  obtain ⟨hd, rfl⟩ := hd; exact k.step fun _ t => XS.i2l X.here hx rfl hd rfl t
theorem w_l2i (X : Stand p l e R s m args below meth c T locs cells slots) (hx : p.tables.exec = Jvm.exec) {x : Int64} (hd : Dc c.code pc .l2i 1 pc') (k : Go p e below s Q C S (T.setTop (mkF m pc' Ls (.int (x.toInt32) :: rest)))) : Go p e below s Q C S (T.setTop (mkF m pc Ls (.long x :: rest))) := by
  obtain ⟨hd, rfl⟩ := hd; exact k.step fun _ t => XS.l2i X.here hx rfl hd rfl t
theorem w_i2b (X : Stand p l e R s m args below meth c T locs cells slots) (hx : p.tables.exec = Jvm.exec) {x : Int32} (hd : Dc c.code pc .i2b 1 pc') (k : Go p e below s Q C S (T.setTop (mkF m pc' Ls (.int (x.toInt8.toInt32) :: rest)))) : Go p e below s Q C S (T.setTop (mkF m pc Ls (.int x :: rest))) := by
  obtain ⟨hd, rfl⟩ := hd; exact k.step fun _ t => XS.i2b X.here hx rfl hd rfl t
theorem w_i2c (X : Stand p l e R s m args below meth c T locs cells slots) (hx : p.tables.exec = Jvm.exec) {x : Int32} (hd : Dc c.code pc .i2c 1 pc') (k : Go p e below s Q C S (T.setTop (mkF m pc' Ls (.int (x.toUInt32.toUInt16.toUInt32.toInt32) :: rest)))) : Go p e below s Q C S (T.setTop (mkF m pc Ls (.int x :: rest))) := by
  obtain ⟨hd, rfl⟩ := hd; exact k.step fun _ t => XS.i2c X.here hx rfl hd rfl t
theorem w_i2s (X : Stand p l e R s m args below meth c T locs cells slots) (hx : p.tables.exec = Jvm.exec) {x : Int32} (hd : Dc c.code pc .i2s 1 pc') (k : Go p e below s Q C S (T.setTop (mkF m pc' Ls (.int (x.toInt16.toInt32) :: rest)))) : Go p e below s Q C S (T.setTop (mkF m pc Ls (.int x :: rest))) := by
  obtain ⟨hd, rfl⟩ := hd; exact k.step fun _ t => XS.i2s X.here hx rfl hd rfl t
theorem w_idiv (X : Stand p l e R s m args below meth c T locs cells slots) (hx : p.tables.exec = Jvm.exec) {x y : Int32} (hd : Dc c.code pc .idiv 1 pc') (hy : y ≠ 0) (k : Go p e below s Q C S (T.setTop (mkF m pc' Ls (.int (x / y) :: rest)))) : Go p e below s Q C S (T.setTop (mkF m pc Ls (.int y :: .int x :: rest))) := by
  obtain ⟨hd, rfl⟩ := hd; exact k.step fun _ t => XS.idiv X.here hx rfl hd rfl hy t
theorem w_irem (X : Stand p l e R s m args below meth c T locs cells slots) (hx : p.tables.exec = Jvm.exec) {x y : Int32} (hd : Dc c.code pc .irem 1 pc') (hy : y ≠ 0) (k : Go p e below s Q C S (T.setTop (mkF m pc' Ls (.int (x % y) :: rest)))) : Go p e below s Q C S (T.setTop (mkF m pc Ls (.int y :: .int x :: rest))) := by
  obtain ⟨hd, rfl⟩ := hd; exact k.step fun _ t => iremM X hx rfl hd rfl hy t
theorem w_ldiv (X : Stand p l e R s m args below meth c T locs cells slots) (hx : p.tables.exec = Jvm.exec) {x y : Int64} (hd : Dc c.code pc .ldiv 1 pc') (hy : y ≠ 0) (k : Go p e below s Q C S (T.setTop (mkF m pc' Ls (.long (x / y) :: rest)))) : Go p e below s Q C S (T.setTop (mkF m pc Ls (.long y :: .long x :: rest))) := by
  obtain ⟨hd, rfl⟩ := hd; exact k.step fun _ t => XS.ldiv X.here hx rfl hd rfl hy t
theorem w_dup (X : Stand p l e R s m args below meth c T locs cells slots) (hx : p.tables.exec = Jvm.exec) {v : Value} (hd : Dc c.code pc .dup 1 pc') (hc : v.category = 1) (k : Go p e below s Q C S (T.setTop (mkF m pc' Ls (v :: v :: rest)))) : Go p e below s Q C S (T.setTop (mkF m pc Ls (v :: rest))) := by
  obtain ⟨hd, rfl⟩ := hd; exact k.step fun _ t => XS.dup X.here hx rfl hd rfl hc t
theorem w_dupx1 (X : Stand p l e R s m args below meth c T locs cells slots) (hx : p.tables.exec = Jvm.exec) {v w : Value} (hd : Dc c.code pc .dup_x1 1 pc') (hc : v.category = 1) (hc' : w.category = 1) (k : Go p e below s Q C S (T.setTop (mkF m pc' Ls (v :: w :: v :: rest)))) : Go p e below s Q C S (T.setTop (mkF m pc Ls (v :: w :: rest))) := by
  obtain ⟨hd, rfl⟩ := hd; exact k.step fun _ t => XS.dupX1 X.here hx rfl hd rfl hc hc' t
theorem w_dup2 (X : Stand p l e R s m args below meth c T locs cells slots) (hx : p.tables.exec = Jvm.exec) {v w : Value} (hd : Dc c.code pc .dup2 1 pc') (hc : v.category = 1) (hc' : w.category = 1) (k : Go p e below s Q C S (T.setTop (mkF m pc' Ls (v :: w :: v :: w :: rest)))) : Go p e below s Q C S (T.setTop (mkF m pc Ls (v :: w :: rest))) := by
  obtain ⟨hd, rfl⟩ := hd; exact k.step fun _ t => XT.dup2 X.here hx rfl hd rfl hc hc' t
theorem w_dup2L (X : Stand p l e R s m args below meth c T locs cells slots) (hx : p.tables.exec = Jvm.exec) {x : Int64} (hd : Dc c.code pc .dup2 1 pc') (k : Go p e below s Q C S (T.setTop (mkF m pc' Ls (.long x :: .long x :: rest)))) : Go p e below s Q C S (T.setTop (mkF m pc Ls (.long x :: rest))) := by
  obtain ⟨hd, rfl⟩ := hd; exact k.step fun _ t => XT.dup2L X.here hx rfl hd rfl t
theorem w_pop (X : Stand p l e R s m args below meth c T locs cells slots) (hx : p.tables.exec = Jvm.exec) {v : Value} (hd : Dc c.code pc .pop 1 pc') (hc : v.category = 1) (k : Go p e below s Q C S (T.setTop (mkF m pc' Ls rest))) : Go p e below s Q C S (T.setTop (mkF m pc Ls (v :: rest))) := by
  obtain ⟨hd, rfl⟩ := hd; exact k.step fun _ t => XS.pop X.here hx rfl hd rfl hc t
/-! branches -/
theorem w_goto (X : Stand p l e R s m args below meth c T locs cells slots) (hx : p.tables.exec = Jvm.exec) {o : Int} {pcT pcF : Nat} (hd : Dj c.code pc (.goto o) o pcT pcF) (k : Go p e below s Q C S (T.setTop (mkF m pcT Ls rest))) : Go p e below s Q C S (T.setTop (mkF m pc Ls rest)) := by
  obtain ⟨hd, ho, rfl, -⟩ := hd; exact k.step fun _ t => XS.goto X.here hx rfl rfl hd ho rfl t
theorem w_icmp_eq (X : Stand p l e R s m args below meth c T locs cells slots) (hx : p.tables.exec = Jvm.exec) {o : Int} {x y : Int32} {pcT pcF : Nat} (hd : Dj c.code pc (.if_icmp .eq o) o pcT pcF) (kt : x = y → Go p e below s Q C S (T.setTop (mkF m pcT Ls (rest)))) (kf : x ≠ y → Go p e below s Q C S (T.setTop (mkF m pcF Ls (rest)))) : Go p e below s Q C S (T.setTop (mkF m pc Ls (.int y :: .int x :: rest))) := by
  obtain ⟨hd, ho, rfl, rfl⟩ := hd
  by_cases hb : x = y
  · exact (kt hb).step fun _ t => XS.icmpYes X.here hx rfl rfl hd rfl (teq hb).1 ho rfl t
  · exact (kf hb).step fun _ t => XS.icmpNo X.here hx rfl hd rfl (feq hb).1 t
theorem w_if_eq (X : Stand p l e R s m args below meth c T locs cells slots) (hx : p.tables.exec = Jvm.exec) {o : Int} {x : Int32} {pcT pcF : Nat} (hd : Dj c.code pc (.ifCond .eq o) o pcT pcF) (kt : x = 0 → Go p e below s Q C S (T.setTop (mkF m pcT Ls (rest)))) (kf : x ≠ 0 → Go p e below s Q C S (T.setTop (mkF m pcF Ls (rest)))) : Go p e below s Q C S (T.setTop (mkF m pc Ls (.int x :: rest))) := by
  obtain ⟨hd, ho, rfl, rfl⟩ := hd
  have e0 : (0 : Int32).toInt = 0 := rfl
  by_cases hb : x = (0 : Int32)
  · exact (kt hb).step fun _ t => XS.ifYes X.here hx rfl rfl hd rfl ((if0 _ _).trans (teq hb).1) ho rfl t
  · exact (kf hb).step fun _ t => XS.ifNo X.here hx rfl hd rfl ((if0 _ _).trans (feq hb).1) t
theorem w_lcmp_eq (X : Stand p l e R s m args below meth c T locs cells slots) (hx : p.tables.exec = Jvm.exec) {o : Int} {x y : Int64} {pc1 pcT pcF : Nat} (hd1 : Dc c.code pc .lcmp 1 pc1) (hd : Dj c.code pc1 (.ifCond .eq o) o pcT pcF) (kt : x = y → Go p e below s Q C S (T.setTop (mkF m pcT Ls (rest)))) (kf : x ≠ y → Go p e below s Q C S (T.setTop (mkF m pcF Ls (rest)))) : Go p e below s Q C S (T.setTop (mkF m pc Ls (.long y :: .long x :: rest))) := by
  obtain ⟨hd1, rfl⟩ := hd1
  refine Go.step (fun _ t => XS.lcmp X.here hx rfl hd1 rfl t) ?_
  exact w_if_eq X hx hd (fun q => kt ((lw_eq x y).mp q)) (fun q => kf (fun r => q ((lw_eq x y).mpr r)))
theorem w_icmp_ne (X : Stand p l e R s m args below meth c T locs cells slots) (hx : p.tables.exec = Jvm.exec) {o : Int} {x y : Int32} {pcT pcF : Nat} (hd : Dj c.code pc (.if_icmp .ne o) o pcT pcF) (kt : x ≠ y → Go p e below s Q C S (T.setTop (mkF m pcT Ls (rest)))) (kf : x = y → Go p e below s Q C S (T.setTop (mkF m pcF Ls (rest)))) : Go p e below s Q C S (T.setTop (mkF m pc Ls (.int y :: .int x :: rest))) := by
  obtain ⟨hd, ho, rfl, rfl⟩ := hd
  by_cases hb : x = y
  · exact (kf hb).step fun _ t => XS.icmpNo X.here hx rfl hd rfl (teq hb).2 t
  · exact (kt hb).step fun _ t => XS.icmpYes X.here hx rfl rfl hd rfl (feq hb).2 ho rfl t
theorem w_if_ne (X : Stand p l e R s m args below meth c T locs cells slots) (hx : p.tables.exec = Jvm.exec) {o : Int} {x : Int32} {pcT pcF : Nat} (hd : Dj c.code pc (.ifCond .ne o) o pcT pcF) (kt : x ≠ 0 → Go p e below s Q C S (T.setTop (mkF m pcT Ls (rest)))) (kf : x = 0 → Go p e below s Q C S (T.setTop (mkF m pcF Ls (rest)))) : Go p e below s Q C S (T.setTop (mkF m pc Ls (.int x :: rest))) := by
  obtain ⟨hd, ho, rfl, rfl⟩ := hd
  have e0 : (0 : Int32).toInt = 0 := rfl
  by_cases hb : x = (0 : Int32)
  · exact (kf hb).step fun _ t => XS.ifNo X.here hx rfl hd rfl ((if0 _ _).trans (teq hb).2) t
  · exact (kt hb).step fun _ t => XS.ifYes X.here hx rfl rfl hd rfl ((if0 _ _).trans (feq hb).2) ho rfl t
theorem w_lcmp_ne (X : Stand p l e R s m args below meth c T locs cells slots) (hx : p.tables.exec = Jvm.exec) {o : Int} {x y : Int64} {pc1 pcT pcF : Nat} (hd1 : Dc c.code pc .lcmp 1 pc1) (hd : Dj c.code pc1 (.ifCond .ne o) o pcT pcF) (kt : x ≠ y → Go p e below s Q C S (T.setTop (mkF m pcT Ls (rest)))) (kf : x = y → Go p e below s Q C S (T.setTop (mkF m pcF Ls (rest)))) : Go p e below s Q C S (T.setTop (mkF m pc Ls (.long y :: .long x :: rest))) := by
  obtain ⟨hd1, rfl⟩ := hd1
  refine Go.step (fun _ t => XS.lcmp X.here hx rfl hd1 rfl t) ?_
  exact w_if_ne X hx hd (fun q => kt (fun r => q ((lw_eq x y).mpr r))) (fun q => kf ((lw_eq x y).mp q))
theorem w_icmp_lt (X : Stand p l e R s m args below meth c T locs cells slots) (hx : p.tables.exec = Jvm.exec) {o : Int} {x y : Int32} {pcT pcF : Nat} (hd : Dj c.code pc (.if_icmp .lt o) o pcT pcF) (kt : x.toInt < y.toInt → Go p e below s Q C S (T.setTop (mkF m pcT Ls (rest)))) (kf : y.toInt ≤ x.toInt → Go p e below s Q C S (T.setTop (mkF m pcF Ls (rest)))) : Go p e below s Q C S (T.setTop (mkF m pc Ls (.int y :: .int x :: rest))) := by
  obtain ⟨hd, ho, rfl, rfl⟩ := hd
  by_cases hb : x < y
  · exact (kt (Int32.lt_iff_toInt_lt.mp hb)).step fun _ t => XS.icmpYes X.here hx rfl rfl hd rfl (tlt hb).1 ho rfl t
  · exact (kf (by rw [Int32.lt_iff_toInt_lt] at hb; omega)).step fun _ t => XS.icmpNo X.here hx rfl hd rfl (flt hb).1 t
theorem w_if_lt (X : Stand p l e R s m args below meth c T locs cells slots) (hx : p.tables.exec = Jvm.exec) {o : Int} {x : Int32} {pcT pcF : Nat} (hd : Dj c.code pc (.ifCond .lt o) o pcT pcF) (kt : x.toInt < 0 → Go p e below s Q C S (T.setTop (mkF m pcT Ls (rest)))) (kf : 0 ≤ x.toInt → Go p e below s Q C S (T.setTop (mkF m pcF Ls (rest)))) : Go p e below s Q C S (T.setTop (mkF m pc Ls (.int x :: rest))) := by
  obtain ⟨hd, ho, rfl, rfl⟩ := hd
  have e0 : (0 : Int32).toInt = 0 := rfl
  by_cases hb : x < (0 : Int32)
  · exact (kt (by rw [Int32.lt_iff_toInt_lt] at hb; omega)).step fun _ t => XS.ifYes X.here hx rfl rfl hd rfl ((if0 _ _).trans (tlt hb).1) ho rfl t
  · exact (kf (by rw [Int32.lt_iff_toInt_lt] at hb; omega)).step fun _ t => XS.ifNo X.here hx rfl hd rfl ((if0 _ _).trans (flt hb).1) t
theorem w_lcmp_lt (X : Stand p l e R s m args below meth c T locs cells slots) (hx : p.tables.exec = Jvm.exec) {o : Int} {x y : Int64} {pc1 pcT pcF : Nat} (hd1 : Dc c.code pc .lcmp 1 pc1) (hd : Dj c.code pc1 (.ifCond .lt o) o pcT pcF) (kt : x.toInt < y.toInt → Go p e below s Q C S (T.setTop (mkF m pcT Ls (rest)))) (kf : y.toInt ≤ x.toInt → Go p e below s Q C S (T.setTop (mkF m pcF Ls (rest)))) : Go p e below s Q C S (T.setTop (mkF m pc Ls (.long y :: .long x :: rest))) := by
  obtain ⟨hd1, rfl⟩ := hd1
  have e0 : (0 : Int32).toInt = 0 := rfl
  have L : (lcmpW x y).toInt < 0 → x.toInt < y.toInt := fun q => by have := (lw_lt x y).mp (by rw [Int32.lt_iff_toInt_lt]; omega); rwa [Int64.lt_iff_toInt_lt] at this
  have N : 0 ≤ (lcmpW x y).toInt → y.toInt ≤ x.toInt := fun q => by
    have h1 : ¬ x < y := fun r => by have := (lw_lt x y).mpr r; rw [Int32.lt_iff_toInt_lt] at this; omega
    rw [Int64.lt_iff_toInt_lt] at h1; omega
  have M : 0 < (lcmpW x y).toInt → y.toInt < x.toInt := fun q => by have := (lw_gt x y).mp (by rw [Int32.lt_iff_toInt_lt]; omega); rwa [Int64.lt_iff_toInt_lt] at this
  have P : (lcmpW x y).toInt ≤ 0 → x.toInt ≤ y.toInt := fun q => by
    have h1 : ¬ y < x := fun r => by have := (lw_gt x y).mpr r; rw [Int32.lt_iff_toInt_lt] at this; omega
    rw [Int64.lt_iff_toInt_lt] at h1; omega
  refine Go.step (fun _ t => XS.lcmp X.here hx rfl hd1 rfl t) ?_
  exact w_if_lt X hx hd (fun q => kt (L q)) (fun q => kf (N q))
theorem w_icmp_ge (X : Stand p l e R s m args below meth c T locs cells slots) (hx : p.tables.exec = Jvm.exec) {o : Int} {x y : Int32} {pcT pcF : Nat} (hd : Dj c.code pc (.if_icmp .ge o) o pcT pcF) (kt : y.toInt ≤ x.toInt → Go p e below s Q C S (T.setTop (mkF m pcT Ls (rest)))) (kf : x.toInt < y.toInt → Go p e below s Q C S (T.setTop (mkF m pcF Ls (rest)))) : Go p e below s Q C S (T.setTop (mkF m pc Ls (.int y :: .int x :: rest))) := by
  obtain ⟨hd, ho, rfl, rfl⟩ := hd
  by_cases hb : x < y
  · exact (kf (Int32.lt_iff_toInt_lt.mp hb)).step fun _ t => XS.icmpNo X.here hx rfl hd rfl (tlt hb).2.1 t
  · exact (kt (by rw [Int32.lt_iff_toInt_lt] at hb; omega)).step fun _ t => XS.icmpYes X.here hx rfl rfl hd rfl (flt hb).2.1 ho rfl t
theorem w_if_ge (X : Stand p l e R s m args below meth c T locs cells slots) (hx : p.tables.exec = Jvm.exec) {o : Int} {x : Int32} {pcT pcF : Nat} (hd : Dj c.code pc (.ifCond .ge o) o pcT pcF) (kt : 0 ≤ x.toInt → Go p e below s Q C S (T.setTop (mkF m pcT Ls (rest)))) (kf : x.toInt < 0 → Go p e below s Q C S (T.setTop (mkF m pcF Ls (rest)))) : Go p e below s Q C S (T.setTop (mkF m pc Ls (.int x :: rest))) := by
  obtain ⟨hd, ho, rfl, rfl⟩ := hd
  have e0 : (0 : Int32).toInt = 0 := rfl
  by_cases hb : x < (0 : Int32)
  · exact (kf (by rw [Int32.lt_iff_toInt_lt] at hb; omega)).step fun _ t => XS.ifNo X.here hx rfl hd rfl ((if0 _ _).trans (tlt hb).2.1) t
  · exact (kt (by rw [Int32.lt_iff_toInt_lt] at hb; omega)).step fun _ t => XS.ifYes X.here hx rfl rfl hd rfl ((if0 _ _).trans (flt hb).2.1) ho rfl t
theorem w_lcmp_ge (X : Stand p l e R s m args below meth c T locs cells slots) (hx : p.tables.exec = Jvm.exec) {o : Int} {x y : Int64} {pc1 pcT pcF : Nat} (hd1 : Dc c.code pc .lcmp 1 pc1) (hd : Dj c.code pc1 (.ifCond .ge o) o pcT pcF) (kt : y.toInt ≤ x.toInt → Go p e below s Q C S (T.setTop (mkF m pcT Ls (rest)))) (kf : x.toInt < y.toInt → Go p e below s Q C S (T.setTop (mkF m pcF Ls (rest)))) : Go p e below s Q C S (T.setTop (mkF m pc Ls (.long y :: .long x :: rest))) := by
  obtain ⟨hd1, rfl⟩ := hd1
  have e0 : (0 : Int32).toInt = 0 := rfl
  have L : (lcmpW x y).toInt < 0 → x.toInt < y.toInt := fun q => by have := (lw_lt x y).mp (by rw [Int32.lt_iff_toInt_lt]; omega); rwa [Int64.lt_iff_toInt_lt] at this
  have N : 0 ≤ (lcmpW x y).toInt → y.toInt ≤ x.toInt := fun q => by
    have h1 : ¬ x < y := fun r => by have := (lw_lt x y).mpr r; rw [Int32.lt_iff_toInt_lt] at this; omega
    rw [Int64.lt_iff_toInt_lt] at h1; omega
  have M : 0 < (lcmpW x y).toInt → y.toInt < x.toInt := fun q => by have := (lw_gt x y).mp (by rw [Int32.lt_iff_toInt_lt]; omega); rwa [Int64.lt_iff_toInt_lt] at this
  have P : (lcmpW x y).toInt ≤ 0 → x.toInt ≤ y.toInt := fun q => by
    have h1 : ¬ y < x := fun r => by have := (lw_gt x y).mpr r; rw [Int32.lt_iff_toInt_lt] at this; omega
    rw [Int64.lt_iff_toInt_lt] at h1; omega
  refine Go.step (fun _ t => XS.lcmp X.here hx rfl hd1 rfl t) ?_
  exact w_if_ge X hx hd (fun q => kt (N q)) (fun q => kf (L q))
theorem w_icmp_gt (X : Stand p l e R s m args below meth c T locs cells slots) (hx : p.tables.exec = Jvm.exec) {o : Int} {x y : Int32} {pcT pcF : Nat} (hd : Dj c.code pc (.if_icmp .gt o) o pcT pcF) (kt : y.toInt < x.toInt → Go p e below s Q C S (T.setTop (mkF m pcT Ls (rest)))) (kf : x.toInt ≤ y.toInt → Go p e below s Q C S (T.setTop (mkF m pcF Ls (rest)))) : Go p e below s Q C S (T.setTop (mkF m pc Ls (.int y :: .int x :: rest))) := by
  obtain ⟨hd, ho, rfl, rfl⟩ := hd
  by_cases hb : y < x
  · exact (kt (Int32.lt_iff_toInt_lt.mp hb)).step fun _ t => XS.icmpYes X.here hx rfl rfl hd rfl (tlt hb).2.2.1 ho rfl t
  · exact (kf (by rw [Int32.lt_iff_toInt_lt] at hb; omega)).step fun _ t => XS.icmpNo X.here hx rfl hd rfl (flt hb).2.2.1 t
theorem w_if_gt (X : Stand p l e R s m args below meth c T locs cells slots) (hx : p.tables.exec = Jvm.exec) {o : Int} {x : Int32} {pcT pcF : Nat} (hd : Dj c.code pc (.ifCond .gt o) o pcT pcF) (kt : 0 < x.toInt → Go p e below s Q C S (T.setTop (mkF m pcT Ls (rest)))) (kf : x.toInt ≤ 0 → Go p e below s Q C S (T.setTop (mkF m pcF Ls (rest)))) : Go p e below s Q C S (T.setTop (mkF m pc Ls (.int x :: rest))) := by
  obtain ⟨hd, ho, rfl, rfl⟩ := hd
  have e0 : (0 : Int32).toInt = 0 := rfl
  by_cases hb : (0 : Int32) < x
  · exact (kt (by rw [Int32.lt_iff_toInt_lt] at hb; omega)).step fun _ t => XS.ifYes X.here hx rfl rfl hd rfl ((if0 _ _).trans (tlt hb).2.2.1) ho rfl t
  · exact (kf (by rw [Int32.lt_iff_toInt_lt] at hb; omega)).step fun _ t => XS.ifNo X.here hx rfl hd rfl ((if0 _ _).trans (flt hb).2.2.1) t
theorem w_lcmp_gt (X : Stand p l e R s m args below meth c T locs cells slots) (hx : p.tables.exec = Jvm.exec) {o : Int} {x y : Int64} {pc1 pcT pcF : Nat} (hd1 : Dc c.code pc .lcmp 1 pc1) (hd : Dj c.code pc1 (.ifCond .gt o) o pcT pcF) (kt : y.toInt < x.toInt → Go p e below s Q C S (T.setTop (mkF m pcT Ls (rest)))) (kf : x.toInt ≤ y.toInt → Go p e below s Q C S (T.setTop (mkF m pcF Ls (rest)))) : Go p e below s Q C S (T.setTop (mkF m pc Ls (.long y :: .long x :: rest))) := by
  obtain ⟨hd1, rfl⟩ := hd1
  have e0 : (0 : Int32).toInt = 0 := rfl
  have L : (lcmpW x y).toInt < 0 → x.toInt < y.toInt := fun q => by have := (lw_lt x y).mp (by rw [Int32.lt_iff_toInt_lt]; omega); rwa [Int64.lt_iff_toInt_lt] at this
  have N : 0 ≤ (lcmpW x y).toInt → y.toInt ≤ x.toInt := fun q => by
    have h1 : ¬ x < y := fun r => by have := (lw_lt x y).mpr r; rw [Int32.lt_iff_toInt_lt] at this; omega
    rw [Int64.lt_iff_toInt_lt] at h1; omega
  have M : 0 < (lcmpW x y).toInt → y.toInt < x.toInt := fun q => by have := (lw_gt x y).mp (by rw [Int32.lt_iff_toInt_lt]; omega); rwa [Int64.lt_iff_toInt_lt] at this
  have P : (lcmpW x y).toInt ≤ 0 → x.toInt ≤ y.toInt := fun q => by
    have h1 : ¬ y < x := fun r => by have := (lw_gt x y).mpr r; rw [Int32.lt_iff_toInt_lt] at this; omega
    rw [Int64.lt_iff_toInt_lt] at h1; omega
  refine Go.step (fun _ t => XS.lcmp X.here hx rfl hd1 rfl t) ?_
  exact w_if_gt X hx hd (fun q => kt (M q)) (fun q => kf (P q))
theorem w_icmp_le (X : Stand p l e R s m args below meth c T locs cells slots) (hx : p.tables.exec = Jvm.exec) {o : Int} {x y : Int32} {pcT pcF : Nat} (hd : Dj c.code pc (.if_icmp .le o) o pcT pcF) (kt : x.toInt ≤ y.toInt → Go p e below s Q C S (T.setTop (mkF m pcT Ls (rest)))) (kf : y.toInt < x.toInt → Go p e below s Q C S (T.setTop (mkF m pcF Ls (rest)))) : Go p e below s Q C S (T.setTop (mkF m pc Ls (.int y :: .int x :: rest))) := by
  obtain ⟨hd, ho, rfl, rfl⟩ := hd
  by_cases hb : y < x
  · exact (kf (Int32.lt_iff_toInt_lt.mp hb)).step fun _ t => XS.icmpNo X.here hx rfl hd rfl (tlt hb).2.2.2 t
  · exact (kt (by rw [Int32.lt_iff_toInt_lt] at hb; omega)).step fun _ t => XS.icmpYes X.here hx rfl rfl hd rfl (flt hb).2.2.2 ho rfl t
theorem w_if_le (X : Stand p l e R s m args below meth c T locs cells slots) (hx : p.tables.exec = Jvm.exec) {o : Int} {x : Int32} {pcT pcF : Nat} (hd : Dj c.code pc (.ifCond .le o) o pcT pcF) (kt : x.toInt ≤ 0 → Go p e below s Q C S (T.setTop (mkF m pcT Ls (rest)))) (kf : 0 < x.toInt → Go p e below s Q C S (T.setTop (mkF m pcF Ls (rest)))) : Go p e below s Q C S (T.setTop (mkF m pc Ls (.int x :: rest))) := by
  obtain ⟨hd, ho, rfl, rfl⟩ := hd
  have e0 : (0 : Int32).toInt = 0 := rfl
  by_cases hb : (0 : Int32) < x
  · exact (kf (by rw [Int32.lt_iff_toInt_lt] at hb; omega)).step fun _ t => XS.ifNo X.here hx rfl hd rfl ((if0 _ _).trans (tlt hb).2.2.2) t
  · exact (kt (by rw [Int32.lt_iff_toInt_lt] at hb; omega)).step fun _ t => XS.ifYes X.here hx rfl rfl hd rfl ((if0 _ _).trans (flt hb).2.2.2) ho rfl t
theorem w_lcmp_le (X : Stand p l e R s m args below meth c T locs cells slots) (hx : p.tables.exec = Jvm.exec) {o : Int} {x y : Int64} {pc1 pcT pcF : Nat} (hd1 : Dc c.code pc .lcmp 1 pc1) (hd : Dj c.code pc1 (.ifCond .le o) o pcT pcF) (kt : x.toInt ≤ y.toInt → Go p e below s Q C S (T.setTop (mkF m pcT Ls (rest)))) (kf : y.toInt < x.toInt → Go p e below s Q C S (T.setTop (mkF m pcF Ls (rest)))) : Go p e below s Q C S (T.setTop (mkF m pc Ls (.long y :: .long x :: rest))) := by
  obtain ⟨hd1, rfl⟩ := hd1
  have e0 : (0 : Int32).toInt = 0 := rfl
  have L : (lcmpW x y).toInt < 0 → x.toInt < y.toInt := fun q => by have := (lw_lt x y).mp (by rw [Int32.lt_iff_toInt_lt]; omega); rwa [Int64.lt_iff_toInt_lt] at this
  have N : 0 ≤ (lcmpW x y).toInt → y.toInt ≤ x.toInt := fun q => by
    have h1 : ¬ x < y := fun r => by have := (lw_lt x y).mpr r; rw [Int32.lt_iff_toInt_lt] at this; omega
    rw [Int64.lt_iff_toInt_lt] at h1; omega
  have M : 0 < (lcmpW x y).toInt → y.toInt < x.toInt := fun q => by have := (lw_gt x y).mp (by rw [Int32.lt_iff_toInt_lt]; omega); rwa [Int64.lt_iff_toInt_lt] at this
  have P : (lcmpW x y).toInt ≤ 0 → x.toInt ≤ y.toInt := fun q => by
    have h1 : ¬ y < x := fun r => by have := (lw_gt x y).mpr r; rw [Int32.lt_iff_toInt_lt] at this; omega
    rw [Int64.lt_iff_toInt_lt] at h1; omega
  refine Go.step (fun _ t => XS.lcmp X.here hx rfl hd1 rfl t) ?_
  exact w_if_le X hx hd (fun q => kt (P q)) (fun q => kf (M q))
theorem w_acmp (X : Stand p l e R s m args below meth c T locs cells slots) (hx : p.tables.exec = Jvm.exec) {o : Int} {cd : ClassFile.ACond} {x y : Value} {pcT pcF : Nat} (hd : Dj c.code pc (.if_acmp cd o) o pcT pcF) (h1 : x.isRef = true) (h2 : y.isRef = true) {b : Bool} (hb : acV cd (decide (x = y)) = b) (k : Go p e below s Q C S (T.setTop (mkF m (if b = true then pcT else pcF) Ls rest))) : Go p e below s Q C S (T.setTop (mkF m pc Ls (y :: x :: rest))) := by
  obtain ⟨hd, ho, rfl, rfl⟩ := hd; subst hb; exact k.step fun _ t => Jvm.RoadKit.acmp X hx rfl h1 h2 rfl hd rfl rfl ho rfl t
theorem w_ifnullR (X : Stand p l e R s m args below meth c T locs cells slots) (hx : p.tables.exec = Jvm.exec) {o : Int} {b : Addr} {pcT pcF : Nat} (hd : Dj c.code pc (.ifnull o) o pcT pcF) (k : Go p e below s Q C S (T.setTop (mkF m pcF Ls rest))) : Go p e below s Q C S (T.setTop (mkF m pc Ls (.ref b :: rest))) := by
  obtain ⟨hd, -, -, rfl⟩ := hd; exact k.step fun _ t => XS.ifnullNo X.here hx rfl hd rfl t
/-! returns -/
theorem w_ret (X : Stand p l e R s m args below meth c T locs cells slots) (hx : p.tables.exec = Jvm.exec) (hret : meth.sig.returnType = none) (hlk : meth.locks = false) (hd : Dc c.code pc .return_ 1 pc') (hC : cells ≤ C) (hS : slots ≤ S) (hQ : Q none T.heap locs) : Go p e below s Q C S (T.setTop (mkF m pc Ls [])) := by
  obtain ⟨fs, hr, hrun, hended, hW, hsame⟩ := X.leave (v := none) (fun _ => rfl) hlk
  exact ⟨_, _, X.returnOut hx hret hd.1 hr, hrun, hended, _, _, rfl, hQ, ⟨_, rfl⟩, hW, hsame.mono hC hS⟩
theorem w_retI (X : Stand p l e R s m args below meth c T locs cells slots) (hx : p.tables.exec = Jvm.exec) (hret : meth.sig.returnType = some .int) (hlk : meth.locks = false) {z : Int32} (hd : Dc c.code pc .ireturn 1 pc') (hC : cells ≤ C) (hS : slots ≤ S) (hQ : Q (some (.int z)) T.heap locs) : Go p e below s Q C S (T.setTop (mkF m pc Ls (.int z :: rest))) := by
  obtain ⟨fs, hr, hrun, hended, hW, hsame⟩ := X.leave (v := some (.int z)) (fun h => by rw [hret] at h; cases h) hlk
  exact ⟨_, _, retOut X hx hret rfl (Or.inl ⟨rfl, Or.inl rfl, _, rfl⟩) hd.1 hr, hrun, hended, _, _, rfl, hQ, ⟨_, rfl⟩, hW, hsame.mono hC hS⟩
theorem w_retN (X : Stand p l e R s m args below meth c T locs cells slots) (hx : p.tables.exec = Jvm.exec) {t : FieldType} (hret : meth.sig.returnType = some t) (ht : t = .boolean ∨ t = .byte ∨ t = .char ∨ t = .short) (hlk : meth.locks = false) {z : Int32} (hd : Dc c.code pc .ireturn 1 pc') (hC : cells ≤ C) (hS : slots ≤ S) (hQ : Q (some (.int (nar t z))) T.heap locs) : Go p e below s Q C S (T.setTop (mkF m pc Ls (.int z :: rest))) := by
  obtain ⟨fs, hr, hrun, hended, hW, hsame⟩ := X.leave (v := some (.int (nar t z))) (fun h => by rw [hret] at h; cases h) hlk
  exact ⟨_, _, retN X hx hret ht hd.1 hr, hrun, hended, _, _, rfl, hQ, ⟨_, rfl⟩, hW, hsame.mono hC hS⟩
theorem w_retJ (X : Stand p l e R s m args below meth c T locs cells slots) (hx : p.tables.exec = Jvm.exec) (hret : meth.sig.returnType = some .long) (hlk : meth.locks = false) {z : Int64} (hd : Dc c.code pc .lreturn 1 pc') (hC : cells ≤ C) (hS : slots ≤ S) (hQ : Q (some (.long z)) T.heap locs) : Go p e below s Q C S (T.setTop (mkF m pc Ls (.long z :: rest))) := by
  obtain ⟨fs, hr, hrun, hended, hW, hsame⟩ := X.leave (v := some (.long z)) (fun h => by rw [hret] at h; cases h) hlk
  exact ⟨_, _, retOut X hx hret rfl (Or.inr (Or.inl ⟨rfl, rfl, _, rfl⟩)) hd.1 hr, hrun, hended, _, _, rfl, hQ, ⟨_, rfl⟩, hW, hsame.mono hC hS⟩
theorem w_retA (X : Stand p l e R s m args below meth c T locs cells slots) (hx : p.tables.exec = Jvm.exec) {t : FieldType} {a : Addr} (hret : meth.sig.returnType = some t) (ht : t.isReference = true) (hn : narrow t (.ref a) = .ref a) (hlk : meth.locks = false) (hd : Dc c.code pc .areturn 1 pc') (hC : cells ≤ C) (hS : slots ≤ S) (hQ : Q (some (.ref a)) T.heap locs) : Go p e below s Q C S (T.setTop (mkF m pc Ls (.ref a :: rest))) := by
  obtain ⟨fs, hr, hrun, hended, hW, hsame⟩ := X.leave (v := some (.ref a)) (fun h => by rw [hret] at h; cases h) hlk
  exact ⟨_, _, retOut X hx hret hn (Or.inr (Or.inr (Or.inr (Or.inr ⟨rfl, ht, rfl⟩)))) hd.1 hr, hrun, hended, _, _, rfl, hQ, ⟨_, rfl⟩, hW, hsame.mono hC hS⟩
/-! contracts -/
def Ct (l : Launch) (Z : State) (y : MethodName) (bytes : ByteArray) (maxL : Nat) (ret : Option FieldType) (rm : Room) (as' : Array Value) (h : Heap) (Q : Option Value → Heap → List Loc → Prop) : Prop :=
  MetFree l y (head1 [Jvm.Cond.code y bytes maxL ret] rm) (fun a U => a = as' ∧ Z.Warmed39 U.vm ∧ U.heap = h) (fun _ _ _ _ _ => True) (fun _ U o U' => ∃ v L, o = .returned v ∧ Q v U'.heap L ∧ FrameEnd U o U' L rm.cells rm.slots)
theorem w_body {y : MethodName} {bytes : ByteArray} {maxL : Nat} {ret : Option FieldType} {rm : Room} {as' : Array Value} {ws : List Jvm.Cond} (hp : plainFor y = true)
    (body : ∀ (p : Program) (e : Env) (s : State) (m : MethodId) (below : List Frame) (meth : Method) (c : Code) (T : State), Stand p l e rm s m as' below meth c T [] 0 0 → p.tables.exec = Jvm.exec → c.code = bytes → c.maxLocals = maxL → s.vm.findClass y.cls = some m.cls → meth.name = y.name → meth.sig.returnType = ret → meth.locks = false → Z.Warmed39 s.vm → T.heap = h → Go p e below s Q C S (T.setTop (entryFrame m as' maxL))) :
    MetFree l y (head1 (Jvm.Cond.code y bytes maxL ret :: ws) rm) (fun a U => a = as' ∧ Z.Warmed39 U.vm ∧ U.heap = h) (fun _ _ _ _ _ => True) (fun _ U o U' => ∃ v L, o = .returned v ∧ Q v U'.heap L ∧ FrameEnd U o U' L C S) := by
  refine MetFree.of_bodySF hp hisR ?_
  intro p e s m args below meth c s₁ Bd hml0 hP hK
  obtain ⟨rfl, hZ, hh⟩ := hP
  exact body p e s m below meth c s₁ (Stand.of_body Bd) Bd.exec Bd.bytes hml0 (findClass_of_methodNamed Bd.named) (name_of_methodNamed Bd.named Bd.method).1 Bd.returns Bd.notSynchronized hZ (by rw [← hh, Bd.state]; rfl)
theorem Ct.body {y : MethodName} {bytes : ByteArray} {maxL : Nat} {ret : Option FieldType} {rm : Room} {as' : Array Value} (hp : plainFor y = true)
    (body : ∀ (p : Program) (e : Env) (s : State) (m : MethodId) (below : List Frame) (meth : Method) (c : Code) (T : State), Stand p l e rm s m as' below meth c T [] 0 0 → p.tables.exec = Jvm.exec → c.code = bytes → c.maxLocals = maxL → s.vm.findClass y.cls = some m.cls → meth.name = y.name → meth.sig.returnType = ret → meth.locks = false → Z.Warmed39 s.vm → T.heap = h → Go p e below s Q rm.cells rm.slots (T.setTop (entryFrame m as' maxL))) :
    Ct l Z y bytes maxL ret rm as' h Q := w_body hp body
/-! calls -/
theorem w_callS (X : Stand p l e R s m args below meth c T locs cells slots) (hx : p.tables.exec = Jvm.exec) (hZ : Z.Warmed39 s.vm) (eT : T.heap = h) {kk : Nat} (hml : c.maxLocals = kk) (hkk : Ls.size = kk) {own : String} (hown : s.vm.findClass own = some m.cls) {index : Nat} {y : MethodName} {bytes : ByteArray} {maxL : Nat} {ret : Option FieldType} {rm : Room} {as' : Array Value} {Qc : Option Value → Heap → List Loc → Prop}
    (w1 : (Jvm.Cond.methodLink own index y).before a0 Z = true) (w2 : (Jvm.Cond.static y).before a0 Z = true) (w3 : (Jvm.Cond.initialized y.cls).before a0 Z = true) (w4 : (Jvm.Cond.code y bytes maxL ret).before a0 Z = true) (hy : y.cls ≠ "java/lang/invoke/MethodHandle" ∧ y.cls ≠ "java/lang/invoke/VarHandle")
    (hM : Ct l Z y bytes maxL ret rm as' h Qc) (hd : Dc c.code pc (.invokestatic index) 3 pc') {ps : List FieldType} {r : Option FieldType} (hpd : parseMethodDescriptor y.desc = some ⟨ps, r⟩) {argsL st rest : List Value} (has : argsL.toArray = as') (hst : st = argsL.reverse ++ rest) (hlen : argsL.length = ps.length) {W : Nat} (hW : (rest.map fun v => v.category).sum = W)
    (hf : rm.frames + 1 ≤ R.frames) (hl : W + (maxL + 11) + rm.locals ≤ R.locals) (hcl : cells + rm.cells ≤ R.cells) (hsl : slots + rm.slots ≤ R.slots)
    (k : ∀ (v : Option Value) (T' : State) (L : List Loc), Stand p l e R s m args below meth c T' (locs ++ L) (cells + rm.cells) (slots + rm.slots) → Qc v T'.heap L → Go p e below s Q C S (T'.setTop (mkF m pc' Ls (v.toList ++ rest)))) :
    Go p e below s Q C S (T.setTop (mkF m pc Ls st)) := by
  subst hst has hW
  obtain ⟨hd, rfl⟩ := hd
  obtain ⟨v, _, ⟨T', L', k', n'⟩, -, X', ⟨Lc, hQ, e1, e2, e3⟩, st⟩ := Jvm.LawKit.callS X hx (y := y) hown (mvT hZ w1) (mvT hZ w2) (mvT hZ w3) (mvT hZ w4) hy (backOf (W := (rest.map fun v => v.category).sum) hM hZ w4 w3 hf hl) (g := mkF m pc Ls (argsL.reverse ++ rest)) rfl (hkk.trans hml.symm) (argsL := argsL) (rest := rest) (lenOf hpd hlen) rfl (by show 2 * 0 + _ ≤ _; omega) hd (fun _ _ => ⟨rfl, eT, hcl, hsl⟩)
  dsimp only [Pt.U, Pt.locs, Pt.cells, Pt.slots] at X' e1 e2 e3 st hQ
  subst e1 e2 e3
  exact (k v T' Lc X' hQ).step st
theorem w_callV (X : Stand p l e R s m args below meth c T locs cells slots) (hx : p.tables.exec = Jvm.exec) (hZ : Z.Warmed39 s.vm) (eT : T.heap = h) {kk : Nat} (hml : c.maxLocals = kk) (hkk : Ls.size = kk) {own : String} (hown : s.vm.findClass own = some m.cls) {index : Nat} {y : MethodName} {bytes : ByteArray} {maxL : Nat} {ret : Option FieldType} {rm : Room} {as' : Array Value} {Qc : Option Value → Heap → List Loc → Prop}
    (w1 : (Jvm.Cond.methodLink own index y).before a0 Z = true) (w2 : (Jvm.Cond.declares y).before a0 Z = true) (w5 : (Jvm.Cond.selects y.cls y y).before a0 Z = true) (w6 : (Jvm.Cond.instanceMethod y).before a0 Z = true) (w3 : (Jvm.Cond.initialized y.cls).before a0 Z = true) (w4 : (Jvm.Cond.code y bytes maxL ret).before a0 Z = true) (hy : y.cls ≠ "java/lang/invoke/MethodHandle" ∧ y.cls ≠ "java/lang/invoke/VarHandle")
    (hM : Ct l Z y bytes maxL ret rm as' h Qc) {b : Addr} (E : Exa Z h b y.cls) (hd : Dc c.code pc (.invokevirtual index) 3 pc') {ps : List FieldType} {r : Option FieldType} (hpd : parseMethodDescriptor y.desc = some ⟨ps, r⟩) {argsL st rest : List Value} (has : (.ref b :: argsL).toArray = as') (hst : st = argsL.reverse ++ .ref b :: rest) (hlen : argsL.length = ps.length) {W : Nat} (hW : (rest.map fun v => v.category).sum = W)
    (hf : rm.frames + 1 ≤ R.frames) (hl : W + (maxL + 11) + rm.locals ≤ R.locals) (hcl : cells + rm.cells ≤ R.cells) (hsl : slots + rm.slots ≤ R.slots)
    (k : ∀ (v : Option Value) (T' : State) (L : List Loc), Stand p l e R s m args below meth c T' (locs ++ L) (cells + rm.cells) (slots + rm.slots) → Qc v T'.heap L → Go p e below s Q C S (T'.setTop (mkF m pc' Ls (v.toList ++ rest)))) :
    Go p e below s Q C S (T.setTop (mkF m pc Ls st)) := by
  subst hst has hW
  obtain ⟨hd, rfl⟩ := hd
  obtain ⟨cq, kq, qa, qb, qc⟩ := isOf hZ eT E
  obtain ⟨v, _, ⟨T', L', k', n'⟩, -, X', ⟨Lc, hQ, e1, e2, e3⟩, st⟩ := X.virtualBack hx (y := y) (z := y) hown (mvT hZ w1) (mvT hZ w2) (notFace_of_selects (args := #[]) (mvT hZ w5)) (mvT hZ w5) (mvT hZ w6) hy (backOf (W := (rest.map fun v => v.category).sum) hM hZ w4 w3 hf hl) qa qc (g := mkF m pc Ls (argsL.reverse ++ .ref b :: rest)) rfl (hkk.trans hml.symm) (Steps.refl _) (argsL := argsL) (rest := rest) (lenOf hpd hlen) rfl (by show 2 * 0 + _ ≤ _; omega) hd (fun _ _ => ⟨rfl, eT, hcl, hsl⟩)
  dsimp only [Pt.U, Pt.locs, Pt.cells, Pt.slots] at X' e1 e2 e3 st hQ
  subst e1 e2 e3
  exact (k v T' Lc X' hQ).step fun _ q => st.trans q
theorem w_callSP (X : Stand p l e R s m args below meth c T locs cells slots) (hx : p.tables.exec = Jvm.exec) (hZ : Z.Warmed39 s.vm) (eT : T.heap = h) {kk : Nat} (hml : c.maxLocals = kk) (hkk : Ls.size = kk) {own : String} (hown : s.vm.findClass own = some m.cls) {index : Nat} {y : MethodName} {bytes : ByteArray} {maxL : Nat} {ret : Option FieldType} {f lo : Nat} {as' : Array Value} {rv : Value}
    (w1 : (Jvm.Cond.methodLink own index y).before a0 Z = true) (w2 : (Jvm.Cond.static y).before a0 Z = true) (w3 : (Jvm.Cond.initialized y.cls).before a0 Z = true) (w4 : (Jvm.Cond.code y bytes maxL ret).before a0 Z = true) (hy : y.cls ≠ "java/lang/invoke/MethodHandle" ∧ y.cls ≠ "java/lang/invoke/VarHandle")
    (hM : Ct l Z y bytes maxL ret ({ frames := f, cells := 0, slots := 0, locals := lo } : Room) as' h (fun v h' L => v = some rv ∧ h' = h ∧ L = [])) (hd : Dc c.code pc (.invokestatic index) 3 pc') {ps : List FieldType} {r : Option FieldType} (hpd : parseMethodDescriptor y.desc = some ⟨ps, r⟩) {argsL st rest : List Value} (has : argsL.toArray = as') (hst : st = argsL.reverse ++ rest) (hlen : argsL.length = ps.length) {W : Nat} (hW : (rest.map fun v => v.category).sum = W)
    (hf : f + 1 ≤ R.frames) (hl : W + (maxL + 11) + lo ≤ R.locals) (hcl : cells ≤ R.cells) (hsl : slots ≤ R.slots)
    (k : ∀ T', Stand p l e R s m args below meth c T' locs cells slots → T'.heap = h → Go p e below s Q C S (T'.setTop (mkF m pc' Ls (rv :: rest)))) :
    Go p e below s Q C S (T.setTop (mkF m pc Ls st)) := by
  refine w_callS X hx hZ eT hml hkk hown w1 w2 w3 w4 hy hM hd hpd has hst hlen hW hf hl hcl hsl fun v T' L X' hQ => ?_
  obtain ⟨rfl, e', rfl⟩ := hQ
  rw [List.append_nil] at X'
  exact k T' X' e'
theorem w_callVP (X : Stand p l e R s m args below meth c T locs cells slots) (hx : p.tables.exec = Jvm.exec) (hZ : Z.Warmed39 s.vm) (eT : T.heap = h) {kk : Nat} (hml : c.maxLocals = kk) (hkk : Ls.size = kk) {own : String} (hown : s.vm.findClass own = some m.cls) {index : Nat} {y : MethodName} {bytes : ByteArray} {maxL : Nat} {ret : Option FieldType} {f lo : Nat} {as' : Array Value} {rv : Value}
    (w1 : (Jvm.Cond.methodLink own index y).before a0 Z = true) (w2 : (Jvm.Cond.declares y).before a0 Z = true) (w5 : (Jvm.Cond.selects y.cls y y).before a0 Z = true) (w6 : (Jvm.Cond.instanceMethod y).before a0 Z = true) (w3 : (Jvm.Cond.initialized y.cls).before a0 Z = true) (w4 : (Jvm.Cond.code y bytes maxL ret).before a0 Z = true) (hy : y.cls ≠ "java/lang/invoke/MethodHandle" ∧ y.cls ≠ "java/lang/invoke/VarHandle")
    (hM : Ct l Z y bytes maxL ret ({ frames := f, cells := 0, slots := 0, locals := lo } : Room) as' h (fun v h' L => v = some rv ∧ h' = h ∧ L = [])) {b : Addr} (E : Exa Z h b y.cls) (hd : Dc c.code pc (.invokevirtual index) 3 pc') {ps : List FieldType} {r : Option FieldType} (hpd : parseMethodDescriptor y.desc = some ⟨ps, r⟩) {argsL st rest : List Value} (has : (.ref b :: argsL).toArray = as') (hst : st = argsL.reverse ++ .ref b :: rest) (hlen : argsL.length = ps.length) {W : Nat} (hW : (rest.map fun v => v.category).sum = W)
    (hf : f + 1 ≤ R.frames) (hl : W + (maxL + 11) + lo ≤ R.locals) (hcl : cells ≤ R.cells) (hsl : slots ≤ R.slots)
    (k : ∀ T', Stand p l e R s m args below meth c T' locs cells slots → T'.heap = h → Go p e below s Q C S (T'.setTop (mkF m pc' Ls (rv :: rest)))) :
    Go p e below s Q C S (T.setTop (mkF m pc Ls st)) := by
  refine w_callV X hx hZ eT hml hkk hown w1 w2 w5 w6 w3 w4 hy hM E hd hpd has hst hlen hW hf hl hcl hsl fun v T' L X' hQ => ?_
  obtain ⟨rfl, e', rfl⟩ := hQ
  rw [List.append_nil] at X'
  exact k T' X' e'
theorem w_callI (X : Stand p l e R s m args below meth c T locs cells slots) (hx : p.tables.exec = Jvm.exec) (hZ : Z.Warmed39 s.vm) (eT : T.heap = h) {kk : Nat} (hml : c.maxLocals = kk) (hkk : Ls.size = kk) {own : String} (hown : s.vm.findClass own = some m.cls) {index : Nat} {y : MethodName} {bytes : ByteArray} {maxL : Nat} {rm : Room} {as' : Array Value} {Qc : Option Value → Heap → List Loc → Prop} (hy1 : y.name = "<init>")
    (w1 : (Jvm.Cond.methodLink own index y).before a0 Z = true) (w6 : (Jvm.Cond.instanceMethod y).before a0 Z = true) (w3 : (Jvm.Cond.initialized y.cls).before a0 Z = true) (w4 : (Jvm.Cond.code y bytes maxL none).before a0 Z = true) (hy : y.cls ≠ "java/lang/invoke/MethodHandle" ∧ y.cls ≠ "java/lang/invoke/VarHandle")
    (hM : Ct l Z y bytes maxL none rm as' h Qc) {b : Addr} (hd : Dc c.code pc (.invokespecial index) 3 pc') {ps : List FieldType} {r : Option FieldType} (hpd : parseMethodDescriptor y.desc = some ⟨ps, r⟩) {argsL st rest : List Value} (has : (.ref b :: argsL).toArray = as') (hst : st = argsL.reverse ++ .ref b :: rest) (hlen : argsL.length = ps.length) {W : Nat} (hW : (rest.map fun v => v.category).sum = W)
    (hf : rm.frames + 1 ≤ R.frames) (hl : W + (maxL + 11) + rm.locals ≤ R.locals) (hcl : cells + rm.cells ≤ R.cells) (hsl : slots + rm.slots ≤ R.slots)
    (k : ∀ (v : Option Value) (T' : State) (L : List Loc), Stand p l e R s m args below meth c T' (locs ++ L) (cells + rm.cells) (slots + rm.slots) → Qc v T'.heap L → Go p e below s Q C S (T'.setTop (mkF m pc' Ls (v.toList ++ rest)))) :
    Go p e below s Q C S (T.setTop (mkF m pc Ls st)) := by
  subst hst has hW
  obtain ⟨hd, rfl⟩ := hd
  obtain ⟨v, _, ⟨T', L', k', n'⟩, -, X', ⟨Lc, hQ, e1, e2, e3⟩, st⟩ := X.specialBack hx (y := y) hy1 hown (mvT hZ w1) (mvT hZ w6) (mvT hZ w4) hy (backOf (W := (rest.map fun v => v.category).sum) hM hZ w4 w3 hf hl) (g := mkF m pc Ls (argsL.reverse ++ .ref b :: rest)) rfl (hkk.trans hml.symm) (Steps.refl _) (a := b) (argsL := argsL) (rest := rest) (lenOf hpd hlen) rfl (by show 2 * 0 + _ ≤ _; omega) hd (fun _ _ => ⟨rfl, eT, hcl, hsl⟩)
  dsimp only [Pt.U, Pt.locs, Pt.cells, Pt.slots] at X' e1 e2 e3 st hQ
  subst e1 e2 e3
  exact (k v T' Lc X' hQ).step fun _ q => st.trans q
theorem w_objinit (X : Stand p l e R s m args below meth c T locs cells slots) (hx : p.tables.exec = Jvm.exec) (hZ : Z.Warmed39 s.vm) (eT : T.heap = h) {kk : Nat} (hml : c.maxLocals = kk) (hkk : Ls.size = kk) {own : String} (hown : s.vm.findClass own = some m.cls) {index : Nat}
    (w1 : (Jvm.Cond.methodLink own index Lib.objectInit).before a0 Z = true) (w2 : (Jvm.Cond.instanceMethod Lib.objectInit).before a0 Z = true) (w3 : (Jvm.Cond.code Lib.objectInit ⟨#[0xb1]⟩ 1 none).before a0 Z = true) (hd : Dc c.code pc (.invokespecial index) 3 pc') {a : Addr} (hf : 1 ≤ R.frames) {W : Nat} (hW : (rest.map fun v => v.category).sum = W) (hl : W + 12 ≤ R.locals)
    (k : ∀ T', Stand p l e R s m args below meth c T' locs cells slots → T'.heap = h → Go p e below s Q C S (T'.setTop (mkF m pc' Ls rest))) : Go p e below s Q C S (T.setTop (mkF m pc Ls (.ref a :: rest))) := by
  obtain ⟨hd, rfl⟩ := hd
  obtain ⟨T', X', e', st⟩ := initO X hx hZ hown w1 w2 w3 eT (g := mkF m pc Ls (.ref a :: rest)) rfl (hkk.trans hml.symm) rfl hd hf (W := W) (by show 2 * 0 + _ ≤ _; omega) hl
  exact (k T' X' e').step st
/-! fields -/
theorem w_getf (X : Stand p l e R s m args below meth c T locs cells slots) (hx : p.tables.exec = Jvm.exec) (hZ : Z.Warmed39 s.vm) (eT : T.heap = h) {own O n d : String} {index : Nat} (hown : s.vm.findClass own = some m.cls) (w : (Jvm.Cond.fieldLink own index O n d).before a0 Z = true) {a : Addr} {v : Value} (F : Fld Z h a O n d v) (hd : Dc c.code pc (.getfield index) 3 pc')
    (k : ∀ T', Stand p l e R s m args below meth c T' locs cells slots → T'.heap = h → Go p e below s Q C S (T'.setTop (mkF m pc' Ls (v :: rest)))) : Go p e below s Q C S (T.setTop (mkF m pc Ls (.ref a :: rest))) := by
  obtain ⟨hd, rfl⟩ := hd
  obtain ⟨T', X', e', st⟩ := getF X hx hZ hown (host := "") (Or.inl w) Via.refl eT F (g := mkF m pc Ls (.ref a :: rest)) rfl rfl hd
  exact (k T' X' e').step st
theorem w_putf (X : Stand p l e R s m args below meth c T locs cells slots) (hx : p.tables.exec = Jvm.exec) (hZ : Z.Warmed39 s.vm) (eT : T.heap = h) {own O n d : String} {index kk : Nat} {ty : FieldType} (hown : s.vm.findClass own = some m.cls) (w : (Jvm.Cond.fieldLink own index O n d).before a0 Z = true) {a : Addr} {v old : Value} (F : Fld Z h a O n d old) (E : Exa Z h a O) (L : (Jvm.Cond.lays O O n d).before a0 Z = true ∨ ((Jvm.Cond.laysFinal O O n d).before a0 Z = true ∧ own = O ∧ meth.name = "<init>")) (wi : (Jvm.Cond.instantiable O kk).before a0 Z = true)
    (hty : parseFieldDescriptor d = some ty) (hn : narrow ty v = v) (hf : fits ty v = true) (hd : Dc c.code pc (.putfield index) 3 pc')
    (k : ∀ T' h', Stand p l e R s m args below meth c T' (locs ++ [⟨a, Jvm.RoadKit.slotOf Z O n d⟩]) cells slots → T'.heap = h' → Wr h h' a (Jvm.RoadKit.slotOf Z O n d) v → Go p e below s Q C S (T'.setTop (mkF m pc' Ls rest))) : Go p e below s Q C S (T.setTop (mkF m pc Ls (v :: .ref a :: rest))) := by
  obtain ⟨hd, rfl⟩ := hd
  obtain ⟨T', h', X', e', W, st⟩ := putF X hx hZ hown (host := "") (Or.inl w) Via.refl eT F E L wi hty hn hf (g := mkF m pc Ls (v :: .ref a :: rest)) rfl rfl hd
  exact (k T' h' X' e' W).step st
theorem w_new (X : Stand p l e R s m args below meth c T locs cells slots) (hx : p.tables.exec = Jvm.exec) (hZ : Z.Warmed39 s.vm) (eT : T.heap = h) {own K : String} {index n : Nat} (hown : s.vm.findClass own = some m.cls) (w : (Jvm.Cond.classLink own index K).before a0 Z = true) (wi : (Jvm.Cond.instantiable K n).before a0 Z = true) (wz : (Jvm.Cond.initialized K).before a0 Z = true) (hd : Dc c.code pc (.new index) 3 pc') (hcl : cells + 1 ≤ R.cells) (hsl : slots + n ≤ R.slots)
    (k : ∀ T' h' b, b = h.size → Stand p l e R s m args below meth c T' locs (cells + 1) (slots + n) → T'.heap = h' → Ext h h' → Exa Z h' b K → (∀ {O nm d : String} {ty : FieldType}, Laid Z a0 K O nm d → parseFieldDescriptor d = some ty → Fld Z h' b O nm d (defaultValue ty)) → Go p e below s Q C S (T'.setTop (mkF m pc' Ls (.ref b :: rest)))) : Go p e below s Q C S (T.setTop (mkF m pc Ls rest)) := by
  obtain ⟨hd, rfl⟩ := hd
  obtain ⟨T', h', X', e', E, A, D, -, st⟩ := newO X hx hZ hown w wi wz eT (g := mkF m pc Ls rest) rfl hd hcl hsl
  exact (k T' h' _ rfl X' e' E A D).step st
/-! arrays: n places, place i holds f i -/
def AV (Z : State) (h : Heap) (a : Addr) (ty : FieldType) (n : Nat) (f : Nat → Value) : Prop := n < 2 ^ 31 ∧ ∃ cl : Cell, Arr Z h a cl ty ∧ cl.slots.size = n ∧ ∀ i, i < n → cl.slots[i]? = some (f i)
theorem AV.lt {a : Addr} {ty : FieldType} {n : Nat} {f : Nat → Value} (A : AV Z h a ty n f) : a < h.size := by obtain ⟨-, c, A, -⟩ := A; exact A.lt
theorem AV.ext {a : Addr} {ty : FieldType} {n : Nat} {f : Nat → Value} {h' : Heap} (A : AV Z h a ty n f) (E : Ext h h') : AV Z h' a ty n f := by obtain ⟨h1, c, A, r⟩ := A; exact ⟨h1, c, A.ext E, r⟩
theorem AV.other {a b : Addr} {ty : FieldType} {n sl : Nat} {v : Value} {f : Nat → Value} {h' : Heap} (A : AV Z h a ty n f) (W : Wr h h' b sl v) (q : a ≠ b) : AV Z h' a ty n f := by obtain ⟨h1, c, A, r⟩ := A; exact ⟨h1, c, A.other W q, r⟩
theorem AV.keep {a : Addr} {ty : FieldType} {n : Nat} {ws : List Addr} {f : Nat → Value} {h' : Heap} (A : AV Z h a ty n f) (K : Keep h h' ws) (q : a ∉ ws) : AV Z h' a ty n f := by obtain ⟨h1, c, A, r⟩ := A; exact ⟨h1, c, ⟨K.2.1 a c A.1 q, A.2⟩, r⟩
theorem AV.congr {a : Addr} {ty : FieldType} {n : Nat} {f g : Nat → Value} (A : AV Z h a ty n f) (q : ∀ i, i < n → f i = g i) : AV Z h a ty n g := by obtain ⟨h1, c, A, r1, r2⟩ := A; exact ⟨h1, c, A, r1, fun i hi => by rw [r2 i hi, q i hi]⟩
theorem av_idx {j : Int32} {i n : Nat} {cl : Cell} (hj : j.toInt = (i : Int)) (hi : i < n) (hc : cl.slots.size = n) : ¬ (j < 0 ∨ cl.slots.size ≤ j.toNatClampNeg) ∧ j.toNatClampNeg = i := by
  have e0 : (0 : Int32).toInt = 0 := rfl
  simp only [Int32.lt_iff_toInt_lt, Int32.toNatClampNeg, e0, hj, hc]; omega
def put (f : Nat → Value) (i : Nat) (v : Value) : Nat → Value := fun k => if k = i then v else f k
theorem put_at (f : Nat → Value) (i : Nat) (v : Value) : put f i v i = v := by simp [put]
theorem put_ne (f : Nat → Value) {i k : Nat} (v : Value) (q : k ≠ i) : put f i v k = f k := by simp [put, q]
theorem AV.same {a : Addr} {ty : FieldType} {n : Nat} {v : Value} {f : Nat → Value} {h' : Heap} {i : Nat} (A : AV Z h a ty n f) (hi : i < n) (W : Wr h h' a i v) : AV Z h' a ty n (put f i v) := by
  obtain ⟨h1, c, A, r1, r2⟩ := A
  refine ⟨h1, _, A.same W, by rw [sz_set]; exact r1, fun k hk => ?_⟩
  by_cases u : k = i
  · subst u; rw [put_at]; simp [Cell.setSlot, r1, hk]
  · rw [put_ne _ _ u]; simp only [Cell.setSlot]; rw [Array.getElem?_setIfInBounds_ne (Ne.symm u)]; exact r2 k hk
theorem w_newarr (X : Stand p l e R s m args below meth c T locs cells slots) (hx : p.tables.exec = Jvm.exec) (hZ : Z.Warmed39 s.vm) (eT : T.heap = h) {aty : ArrayType} (w : (Jvm.Cond.arrayClass (newarray.typeOf aty)).before a0 Z = true) (hd : Dc c.code pc (.newarray aty) 2 pc') {z : Int32} {n cap : Nat} (hz : z.toInt = (n : Int)) (hcap : n ≤ cap) (hb : cap * 8 ≤ 536870912) (hcl : cells + 1 ≤ R.cells) (hsl : slots + cap ≤ R.slots)
    (k : ∀ T' h' b, b = h.size → Stand p l e R s m args below meth c T' locs (cells + 1) (slots + cap) → T'.heap = h' → Ext h h' → AV Z h' b (newarray.typeOf aty) n (fun _ => defaultValue (newarray.typeOf aty)) → Go p e below s Q C S (T'.setTop (mkF m pc' Ls (.ref b :: rest)))) : Go p e below s Q C S (T.setTop (mkF m pc Ls (.int z :: rest))) := by
  obtain ⟨hd, rfl⟩ := hd
  have e0 : (0 : Int32).toInt = 0 := rfl
  have hn : ¬ z < 0 := by rw [Int32.lt_iff_toInt_lt]; omega
  have en : z.toNatClampNeg = n := by simp only [Int32.toNatClampNeg]; omega
  have hlt := Int32.toInt_lt z
  obtain ⟨T', h', cA, X', e', E, A, st⟩ := newP X hx hZ w eT (g := mkF m pc Ls (.int z :: rest)) rfl hd rfl hn (cap := cap) (by omega) hb hcl hsl
  refine (k T' h' _ rfl X' e' E ⟨by omega, _, A, by rw [sz_new]; exact en, fun i hi => ?_⟩).step st
  simp [newA, en, hi]
theorem w_arrlen (X : Stand p l e R s m args below meth c T locs cells slots) (hx : p.tables.exec = Jvm.exec) (hZ : Z.Warmed39 s.vm) (eT : T.heap = h) {a : Addr} {ty : FieldType} {n : Nat} {f : Nat → Value} (A : AV Z h a ty n f) {z : Int32} (hz : z.toInt = (n : Int)) (hd : Dc c.code pc .arraylength 1 pc') (k : Go p e below s Q C S (T.setTop (mkF m pc' Ls (.int z :: rest)))) : Go p e below s Q C S (T.setTop (mkF m pc Ls (.ref a :: rest))) := by
  obtain ⟨hd, rfl⟩ := hd
  obtain ⟨h1, c, A, r1, -⟩ := A
  have ez : z = c.slots.size.toInt32 := Int32.toInt_inj.mp (by rw [len_toInt (by omega), hz, r1])
  subst ez
  exact k.step fun t q => X.arraylength hx (by rw [eT]; exact A.1) (State.isArrayOf_alike hZ.alike A.2.1) (g := mkF m pc Ls (.ref a :: rest)) rfl rfl hd t q
def iF (g : Nat → Int32) : Nat → Value := fun k => .int (g k)
def lF (g : Nat → Int64) : Nat → Value := fun k => .long (g k)
def upd {α : Type} (g : Nat → α) (i : Nat) (v : α) : Nat → α := fun k => if k = i then v else g k
theorem upd_at {α : Type} (g : Nat → α) (i : Nat) (v : α) : upd g i v i = v := by simp [upd]
theorem upd_ne {α : Type} (g : Nat → α) {i k : Nat} (v : α) (q : k ≠ i) : upd g i v k = g k := by simp [upd, q]
theorem put_iF (g : Nat → Int32) (i : Nat) (v : Int32) : put (iF g) i (.int v) = iF (upd g i v) := by funext k; simp only [put, iF, upd]; split <;> rfl
theorem put_lF (g : Nat → Int64) (i : Nat) (v : Int64) : put (lF g) i (.long v) = lF (upd g i v) := by funext k; simp only [put, lF, upd]; split <;> rfl
theorem w_baload (X : Stand p l e R s m args below meth c T locs cells slots) (hx : p.tables.exec = Jvm.exec) (hZ : Z.Warmed39 s.vm) (eT : T.heap = h) {a : Addr} {n : Nat} {g : Nat → Int32} (A : AV Z h a .byte n (iF g)) {j : Int32} {i : Nat} (hj : j.toInt = (i : Int)) (hi : i < n) {z : Int32} (hv : g i = z) (hd : Dc c.code pc .baload 1 pc') (k : Go p e below s Q C S (T.setTop (mkF m pc' Ls (.int z :: rest)))) : Go p e below s Q C S (T.setTop (mkF m pc Ls (.int j :: .ref a :: rest))) := by
  obtain ⟨hd, rfl⟩ := hd
  subst hv
  obtain ⟨h1, cl, A, r1, r2⟩ := A
  obtain ⟨q1, q2⟩ := av_idx hj hi r1
  exact k.step fun t q => X.baloadBytes hx (by rw [eT]; exact A.1) (State.isArrayOf_alike hZ.alike A.2.1) A.2.2 q1 (by rw [q2, r2 i hi]; rfl) (g := mkF m pc Ls (.int j :: .ref a :: rest)) rfl rfl hd t q
theorem w_iaload (X : Stand p l e R s m args below meth c T locs cells slots) (hx : p.tables.exec = Jvm.exec) (hZ : Z.Warmed39 s.vm) (eT : T.heap = h) {a : Addr} {n : Nat} {g : Nat → Int32} (A : AV Z h a .int n (iF g)) {j : Int32} {i : Nat} (hj : j.toInt = (i : Int)) (hi : i < n) {z : Int32} (hv : g i = z) (hd : Dc c.code pc .iaload 1 pc') (k : Go p e below s Q C S (T.setTop (mkF m pc' Ls (.int z :: rest)))) : Go p e below s Q C S (T.setTop (mkF m pc Ls (.int j :: .ref a :: rest))) := by
  obtain ⟨hd, rfl⟩ := hd
  subst hv
  obtain ⟨h1, cl, A, r1, r2⟩ := A
  obtain ⟨q1, q2⟩ := av_idx hj hi r1
  exact k.step fun t q => X.iaload hx (by rw [eT]; exact A.1) (State.isArrayOf_alike hZ.alike A.2.1) A.2.2 q1 (by rw [q2, r2 i hi]; rfl) (g := mkF m pc Ls (.int j :: .ref a :: rest)) rfl rfl hd t q
theorem w_laload (X : Stand p l e R s m args below meth c T locs cells slots) (hx : p.tables.exec = Jvm.exec) (hZ : Z.Warmed39 s.vm) (eT : T.heap = h) {a : Addr} {n : Nat} {g : Nat → Int64} (A : AV Z h a .long n (lF g)) {j : Int32} {i : Nat} (hj : j.toInt = (i : Int)) (hi : i < n) {z : Int64} (hv : g i = z) (hd : Dc c.code pc .laload 1 pc') (k : Go p e below s Q C S (T.setTop (mkF m pc' Ls (.long z :: rest)))) : Go p e below s Q C S (T.setTop (mkF m pc Ls (.int j :: .ref a :: rest))) := by
  obtain ⟨hd, rfl⟩ := hd
  subst hv
  obtain ⟨h1, cl, A, r1, r2⟩ := A
  obtain ⟨q1, q2⟩ := av_idx hj hi r1
  exact k.step fun t q => X.laload hx (by rw [eT]; exact A.1) (State.isArrayOf_alike hZ.alike A.2.1) A.2.2 q1 (by rw [q2, r2 i hi]; rfl) (g := mkF m pc Ls (.int j :: .ref a :: rest)) rfl rfl hd t q
theorem w_zaload (X : Stand p l e R s m args below meth c T locs cells slots) (hx : p.tables.exec = Jvm.exec) (hZ : Z.Warmed39 s.vm) (eT : T.heap = h) {a : Addr} {n : Nat} {g : Nat → Int32} (A : AV Z h a .boolean n (iF g)) {j : Int32} {i : Nat} (hj : j.toInt = (i : Int)) (hi : i < n) {z : Int32} (hv : g i = z) (hd : Dc c.code pc .baload 1 pc') (k : Go p e below s Q C S (T.setTop (mkF m pc' Ls (.int z :: rest)))) : Go p e below s Q C S (T.setTop (mkF m pc Ls (.int j :: .ref a :: rest))) := by
  obtain ⟨hd, rfl⟩ := hd
  subst hv
  obtain ⟨h1, cl, A, r1, r2⟩ := A
  obtain ⟨q1, q2⟩ := av_idx hj hi r1
  exact k.step fun t q => X.baloadBooleans hx (by rw [eT]; exact A.1) (State.isArrayOf_alike hZ.alike A.2.1) A.2.2 q1 (by rw [q2, r2 i hi]; rfl) (g := mkF m pc Ls (.int j :: .ref a :: rest)) rfl rfl hd t q
theorem w_bastore (X : Stand p l e R s m args below meth c T locs cells slots) (hx : p.tables.exec = Jvm.exec) (hZ : Z.Warmed39 s.vm) (eT : T.heap = h) {a : Addr} {n : Nat} {g : Nat → Int32} (A : AV Z h a .byte n (iF g)) {j : Int32} {x : Int32} {i : Nat} (hj : j.toInt = (i : Int)) (hi : i < n) (hd : Dc c.code pc .bastore 1 pc')
    (k : ∀ T' h', Stand p l e R s m args below meth c T' (locs ++ [⟨a, i⟩]) cells slots → T'.heap = h' → Wr h h' a i (.int (x.toInt8.toInt32)) → AV Z h' a .byte n (iF (upd g i (x.toInt8.toInt32))) → Go p e below s Q C S (T'.setTop (mkF m pc' Ls rest))) : Go p e below s Q C S (T.setTop (mkF m pc Ls (.int x :: .int j :: .ref a :: rest))) := by
  obtain ⟨hd, rfl⟩ := hd
  have A' := A
  obtain ⟨h1, cl, A, r1, r2⟩ := A
  obtain ⟨q1, q2⟩ := av_idx hj hi r1
  obtain ⟨T', h', X', e', W, st⟩ := stB X hx hZ eT A (j := j) q1 (g := mkF m pc Ls (.int x :: .int j :: .ref a :: rest)) rfl rfl hd
  rw [q2] at X' W
  exact (k T' h' X' e' W (put_iF g i _ ▸ A'.same hi W)).step st
theorem w_zastore (X : Stand p l e R s m args below meth c T locs cells slots) (hx : p.tables.exec = Jvm.exec) (hZ : Z.Warmed39 s.vm) (eT : T.heap = h) {a : Addr} {n : Nat} {g : Nat → Int32} (A : AV Z h a .boolean n (iF g)) {j : Int32} {x : Int32} {i : Nat} (hj : j.toInt = (i : Int)) (hi : i < n) (hd : Dc c.code pc .bastore 1 pc')
    (k : ∀ T' h', Stand p l e R s m args below meth c T' (locs ++ [⟨a, i⟩]) cells slots → T'.heap = h' → Wr h h' a i (.int (x &&& 1)) → AV Z h' a .boolean n (iF (upd g i (x &&& 1))) → Go p e below s Q C S (T'.setTop (mkF m pc' Ls rest))) : Go p e below s Q C S (T.setTop (mkF m pc Ls (.int x :: .int j :: .ref a :: rest))) := by
  obtain ⟨hd, rfl⟩ := hd
  have A' := A
  obtain ⟨h1, cl, A, r1, r2⟩ := A
  obtain ⟨q1, q2⟩ := av_idx hj hi r1
  obtain ⟨T', h', X', e', W, st⟩ := stZ X hx hZ eT A (j := j) q1 (g := mkF m pc Ls (.int x :: .int j :: .ref a :: rest)) rfl rfl hd
  rw [q2] at X' W
  exact (k T' h' X' e' W (put_iF g i _ ▸ A'.same hi W)).step st
theorem w_iastore (X : Stand p l e R s m args below meth c T locs cells slots) (hx : p.tables.exec = Jvm.exec) (hZ : Z.Warmed39 s.vm) (eT : T.heap = h) {a : Addr} {n : Nat} {g : Nat → Int32} (A : AV Z h a .int n (iF g)) {j : Int32} {x : Int32} {i : Nat} (hj : j.toInt = (i : Int)) (hi : i < n) (hd : Dc c.code pc .iastore 1 pc')
    (k : ∀ T' h', Stand p l e R s m args below meth c T' (locs ++ [⟨a, i⟩]) cells slots → T'.heap = h' → Wr h h' a i (.int (x)) → AV Z h' a .int n (iF (upd g i (x))) → Go p e below s Q C S (T'.setTop (mkF m pc' Ls rest))) : Go p e below s Q C S (T.setTop (mkF m pc Ls (.int x :: .int j :: .ref a :: rest))) := by
  obtain ⟨hd, rfl⟩ := hd
  have A' := A
  obtain ⟨h1, cl, A, r1, r2⟩ := A
  obtain ⟨q1, q2⟩ := av_idx hj hi r1
  obtain ⟨T', h', X', e', W, st⟩ := stI X hx hZ eT A (j := j) q1 (g := mkF m pc Ls (.int x :: .int j :: .ref a :: rest)) rfl rfl hd
  rw [q2] at X' W
  exact (k T' h' X' e' W (put_iF g i _ ▸ A'.same hi W)).step st
theorem w_lastore (X : Stand p l e R s m args below meth c T locs cells slots) (hx : p.tables.exec = Jvm.exec) (hZ : Z.Warmed39 s.vm) (eT : T.heap = h) {a : Addr} {n : Nat} {g : Nat → Int64} (A : AV Z h a .long n (lF g)) {j : Int32} {x : Int64} {i : Nat} (hj : j.toInt = (i : Int)) (hi : i < n) (hd : Dc c.code pc .lastore 1 pc')
    (k : ∀ T' h', Stand p l e R s m args below meth c T' (locs ++ [⟨a, i⟩]) cells slots → T'.heap = h' → Wr h h' a i (.long (x)) → AV Z h' a .long n (lF (upd g i (x))) → Go p e below s Q C S (T'.setTop (mkF m pc' Ls rest))) : Go p e below s Q C S (T.setTop (mkF m pc Ls (.long x :: .int j :: .ref a :: rest))) := by
  obtain ⟨hd, rfl⟩ := hd
  have A' := A
  obtain ⟨h1, cl, A, r1, r2⟩ := A
  obtain ⟨q1, q2⟩ := av_idx hj hi r1
  obtain ⟨T', h', X', e', W, st⟩ := stJ X hx hZ eT A (j := j) q1 (g := mkF m pc Ls (.long x :: .int j :: .ref a :: rest)) rfl rfl hd
  rw [q2] at X' W
  exact (k T' h' X' e' W (put_lF g i _ ▸ A'.same hi W)).step st
end Kit
section Num
/-! numbers: an int's or a long's unsigned worth -/
def u32 (x : Int32) : Nat := x.toBitVec.toNat
def u64 (x : Int64) : Nat := x.toBitVec.toNat
theorem u32_lt (x : Int32) : u32 x < 4294967296 := x.toBitVec.isLt
theorem u64_lt (x : Int64) : u64 x < 18446744073709551616 := x.toBitVec.isLt
theorem i_u32 (x : Int32) : x.toInt = if u32 x < 2147483648 then (u32 x : Int) else (u32 x : Int) - 4294967296 := by
  show x.toBitVec.toInt = _
  rw [BitVec.toInt_eq_toNat_cond]; unfold u32; split <;> split <;> omega
theorem i_u64 (x : Int64) : x.toInt = if u64 x < 9223372036854775808 then (u64 x : Int) else (u64 x : Int) - 18446744073709551616 := by
  show x.toBitVec.toInt = _
  rw [BitVec.toInt_eq_toNat_cond]; unfold u64; split <;> split <;> omega
theorem u32_i (x : Int32) : (u32 x : Int) = x.toInt % 4294967296 := by have := u32_lt x; rw [i_u32]; split <;> omega
theorem u64_i (x : Int64) : (u64 x : Int) = x.toInt % 18446744073709551616 := by have := u64_lt x; rw [i_u64]; split <;> omega
theorem u32_inj {x y : Int32} (q : u32 x = u32 y) : x = y := Int32.toBitVec_inj.mp (BitVec.eq_of_toNat_eq q)
theorem u64_inj {x y : Int64} (q : u64 x = u64 y) : x = y := Int64.toBitVec_inj.mp (BitVec.eq_of_toNat_eq q)
theorem i32_inj {x y : Int32} (q : x.toInt = y.toInt) : x = y := Int32.toInt_inj.mp q
theorem i64_inj {x y : Int64} (q : x.toInt = y.toInt) : x = y := Int64.toInt_inj.mp q
theorem i32_ne {x y : Int32} (q : x ≠ y) : x.toInt ≠ y.toInt := fun e => q (Int32.toInt_inj.mp e)
theorem i64_ne {x y : Int64} (q : x ≠ y) : x.toInt ≠ y.toInt := fun e => q (Int64.toInt_inj.mp e)
theorem i_rng32 (x : Int32) : -2147483648 ≤ x.toInt ∧ x.toInt ≤ 2147483647 := by have := u32_lt x; rw [i_u32]; split <;> omega
theorem i_rng64 (x : Int64) : -9223372036854775808 ≤ x.toInt ∧ x.toInt ≤ 9223372036854775807 := by have := u64_lt x; rw [i_u64]; split <;> omega
theorem u32_and (x m : Int32) {k : Nat} (hm : u32 m = 2 ^ k - 1) : u32 (x &&& m) = u32 x % 2 ^ k := by
  unfold u32 at *; rw [Int32.toBitVec_and, BitVec.toNat_and, hm, Nat.and_two_pow_sub_one_eq_mod]
theorem u64_and (x m : Int64) {k : Nat} (hm : u64 m = 2 ^ k - 1) : u64 (x &&& m) = u64 x % 2 ^ k := by
  unfold u64 at *; rw [Int64.toBitVec_and, BitVec.toNat_and, hm, Nat.and_two_pow_sub_one_eq_mod]
theorem and_or64 (x y z : Int64) : x &&& (y ||| z) = (x &&& y) ||| (x &&& z) := by
  apply Int64.toBitVec_inj.mp
  simp only [Int64.toBitVec_and, Int64.toBitVec_or]
  exact BitVec.and_or_distrib_left
theorem or_add {a b : Nat} (k : Nat) (ha : a % 2 ^ k = 0) (hb : b < 2 ^ k) : a ||| b = a + b := by
  obtain ⟨q, rfl⟩ := Nat.dvd_of_mod_eq_zero ha
  exact (Nat.two_pow_add_eq_or_of_lt hb q).symm
theorem u32_or {x y : Int32} (k : Nat) (ha : u32 x % 2 ^ k = 0) (hb : u32 y < 2 ^ k) : u32 (x ||| y) = u32 x + u32 y := by
  unfold u32 at *; rw [Int32.toBitVec_or, BitVec.toNat_or, or_add k ha hb]
theorem u64_or {x y : Int64} (k : Nat) (ha : u64 x % 2 ^ k = 0) (hb : u64 y < 2 ^ k) : u64 (x ||| y) = u64 x + u64 y := by
  unfold u64 at *; rw [Int64.toBitVec_or, BitVec.toNat_or, or_add k ha hb]
theorem u32_add (x y : Int32) : u32 (x + y) = (u32 x + u32 y) % 4294967296 := by unfold u32; rw [Int32.toBitVec_add, BitVec.toNat_add]
theorem u64_add (x y : Int64) : u64 (x + y) = (u64 x + u64 y) % 18446744073709551616 := by unfold u64; rw [Int64.toBitVec_add, BitVec.toNat_add]
theorem i_ofNat {k : Nat} (hk : k < 2147483648) : (Int32.ofNat k).toInt = (k : Int) := Int32.toInt_ofNat_of_lt (by omega)
theorem of_i {y : Int32} {k : Nat} (q : y.toInt = (k : Int)) : y = Int32.ofNat k := by
  have := i_rng32 y
  exact Int32.toInt_inj.mp (by rw [i_ofNat (by omega)]; exact q)
theorem sh64a : ∀ k : Fin 64, (((Int32.ofNat k.val &&& 0x3f).toInt64).toBitVec.smod 64).toNat = k.val := by decide +kernel
theorem sh64b : ∀ k : Fin 64, ((Int32.ofNat k.val &&& 0x3f).toInt64.toUInt64.toBitVec % 64).toNat = k.val := by decide +kernel
theorem sh32a : ∀ k : Fin 32, ((Int32.ofNat k.val &&& 31).toBitVec.smod 32).toNat = k.val := by decide +kernel
theorem sh32b : ∀ k : Fin 32, ((Int32.ofNat k.val &&& 31).toUInt32.toBitVec % 32).toNat = k.val := by decide +kernel
theorem u_lshl (x : Int64) {y : Int32} {k : Nat} (q : y.toInt = (k : Int)) (hk : k < 64) : u64 (LShl x y) = u64 x * 2 ^ k % 18446744073709551616 := by
  have e := sh64a ⟨k, hk⟩
  rw [of_i q]; unfold u64 LShl
  rw [Int64.toBitVec_shiftLeft, BitVec.shiftLeft_eq', e, BitVec.toNat_shiftLeft, Nat.shiftLeft_eq]
theorem i_lshr (x : Int64) {y : Int32} {k : Nat} (q : y.toInt = (k : Int)) (hk : k < 64) : (LShr x y).toInt = x.toInt / 2 ^ k := by
  have e := sh64a ⟨k, hk⟩
  rw [of_i q]; unfold LShr
  exact Jvm.Kit.i64_shr x _ e
theorem u_lushr (x : Int64) {y : Int32} {k : Nat} (q : y.toInt = (k : Int)) (hk : k < 64) : u64 (LUshr x y) = u64 x / 2 ^ k := by
  have e := sh64b ⟨k, hk⟩
  rw [of_i q]; unfold u64 LUshr
  show (x.toUInt64 >>> (Int32.ofNat k &&& 0x3f).toInt64.toUInt64).toBitVec.toNat = _
  rw [UInt64.toBitVec_shiftRight, BitVec.ushiftRight_eq', e, BitVec.toNat_ushiftRight, Nat.shiftRight_eq_div_pow]; rfl
theorem u_ishl (x : Int32) {y : Int32} {k : Nat} (q : y.toInt = (k : Int)) (hk : k < 32) : u32 (IShl x y) = u32 x * 2 ^ k % 4294967296 := by
  have e := sh32a ⟨k, hk⟩
  rw [of_i q]; unfold u32 IShl
  rw [Int32.toBitVec_shiftLeft, BitVec.shiftLeft_eq', e, BitVec.toNat_shiftLeft, Nat.shiftLeft_eq]
theorem i_ishr (x : Int32) {y : Int32} {k : Nat} (q : y.toInt = (k : Int)) (hk : k < 32) : (IShr x y).toInt = x.toInt / 2 ^ k := by
  have e := sh32a ⟨k, hk⟩
  rw [of_i q]; unfold IShr
  exact Jvm.Kit.i32_shr x _ e
theorem u_iushr (x : Int32) {y : Int32} {k : Nat} (q : y.toInt = (k : Int)) (hk : k < 32) : u32 (IUshr x y) = u32 x / 2 ^ k := by
  have e := sh32b ⟨k, hk⟩
  rw [of_i q]; unfold u32 IUshr
  show (x.toUInt32 >>> (Int32.ofNat k &&& 31).toUInt32).toBitVec.toNat = _
  rw [UInt32.toBitVec_shiftRight, BitVec.ushiftRight_eq', e, BitVec.toNat_ushiftRight, Nat.shiftRight_eq_div_pow]; rfl
theorem i_i2l (x : Int32) : x.toInt64.toInt = x.toInt := Int32.toInt_toInt64 x
theorem u_l2i (x : Int64) : u32 x.toInt32 = u64 x % 4294967296 := by
  have h1 := u32_i x.toInt32; have h2 := u64_i x
  have e : x.toInt.bmod (2 ^ 32) % 4294967296 = x.toInt % 4294967296 := Int.bmod_emod
  rw [Int64.toInt_toInt32, e] at h1
  omega
theorem i_i2b (x : Int32) : x.toInt8.toInt32.toInt = if x.toInt % 256 < 128 then x.toInt % 256 else x.toInt % 256 - 256 := by
  rw [Int8.toInt_toInt32, Int32.toInt_toInt8, Int.bmod_def]; split <;> split <;> omega
theorem u_i2b (x : Int32) : u32 x.toInt8.toInt32 % 256 = u32 x % 256 := by
  have h1 := u32_i x.toInt8.toInt32; have h2 := u32_i x; rw [i_i2b] at h1; split at h1 <;> omega
end Num
theorem d0_0 : Dc code 0 (.iload_n 0) 1 1 := ⟨at_0, rfl⟩
theorem d0_1 : Dc code 1 (.iconst 3) 1 2 := ⟨at_1, rfl⟩
theorem d0_2 : Dc code 2 (.iand) 1 3 := ⟨at_2, rfl⟩
theorem d0_3 : Dc code 3 (.iconst 1) 1 4 := ⟨at_3, rfl⟩
theorem d0_4 : Dc code 4 (.iadd) 1 5 := ⟨at_4, rfl⟩
theorem d0_5 : Dc code 5 (.istore 6) 2 7 := ⟨at_5, rfl⟩
theorem d0_7 : Dc code 7 (.iload_n 1) 1 8 := ⟨at_7, rfl⟩
theorem d0_8 : Dc code 8 (.ldc 17) 2 10 := ⟨at_8, rfl⟩
theorem d0_10 : Dc code 10 (.iand) 1 11 := ⟨at_10, rfl⟩
theorem d0_11 : Dc code 11 (.iload 6) 2 13 := ⟨at_11, rfl⟩
theorem d0_13 : Dc code 13 (.irem) 1 14 := ⟨at_13, rfl⟩
theorem d0_14 : Dc code 14 (.istore 7) 2 16 := ⟨at_14, rfl⟩
theorem d0_16 : Dc code 16 (.iconst 4) 1 17 := ⟨at_16, rfl⟩
theorem d0_17 : Dc code 17 (.newarray .boolean) 2 19 := ⟨at_17, rfl⟩
theorem d0_19 : Dc code 19 (.astore 8) 2 21 := ⟨at_19, rfl⟩
theorem d0_21 : Dc code 21 (.new 8) 3 24 := ⟨at_21, rfl⟩
theorem d0_24 : Dc code 24 (.dup) 1 25 := ⟨at_24, rfl⟩
theorem d0_25 : Dc code 25 (.iload 6) 2 27 := ⟨at_25, rfl⟩
theorem d0_27 : Dc code 27 (.iload 7) 2 29 := ⟨at_27, rfl⟩
theorem d0_29 : Dc code 29 (.invokespecial 18) 3 32 := ⟨at_29, rfl⟩
theorem d0_32 : Dc code 32 (.astore 9) 2 34 := ⟨at_32, rfl⟩
theorem d0_34 : Dc code 34 (.aload 8) 2 36 := ⟨at_34, rfl⟩
theorem d0_36 : Dc code 36 (.iload 7) 2 38 := ⟨at_36, rfl⟩
theorem d0_38 : Dc code 38 (.iconst 1) 1 39 := ⟨at_38, rfl⟩
theorem d0_39 : Dc code 39 (.bastore) 1 40 := ⟨at_39, rfl⟩
theorem d0_40 : Dc code 40 (.aload 9) 2 42 := ⟨at_40, rfl⟩
theorem d0_42 : Dc code 42 (.aload 8) 2 44 := ⟨at_42, rfl⟩
theorem d0_44 : Dc code 44 (.iload 6) 2 46 := ⟨at_44, rfl⟩
theorem d0_46 : Dc code 46 (.iload_n 2) 1 47 := ⟨at_46, rfl⟩
theorem d0_47 : Dc code 47 (.iload 5) 2 49 := ⟨at_47, rfl⟩
theorem d0_49 : Dc code 49 (.invokestatic 21) 3 52 := ⟨at_49, rfl⟩
theorem d0_52 : Dc code 52 (.aload 9) 2 54 := ⟨at_52, rfl⟩
theorem d0_54 : Dc code 54 (.aload 8) 2 56 := ⟨at_54, rfl⟩
theorem d0_56 : Dc code 56 (.iload 6) 2 58 := ⟨at_56, rfl⟩
theorem d0_58 : Dc code 58 (.iload_n 3) 1 59 := ⟨at_58, rfl⟩
theorem d0_59 : Dc code 59 (.iload 5) 2 61 := ⟨at_59, rfl⟩
theorem d0_61 : Dc code 61 (.invokestatic 21) 3 64 := ⟨at_61, rfl⟩
theorem d0_64 : Dc code 64 (.aload 9) 2 66 := ⟨at_64, rfl⟩
theorem d0_66 : Dc code 66 (.aload 8) 2 68 := ⟨at_66, rfl⟩
theorem d0_68 : Dc code 68 (.iload 6) 2 70 := ⟨at_68, rfl⟩
theorem d0_70 : Dc code 70 (.iload 4) 2 72 := ⟨at_70, rfl⟩
theorem d0_72 : Dc code 72 (.iload 5) 2 74 := ⟨at_72, rfl⟩
theorem d0_74 : Dc code 74 (.invokestatic 21) 3 77 := ⟨at_74, rfl⟩
theorem d0_77 : Dc code 77 (.aload 8) 2 79 := ⟨at_77, rfl⟩
theorem d0_79 : Dc code 79 (.iconst 0) 1 80 := ⟨at_79, rfl⟩
theorem d0_80 : Dc code 80 (.baload) 1 81 := ⟨at_80, rfl⟩
theorem d0_81 : Dj code 81 (.ifCond .ne 28) 28 109 84 := ⟨at_81, by decide, by decide, rfl⟩
theorem d0_84 : Dc code 84 (.aload 8) 2 86 := ⟨at_84, rfl⟩
theorem d0_86 : Dc code 86 (.iconst 1) 1 87 := ⟨at_86, rfl⟩
theorem d0_87 : Dc code 87 (.baload) 1 88 := ⟨at_87, rfl⟩
theorem d0_88 : Dj code 88 (.ifCond .ne 21) 21 109 91 := ⟨at_88, by decide, by decide, rfl⟩
theorem d0_91 : Dc code 91 (.aload 8) 2 93 := ⟨at_91, rfl⟩
theorem d0_93 : Dc code 93 (.iconst 2) 1 94 := ⟨at_93, rfl⟩
theorem d0_94 : Dc code 94 (.baload) 1 95 := ⟨at_94, rfl⟩
theorem d0_95 : Dj code 95 (.ifCond .ne 14) 14 109 98 := ⟨at_95, by decide, by decide, rfl⟩
theorem d0_98 : Dc code 98 (.aload 8) 2 100 := ⟨at_98, rfl⟩
theorem d0_100 : Dc code 100 (.iconst 3) 1 101 := ⟨at_100, rfl⟩
theorem d0_101 : Dc code 101 (.baload) 1 102 := ⟨at_101, rfl⟩
theorem d0_102 : Dj code 102 (.ifCond .ne 7) 7 109 105 := ⟨at_102, by decide, by decide, rfl⟩
theorem d0_105 : Dc code 105 (.iconst 1) 1 106 := ⟨at_105, rfl⟩
theorem d0_106 : Dj code 106 (.goto 4) 4 110 109 := ⟨at_106, by decide, by decide, rfl⟩
theorem d0_109 : Dc code 109 (.iconst 0) 1 110 := ⟨at_109, rfl⟩
theorem d0_110 : Dc code 110 (.istore 10) 2 112 := ⟨at_110, rfl⟩
theorem d0_112 : Dc code 112 (.aload 9) 2 114 := ⟨at_112, rfl⟩
theorem d0_114 : Dc code 114 (.invokevirtual 27) 3 117 := ⟨at_114, rfl⟩
theorem d0_117 : Dc code 117 (.iload 10) 2 119 := ⟨at_117, rfl⟩
theorem d0_119 : Dj code 119 (.if_icmp .ne 7) 7 126 122 := ⟨at_119, by decide, by decide, rfl⟩
theorem d0_122 : Dc code 122 (.iconst 1) 1 123 := ⟨at_122, rfl⟩
theorem d0_123 : Dj code 123 (.goto 4) 4 127 126 := ⟨at_123, by decide, by decide, rfl⟩
theorem d0_127 : Dc code 127 (.ireturn) 1 128 := ⟨at_127, rfl⟩
theorem pn_0 : plainFor x = true := plainFor_of_name (by first | (simp [plainName, overriddenIn]; done) | decide +kernel)
theorem ef_0 (m : MethodId) (x0 : Int32) (x1 : Int32) (x2 : Int32) (x3 : Int32) (x4 : Int32) (x5 : Int32) : entryFrame m #[(.int x0), (.int x1), (.int x2), (.int x3), (.int x4), (.int x5)] maxLocals = mkF m 0 #[.val (.int x0), .val (.int x1), .val (.int x2), .val (.int x3), .val (.int x4), .val (.int x5), .unset, .unset, .unset, .unset, .unset] [] := by first | (simp [entryFrame, mkF, argsToLocals, Value.category, maxLocals]; done) | rfl
theorem d1_0 : Dc prog_8_method_1_code 0 (.aload_n 0) 1 1 := ⟨by decide +kernel, rfl⟩
theorem d1_1 : Dc prog_8_method_1_code 1 (.invokespecial 3) 3 4 := ⟨by decide +kernel, rfl⟩
theorem d1_4 : Dc prog_8_method_1_code 4 (.aload_n 0) 1 5 := ⟨by decide +kernel, rfl⟩
theorem d1_5 : Dc prog_8_method_1_code 5 (.iload_n 1) 1 6 := ⟨by decide +kernel, rfl⟩
theorem d1_6 : Dc prog_8_method_1_code 6 (.newarray .long) 2 8 := ⟨by decide +kernel, rfl⟩
theorem d1_8 : Dc prog_8_method_1_code 8 (.putfield 9) 3 11 := ⟨by decide +kernel, rfl⟩
theorem d1_11 : Dc prog_8_method_1_code 11 (.aload_n 0) 1 12 := ⟨by decide +kernel, rfl⟩
theorem d1_12 : Dc prog_8_method_1_code 12 (.getfield 9) 3 15 := ⟨by decide +kernel, rfl⟩
theorem d1_15 : Dc prog_8_method_1_code 15 (.ldc2_w 15) 3 18 := ⟨by decide +kernel, rfl⟩
theorem d1_18 : Dc prog_8_method_1_code 18 (.invokestatic 17) 3 21 := ⟨by decide +kernel, rfl⟩
theorem d1_21 : Dc prog_8_method_1_code 21 (.aload_n 0) 1 22 := ⟨by decide +kernel, rfl⟩
theorem d1_22 : Dc prog_8_method_1_code 22 (.getfield 9) 3 25 := ⟨by decide +kernel, rfl⟩
theorem d1_25 : Dc prog_8_method_1_code 25 (.iload_n 2) 1 26 := ⟨by decide +kernel, rfl⟩
theorem d1_26 : Dc prog_8_method_1_code 26 (.lconst 0) 1 27 := ⟨by decide +kernel, rfl⟩
theorem d1_27 : Dc prog_8_method_1_code 27 (.lastore) 1 28 := ⟨by decide +kernel, rfl⟩
theorem d1_28 : Dc prog_8_method_1_code 28 (.return_) 1 29 := ⟨by decide +kernel, rfl⟩
theorem pn_1 : plainFor (⟨"com/example/rough_grain/roughgrain/analysis/CarriedValue", "<init>", "(II)V"⟩ : MethodName) = true := plainFor_of_name (by first | (simp [plainName, overriddenIn]; done) | decide +kernel)
theorem ef_1 (m : MethodId) (x0 : Addr) (x1 : Int32) (x2 : Int32) : entryFrame m #[(.ref x0), (.int x1), (.int x2)] 3 = mkF m 0 #[.val (.ref x0), .val (.int x1), .val (.int x2)] [] := by first | (simp [entryFrame, mkF, argsToLocals, Value.category]; done) | rfl
theorem d3_0 : Dc jdk_65_method_101_code 0 (.iconst 0) 1 1 := ⟨by decide +kernel, rfl⟩
theorem d3_1 : Dc jdk_65_method_101_code 1 (.istore_n 3) 1 2 := ⟨by decide +kernel, rfl⟩
theorem d3_2 : Dc jdk_65_method_101_code 2 (.aload_n 0) 1 3 := ⟨by decide +kernel, rfl⟩
theorem d3_3 : Dc jdk_65_method_101_code 3 (.arraylength) 1 4 := ⟨by decide +kernel, rfl⟩
theorem d3_4 : Dc jdk_65_method_101_code 4 (.istore 4) 2 6 := ⟨by decide +kernel, rfl⟩
theorem d3_6 : Dc jdk_65_method_101_code 6 (.iload_n 3) 1 7 := ⟨by decide +kernel, rfl⟩
theorem d3_7 : Dc jdk_65_method_101_code 7 (.iload 4) 2 9 := ⟨by decide +kernel, rfl⟩
theorem d3_9 : Dj jdk_65_method_101_code 9 (.if_icmp .ge 13) 13 22 12 := ⟨by decide +kernel, by decide, by decide, rfl⟩
theorem d3_12 : Dc jdk_65_method_101_code 12 (.aload_n 0) 1 13 := ⟨by decide +kernel, rfl⟩
theorem d3_13 : Dc jdk_65_method_101_code 13 (.iload_n 3) 1 14 := ⟨by decide +kernel, rfl⟩
theorem d3_14 : Dc jdk_65_method_101_code 14 (.lload_n 1) 1 15 := ⟨by decide +kernel, rfl⟩
theorem d3_15 : Dc jdk_65_method_101_code 15 (.lastore) 1 16 := ⟨by decide +kernel, rfl⟩
theorem d3_16 : Dc jdk_65_method_101_code 16 (.iinc 3 1) 3 19 := ⟨by decide +kernel, rfl⟩
theorem d3_19 : Dj jdk_65_method_101_code 19 (.goto (-13)) (-13) 6 22 := ⟨by decide +kernel, by decide, by decide, rfl⟩
theorem d3_22 : Dc jdk_65_method_101_code 22 (.return_) 1 23 := ⟨by decide +kernel, rfl⟩
theorem pn_3 : plainFor (⟨"java/util/Arrays", "fill", "([JJ)V"⟩ : MethodName) = true := plainFor_of_name (by first | (simp [plainName, overriddenIn]; done) | decide +kernel)
theorem ef_3 (m : MethodId) (x0 : Addr) (x1 : Int64) : entryFrame m #[(.ref x0), (.long x1)] 5 = mkF m 0 #[.val (.ref x0), .val (.long x1), .second, .unset, .unset] [] := by first | (simp [entryFrame, mkF, argsToLocals, Value.category]; done) | rfl
theorem d4_0 : Dc method_2_code 0 (.iload_n 3) 1 1 := ⟨by decide +kernel, rfl⟩
theorem d4_1 : Dc method_2_code 1 (.iconst 3) 1 2 := ⟨by decide +kernel, rfl⟩
theorem d4_2 : Dc method_2_code 2 (.iand) 1 3 := ⟨by decide +kernel, rfl⟩
theorem d4_3 : Dc method_2_code 3 (.istore 5) 2 5 := ⟨by decide +kernel, rfl⟩
theorem d4_5 : Dc method_2_code 5 (.iload_n 3) 1 6 := ⟨by decide +kernel, rfl⟩
theorem d4_6 : Dc method_2_code 6 (.iconst 2) 1 7 := ⟨by decide +kernel, rfl⟩
theorem d4_7 : Dc method_2_code 7 (.iushr) 1 8 := ⟨by decide +kernel, rfl⟩
theorem d4_8 : Dc method_2_code 8 (.iconst 3) 1 9 := ⟨by decide +kernel, rfl⟩
theorem d4_9 : Dc method_2_code 9 (.iand) 1 10 := ⟨by decide +kernel, rfl⟩
theorem d4_10 : Dc method_2_code 10 (.iload_n 2) 1 11 := ⟨by decide +kernel, rfl⟩
theorem d4_11 : Dc method_2_code 11 (.irem) 1 12 := ⟨by decide +kernel, rfl⟩
theorem d4_12 : Dc method_2_code 12 (.istore 6) 2 14 := ⟨by decide +kernel, rfl⟩
theorem d4_14 : Dc method_2_code 14 (.iload_n 3) 1 15 := ⟨by decide +kernel, rfl⟩
theorem d4_15 : Dc method_2_code 15 (.iconst 4) 1 16 := ⟨by decide +kernel, rfl⟩
theorem d4_16 : Dc method_2_code 16 (.iushr) 1 17 := ⟨by decide +kernel, rfl⟩
theorem d4_17 : Dc method_2_code 17 (.iconst 3) 1 18 := ⟨by decide +kernel, rfl⟩
theorem d4_18 : Dc method_2_code 18 (.iand) 1 19 := ⟨by decide +kernel, rfl⟩
theorem d4_19 : Dc method_2_code 19 (.iload_n 2) 1 20 := ⟨by decide +kernel, rfl⟩
theorem d4_20 : Dc method_2_code 20 (.irem) 1 21 := ⟨by decide +kernel, rfl⟩
theorem d4_21 : Dc method_2_code 21 (.istore 7) 2 23 := ⟨by decide +kernel, rfl⟩
theorem d4_23 : Dc method_2_code 23 (.iload 5) 2 25 := ⟨by decide +kernel, rfl⟩
theorem d4_25 : Dc method_2_code 25 (.iconst 1) 1 26 := ⟨by decide +kernel, rfl⟩
theorem d4_26 : Dj method_2_code 26 (.if_icmp .ne 17) 17 43 29 := ⟨by decide +kernel, by decide, by decide, rfl⟩
theorem d4_29 : Dc method_2_code 29 (.aload_n 0) 1 30 := ⟨by decide +kernel, rfl⟩
theorem d4_30 : Dc method_2_code 30 (.iload 6) 2 32 := ⟨by decide +kernel, rfl⟩
theorem d4_32 : Dc method_2_code 32 (.invokevirtual 7) 3 35 := ⟨by decide +kernel, rfl⟩
theorem d4_35 : Dc method_2_code 35 (.aload_n 1) 1 36 := ⟨by decide +kernel, rfl⟩
theorem d4_36 : Dc method_2_code 36 (.iload 6) 2 38 := ⟨by decide +kernel, rfl⟩
theorem d4_38 : Dc method_2_code 38 (.iconst 0) 1 39 := ⟨by decide +kernel, rfl⟩
theorem d4_39 : Dc method_2_code 39 (.bastore) 1 40 := ⟨by decide +kernel, rfl⟩
theorem d4_40 : Dj method_2_code 40 (.goto 28) 28 68 43 := ⟨by decide +kernel, by decide, by decide, rfl⟩
theorem d4_43 : Dc method_2_code 43 (.iload 5) 2 45 := ⟨by decide +kernel, rfl⟩
theorem d4_45 : Dc method_2_code 45 (.iconst 2) 1 46 := ⟨by decide +kernel, rfl⟩
theorem d4_46 : Dj method_2_code 46 (.if_icmp .lt 22) 22 68 49 := ⟨by decide +kernel, by decide, by decide, rfl⟩
theorem d4_49 : Dc method_2_code 49 (.aload_n 0) 1 50 := ⟨by decide +kernel, rfl⟩
theorem d4_50 : Dc method_2_code 50 (.iload 6) 2 52 := ⟨by decide +kernel, rfl⟩
theorem d4_52 : Dc method_2_code 52 (.iload 7) 2 54 := ⟨by decide +kernel, rfl⟩
theorem d4_54 : Dc method_2_code 54 (.iload 4) 2 56 := ⟨by decide +kernel, rfl⟩
theorem d4_56 : Dc method_2_code 56 (.i2l) 1 57 := ⟨by decide +kernel, rfl⟩
theorem d4_57 : Dc method_2_code 57 (.invokevirtual 13) 3 60 := ⟨by decide +kernel, rfl⟩
theorem d4_60 : Dc method_2_code 60 (.aload_n 1) 1 61 := ⟨by decide +kernel, rfl⟩
theorem d4_61 : Dc method_2_code 61 (.iload 6) 2 63 := ⟨by decide +kernel, rfl⟩
theorem d4_63 : Dc method_2_code 63 (.aload_n 1) 1 64 := ⟨by decide +kernel, rfl⟩
theorem d4_64 : Dc method_2_code 64 (.iload 7) 2 66 := ⟨by decide +kernel, rfl⟩
theorem d4_66 : Dc method_2_code 66 (.baload) 1 67 := ⟨by decide +kernel, rfl⟩
theorem d4_67 : Dc method_2_code 67 (.bastore) 1 68 := ⟨by decide +kernel, rfl⟩
theorem d4_68 : Dc method_2_code 68 (.return_) 1 69 := ⟨by decide +kernel, rfl⟩
theorem pn_4 : plainFor (⟨"com/example/rough_grain/roughgrain/analysis/CarriedValueIsLostPinLaw", "apply", "(Lcom/example/rough_grain/roughgrain/analysis/CarriedValue;[ZIII)V"⟩ : MethodName) = true := plainFor_of_name (by first | (simp [plainName, overriddenIn]; done) | decide +kernel)
theorem ef_4 (m : MethodId) (x0 : Addr) (x1 : Addr) (x2 : Int32) (x3 : Int32) (x4 : Int32) : entryFrame m #[(.ref x0), (.ref x1), (.int x2), (.int x3), (.int x4)] 8 = mkF m 0 #[.val (.ref x0), .val (.ref x1), .val (.int x2), .val (.int x3), .val (.int x4), .unset, .unset, .unset] [] := by first | (simp [entryFrame, mkF, argsToLocals, Value.category]; done) | rfl
theorem d5_0 : Dc prog_8_method_3_code 0 (.aload_n 0) 1 1 := ⟨by decide +kernel, rfl⟩
theorem d5_1 : Dc prog_8_method_3_code 1 (.getfield 9) 3 4 := ⟨by decide +kernel, rfl⟩
theorem d5_4 : Dc prog_8_method_3_code 4 (.iload_n 1) 1 5 := ⟨by decide +kernel, rfl⟩
theorem d5_5 : Dc prog_8_method_3_code 5 (.aload_n 0) 1 6 := ⟨by decide +kernel, rfl⟩
theorem d5_6 : Dc prog_8_method_3_code 6 (.getfield 9) 3 9 := ⟨by decide +kernel, rfl⟩
theorem d5_9 : Dc prog_8_method_3_code 9 (.iload_n 2) 1 10 := ⟨by decide +kernel, rfl⟩
theorem d5_10 : Dc prog_8_method_3_code 10 (.laload) 1 11 := ⟨by decide +kernel, rfl⟩
theorem d5_11 : Dc prog_8_method_3_code 11 (.ldc2_w 15) 3 14 := ⟨by decide +kernel, rfl⟩
theorem d5_14 : Dc prog_8_method_3_code 14 (.lcmp) 1 15 := ⟨by decide +kernel, rfl⟩
theorem d5_15 : Dj prog_8_method_3_code 15 (.ifCond .ne 9) 9 24 18 := ⟨by decide +kernel, by decide, by decide, rfl⟩
theorem d5_18 : Dc prog_8_method_3_code 18 (.ldc2_w 15) 3 21 := ⟨by decide +kernel, rfl⟩
theorem d5_21 : Dj prog_8_method_3_code 21 (.goto 11) 11 32 24 := ⟨by decide +kernel, by decide, by decide, rfl⟩
theorem d5_24 : Dc prog_8_method_3_code 24 (.aload_n 0) 1 25 := ⟨by decide +kernel, rfl⟩
theorem d5_25 : Dc prog_8_method_3_code 25 (.getfield 9) 3 28 := ⟨by decide +kernel, rfl⟩
theorem d5_28 : Dc prog_8_method_3_code 28 (.iload_n 2) 1 29 := ⟨by decide +kernel, rfl⟩
theorem d5_29 : Dc prog_8_method_3_code 29 (.laload) 1 30 := ⟨by decide +kernel, rfl⟩
theorem d5_30 : Dc prog_8_method_3_code 30 (.lload_n 3) 1 31 := ⟨by decide +kernel, rfl⟩
theorem d5_31 : Dc prog_8_method_3_code 31 (.ladd) 1 32 := ⟨by decide +kernel, rfl⟩
theorem d5_32 : Dc prog_8_method_3_code 32 (.lastore) 1 33 := ⟨by decide +kernel, rfl⟩
theorem d5_33 : Dc prog_8_method_3_code 33 (.return_) 1 34 := ⟨by decide +kernel, rfl⟩
theorem pn_5 : plainFor (⟨"com/example/rough_grain/roughgrain/analysis/CarriedValue", "copy", "(IIJ)V"⟩ : MethodName) = true := plainFor_of_name (by first | (simp [plainName, overriddenIn]; done) | decide +kernel)
theorem ef_5 (m : MethodId) (x0 : Addr) (x1 : Int32) (x2 : Int32) (x3 : Int64) : entryFrame m #[(.ref x0), (.int x1), (.int x2), (.long x3)] 5 = mkF m 0 #[.val (.ref x0), .val (.int x1), .val (.int x2), .val (.long x3), .second] [] := by first | (simp [entryFrame, mkF, argsToLocals, Value.category]; done) | rfl
theorem d6_0 : Dc prog_8_method_2_code 0 (.aload_n 0) 1 1 := ⟨by decide +kernel, rfl⟩
theorem d6_1 : Dc prog_8_method_2_code 1 (.getfield 9) 3 4 := ⟨by decide +kernel, rfl⟩
theorem d6_4 : Dc prog_8_method_2_code 4 (.iload_n 1) 1 5 := ⟨by decide +kernel, rfl⟩
theorem d6_5 : Dc prog_8_method_2_code 5 (.ldc2_w 15) 3 8 := ⟨by decide +kernel, rfl⟩
theorem d6_8 : Dc prog_8_method_2_code 8 (.lastore) 1 9 := ⟨by decide +kernel, rfl⟩
theorem d6_9 : Dc prog_8_method_2_code 9 (.return_) 1 10 := ⟨by decide +kernel, rfl⟩
theorem pn_6 : plainFor (⟨"com/example/rough_grain/roughgrain/analysis/CarriedValue", "set", "(I)V"⟩ : MethodName) = true := plainFor_of_name (by first | (simp [plainName, overriddenIn]; done) | decide +kernel)
theorem ef_6 (m : MethodId) (x0 : Addr) (x1 : Int32) : entryFrame m #[(.ref x0), (.int x1)] 2 = mkF m 0 #[.val (.ref x0), .val (.int x1)] [] := by first | (simp [entryFrame, mkF, argsToLocals, Value.category]; done) | rfl
theorem d7_0 : Dc prog_8_method_5_code 0 (.aload_n 0) 1 1 := ⟨by decide +kernel, rfl⟩
theorem d7_1 : Dc prog_8_method_5_code 1 (.getfield 9) 3 4 := ⟨by decide +kernel, rfl⟩
theorem d7_4 : Dc prog_8_method_5_code 4 (.astore_n 1) 1 5 := ⟨by decide +kernel, rfl⟩
theorem d7_5 : Dc prog_8_method_5_code 5 (.aload_n 1) 1 6 := ⟨by decide +kernel, rfl⟩
theorem d7_6 : Dc prog_8_method_5_code 6 (.arraylength) 1 7 := ⟨by decide +kernel, rfl⟩
theorem d7_7 : Dc prog_8_method_5_code 7 (.istore_n 2) 1 8 := ⟨by decide +kernel, rfl⟩
theorem d7_8 : Dc prog_8_method_5_code 8 (.iconst 0) 1 9 := ⟨by decide +kernel, rfl⟩
theorem d7_9 : Dc prog_8_method_5_code 9 (.istore_n 3) 1 10 := ⟨by decide +kernel, rfl⟩
theorem d7_10 : Dc prog_8_method_5_code 10 (.iload_n 3) 1 11 := ⟨by decide +kernel, rfl⟩
theorem d7_11 : Dc prog_8_method_5_code 11 (.iload_n 2) 1 12 := ⟨by decide +kernel, rfl⟩
theorem d7_12 : Dj prog_8_method_5_code 12 (.if_icmp .ge 25) 25 37 15 := ⟨by decide +kernel, by decide, by decide, rfl⟩
theorem d7_15 : Dc prog_8_method_5_code 15 (.aload_n 1) 1 16 := ⟨by decide +kernel, rfl⟩
theorem d7_16 : Dc prog_8_method_5_code 16 (.iload_n 3) 1 17 := ⟨by decide +kernel, rfl⟩
theorem d7_17 : Dc prog_8_method_5_code 17 (.laload) 1 18 := ⟨by decide +kernel, rfl⟩
theorem d7_18 : Dc prog_8_method_5_code 18 (.lstore 4) 2 20 := ⟨by decide +kernel, rfl⟩
theorem d7_20 : Dc prog_8_method_5_code 20 (.lload 4) 2 22 := ⟨by decide +kernel, rfl⟩
theorem d7_22 : Dc prog_8_method_5_code 22 (.ldc2_w 15) 3 25 := ⟨by decide +kernel, rfl⟩
theorem d7_25 : Dc prog_8_method_5_code 25 (.lcmp) 1 26 := ⟨by decide +kernel, rfl⟩
theorem d7_26 : Dj prog_8_method_5_code 26 (.ifCond .eq 5) 5 31 29 := ⟨by decide +kernel, by decide, by decide, rfl⟩
theorem d7_29 : Dc prog_8_method_5_code 29 (.iconst 0) 1 30 := ⟨by decide +kernel, rfl⟩
theorem d7_30 : Dc prog_8_method_5_code 30 (.ireturn) 1 31 := ⟨by decide +kernel, rfl⟩
theorem d7_31 : Dc prog_8_method_5_code 31 (.iinc 3 1) 3 34 := ⟨by decide +kernel, rfl⟩
theorem d7_34 : Dj prog_8_method_5_code 34 (.goto (-24)) (-24) 10 37 := ⟨by decide +kernel, by decide, by decide, rfl⟩
theorem d7_37 : Dc prog_8_method_5_code 37 (.iconst 1) 1 38 := ⟨by decide +kernel, rfl⟩
theorem d7_38 : Dc prog_8_method_5_code 38 (.ireturn) 1 39 := ⟨by decide +kernel, rfl⟩
theorem pn_7 : plainFor (⟨"com/example/rough_grain/roughgrain/analysis/CarriedValue", "isLost", "()Z"⟩ : MethodName) = true := plainFor_of_name (by first | (simp [plainName, overriddenIn]; done) | decide +kernel)
theorem ef_7 (m : MethodId) (x0 : Addr) : entryFrame m #[(.ref x0)] 6 = mkF m 0 #[.val (.ref x0), .unset, .unset, .unset, .unset, .unset] [] := by first | (simp [entryFrame, mkF, argsToLocals, Value.category]; done) | rfl
theorem pd_0 : parseMethodDescriptor "([JJ)V" = some ⟨[(.array .long), .long], none⟩ := by decide +kernel
theorem pd_1 : parseMethodDescriptor "(IIJ)V" = some ⟨[.int, .int, .long], none⟩ := by decide +kernel
theorem pd_2 : parseMethodDescriptor "(I)V" = some ⟨[.int], none⟩ := by decide +kernel
theorem pd_3 : parseMethodDescriptor "(II)V" = some ⟨[.int, .int], none⟩ := by decide +kernel
theorem pd_4 : parseMethodDescriptor "(Lcom/example/rough_grain/roughgrain/analysis/CarriedValue;[ZIII)V" = some ⟨[(.object "com/example/rough_grain/roughgrain/analysis/CarriedValue"), (.array .boolean), .int, .int, .int], none⟩ := by decide +kernel
theorem pd_5 : parseMethodDescriptor "()Z" = some ⟨[], some .boolean⟩ := by decide +kernel

def cpv (x off : Int64) : Int64 := if x = -9223372036854775808 then -9223372036854775808 else x + off
def hldI (x : Int64) : Int32 := if x = -9223372036854775808 then 0 else 1
theorem cpv_m {x off : Int64} (q : x = -9223372036854775808) : cpv x off = -9223372036854775808 := if_pos q
theorem cpv_h {x off : Int64} (q : x ≠ -9223372036854775808) : cpv x off = x + off := if_neg q
theorem hld_m {x : Int64} (q : x = -9223372036854775808) : hldI x = 0 := if_pos q
theorem hld_h {x : Int64} (q : x ≠ -9223372036854775808) : hldI x = 1 := if_neg q
theorem nar_hld (x : Int64) : nar .boolean (hldI x) = hldI x := by unfold hldI; split <;> rfl
theorem hld_z {x : Int64} (q : hldI x = 0) : x = -9223372036854775808 := by
  by_cases h : x = -9223372036854775808
  · exact h
  · rw [hld_h h] at q; exact absurd q (by decide)
theorem hld_nz {x : Int64} (q : hldI x ≠ 0) : x ≠ -9223372036854775808 := fun h => q (hld_m h)

set_option maxRecDepth 65536 in
set_option maxHeartbeats 40000000 in
theorem lpf (l : Launch) (Z : State) (a0 : Array Value) (hw : ∀ d ∈ tables_1, d.before a0 Z = true) (x0 : Addr) (x1 : Int64) (x4 : Int32) (n0 n : Nat) (h0 : Heap) {p : Program} {e : Env} {R : Room} {s : State} {m : MethodId} {args : Array Value} {below : List Frame} {meth : Method} {c : Code} (hx : p.tables.exec = Jvm.exec) (hZ : Z.Warmed39 s.vm) (hby : c.code = jdk_65_method_101_code) (hml : c.maxLocals = 5) (hown : s.vm.findClass "java/util/Arrays" = some m.cls) (hret : meth.sig.returnType = none) (hlk : meth.locks = false) (hn : x4.toInt = (n : Int)) (g_x0 : n0 ≤ x0) :
    ∀ (k i : Nat), i + k = n → ∀ (T : State) (locs : List Loc) (h : Heap) (v3 : Int32) (g : Nat → Int64), v3.toInt = (i : Int) → Stand p l e R s m args below meth c T locs 0 0 → T.heap = h → n0 ≤ h.size → Fr n0 locs → Keep h0 h [x0] → AV Z h x0 .long n (lF g) → (∀ j, j < i → g j = x1) →
      Go p e below s (fun v h' L => v = none ∧ Fr n0 L ∧ Keep h0 h' [x0] ∧ AV Z h' x0 .long n (lF (fun _ => x1))) 0 0 (T.setTop (mkF m 6 #[.val (.ref x0), .val (.long x1), .second, .val (.int v3), .val (.int x4)] [])) := by
  intro k
  induction k with
  | zero =>
    intro i hi T locs h v3 g hv3 X eT Z0 N K A hg
    have hn2 := A.1
    refine w_iloadN X hx (dq hby d3_6) rfl ?_
    refine w_iload X hx (dq hby d3_7) rfl ?_
    refine w_icmp_ge X hx (dj hby d3_9) (fun hc9 => ?_) (fun hc9 => (?_ : False).elim)
    rotate_left
    · omega
    refine w_ret X hx hret hlk (dq hby d3_22) (by decide) (by decide) ?_
    rw [eT]
    exact ⟨rfl, N, K, A.congr fun j hj => congrArg Value.long (hg j (by omega))⟩
  | succ k ih =>
    intro i hi T locs h v3 g hv3 X eT Z0 N K A hg
    have hn2 := A.1
    refine w_iloadN X hx (dq hby d3_6) rfl ?_
    refine w_iload X hx (dq hby d3_7) rfl ?_
    refine w_icmp_ge X hx (dj hby d3_9) (fun hc9 => (?_ : False).elim) (fun hc9 => ?_)
    · omega
    refine w_aloadN X hx (dq hby d3_12) rfl rfl ?_
    refine w_iloadN X hx (dq hby d3_13) rfl ?_
    refine w_lloadN X hx (dq hby d3_14) rfl ?_
    refine w_lastore X hx hZ eT A (i := i) (hv3) (by omega) (dq hby d3_15) fun T h1 X eT W A' => ?_
    replace Z0 := Nat.le_trans Z0 (Nat.le_of_eq W.size.symm)
    replace K := K.wr W (Or.inl (List.mem_singleton.mpr rfl))
    replace N := Fr.snoc X N g_x0
    replace A := A'
    obtain ⟨g3_15, hg3_15⟩ : ∃ gg, gg = (upd g i (x1)) := ⟨_, rfl⟩
    rw [← hg3_15] at A
    obtain ⟨v3_16, hv3_16⟩ : ∃ z : Int32, z = v3 + (1 : Int32) := ⟨_, rfl⟩
    refine w_iinc X hx (dq hby d3_16) rfl hv3_16.symm (Ls' := #[.val (.ref x0), .val (.long x1), .second, .val (.int v3_16), .val (.int x4)]) rfl ?_
    refine w_goto X hx (dj hby d3_19) ?_
    have q1 : v3_16.toInt = ((i + 1 : Nat) : Int) := by rw [hv3_16, Jvm.Kit.i32_add] <;> (have : (1 : Int32).toInt = 1 := rfl) <;> omega
    have hg2 : ∀ j, j < i + 1 → g3_15 j = x1 := fun j hj => by
      rw [hg3_15]
      by_cases q : j = i
      · subst q; rw [upd_at]
      · rw [upd_ne _ _ q]; exact hg j (by omega)
    exact ih (i + 1) (by omega) T _ h1 v3_16 g3_15 q1 X eT Z0 N K A hg2
set_option maxRecDepth 65536 in
set_option maxHeartbeats 40000000 in
theorem ct3 (l : Launch) (Z : State) (a0 : Array Value) (hw : ∀ d ∈ tables_1, d.before a0 Z = true) (x0 : Addr) (x1 : Int64) (n0 n : Nat) (z4 : Int32) (g : Nat → Int64) (h0 : Heap) (Z0 : n0 ≤ h0.size) (g_x0 : n0 ≤ x0) (A : AV Z h0 x0 .long n (lF g)) (hz : z4.toInt = (n : Int)) :
    Ct l Z (⟨"java/util/Arrays", "fill", "([JJ)V"⟩ : MethodName) jdk_65_method_101_code 5 none ({ frames := 0, cells := 0, slots := 0, locals := 0 } : Room) #[(.ref x0), (.long x1)] h0 (fun v h' L => v = none ∧ Fr n0 L ∧ Keep h0 h' [x0] ∧ AV Z h' x0 .long n (lF (fun _ => x1))) := by
  refine Ct.body pn_3 ?_
  intro p e s m below meth c T X hx hby hml hown hnm hret hlk hZ eT
  rw [ef_3]
  have N := Fr.nil n0
  have K := Keep.refl h0 [x0]
  refine w_iconst X hx (dq hby d3_0) (z := 0) rfl ?_
  refine w_istoreN X hx (dq hby d3_1) (z := (0 : Int32)) rfl (Ls' := #[.val (.ref x0), .val (.long x1), .second, .val (.int (0 : Int32)), .unset]) rfl ?_
  refine w_aloadN X hx (dq hby d3_2) rfl rfl ?_
  refine w_arrlen X hx hZ eT A (z := z4) (hz) (dq hby d3_3) ?_
  refine w_istore X hx (dq hby d3_4) (z := z4) rfl (Ls' := #[.val (.ref x0), .val (.long x1), .second, .val (.int (0 : Int32)), .val (.int z4)]) rfl ?_
  exact lpf l Z a0 hw x0 x1 z4 n0 n h0 hx hZ hby hml hown hret hlk hz g_x0 n 0 (by omega) T _ h0 0 g rfl X eT Z0 N K A (fun j hj => by omega)
set_option maxRecDepth 65536 in
set_option maxHeartbeats 40000000 in
theorem ct1 (l : Launch) (Z : State) (a0 : Array Value) (hw : ∀ d ∈ tables_1, d.before a0 Z = true) (x0 : Addr) (x1 x2 : Int32) (n0 n ci : Nat) (h0 : Heap) (Z0 : n0 ≤ h0.size) (g_x0 : n0 ≤ x0) (E_x0 : Exa Z h0 x0 "com/example/rough_grain/roughgrain/analysis/CarriedValue") (F_offsets_x0 : Fld Z h0 x0 "com/example/rough_grain/roughgrain/analysis/CarriedValue" "offsets" "[J" .null) (hn : x1.toInt = (n : Int)) (hn2 : n ≤ 4) (hc : x2.toInt = (ci : Int)) (hci : ci < n) :
    Ct l Z (⟨"com/example/rough_grain/roughgrain/analysis/CarriedValue", "<init>", "(II)V"⟩ : MethodName) prog_8_method_1_code 3 none ({ frames := 1, cells := 1, slots := 4, locals := 20 } : Room) #[(.ref x0), (.int x1), (.int x2)] h0 (fun v h' L => v = none ∧ Fr n0 L ∧ Keep h0 h' [x0] ∧ Exa Z h' x0 "com/example/rough_grain/roughgrain/analysis/CarriedValue" ∧ ∃ ar : Addr, n0 ≤ ar ∧ x0 ≠ ar ∧ h0.size ≤ ar ∧ Fld Z h' x0 "com/example/rough_grain/roughgrain/analysis/CarriedValue" "offsets" "[J" (.ref ar) ∧ AV Z h' ar .long n (lF (upd (fun _ => (-9223372036854775808 : Int64)) ci 0))) := by
  refine Ct.body pn_1 ?_
  intro p e s m below meth c T X hx hby hml hown hnm hret hlk hZ eT
  rw [ef_1]
  have N := Fr.nil n0
  have K := Keep.refl h0 [x0]
  refine w_aloadN X hx (dq hby d1_0) rfl rfl ?_
  refine w_objinit X hx hZ eT hml (by rfl) hown (hw _ (List.mem_of_getElem? (i := 8) rfl)) (hw _ (List.mem_of_getElem? (i := 9) rfl)) (hw _ (List.mem_of_getElem? (i := 10) rfl)) (dq hby d1_1) (by decide) (W := 0) rfl (by decide) fun T X eT => ?_
  refine w_aloadN X hx (dq hby d1_4) rfl rfl ?_
  refine w_iloadN X hx (dq hby d1_5) rfl ?_
  refine w_newarr X hx hZ eT (aty := .long) (hw _ (List.mem_of_getElem? (i := 11) rfl)) (dq hby d1_6) (n := n) (cap := 4) (hn) (hn2) (by decide) (by decide) (by decide) fun T h1 b6 hb_b6 X eT EX A_b6 => ?_
  have ne_x0_b6 : x0 ≠ b6 := by rw [hb_b6]; exact Nat.ne_of_lt (Fld.lt F_offsets_x0)
  have g_b6 : n0 ≤ b6 := by omega
  have ge_b6 : h0.size ≤ b6 := by have := K.1; omega
  replace F_offsets_x0 := Fld.ext EX F_offsets_x0
  replace E_x0 := Exa.ext EX E_x0
  replace Z0 := Nat.le_trans Z0 EX.1
  replace K := K.ext EX
  replace A_b6 : AV Z h1 b6 .long n (lF (fun _ => (0 : Int64))) := A_b6
  refine w_putf X hx hZ eT hown (hw _ (List.mem_of_getElem? (i := 12) rfl)) F_offsets_x0 E_x0 (Or.inr ⟨(hw _ (List.mem_of_getElem? (i := 13) rfl)), rfl, hnm⟩) (hw _ (List.mem_of_getElem? (i := 3) rfl)) (ty := (.array .long)) (by decide) rfl rfl (dq hby d1_8) fun T h2 X eT W => ?_
  replace E_x0 := Exa.wr W E_x0
  replace A_b6 := AV.other A_b6 W (Ne.symm ne_x0_b6)
  replace Z0 := Nat.le_trans Z0 (Nat.le_of_eq W.size.symm)
  replace K := K.wr W (Or.inl (List.mem_singleton.mpr rfl))
  replace N := Fr.snoc X N g_x0
  replace F_offsets_x0 := Fld.same W F_offsets_x0
  refine w_aloadN X hx (dq hby d1_11) rfl rfl ?_
  refine w_getf X hx hZ eT hown (hw _ (List.mem_of_getElem? (i := 12) rfl)) F_offsets_x0 (dq hby d1_12) fun T X eT => ?_
  refine w_ldc2 X hx hZ hown (hw _ (List.mem_of_getElem? (i := 14) rfl)) (dq hby d1_15) ?_
  refine w_callS X hx hZ eT hml (by rfl) hown (hw _ (List.mem_of_getElem? (i := 15) rfl)) (hw _ (List.mem_of_getElem? (i := 16) rfl)) (hw _ (List.mem_of_getElem? (i := 17) rfl)) (hw _ (List.mem_of_getElem? (i := 18) rfl)) (by decide) (ct3 l Z a0 hw b6 (-9223372036854775808 : Int64) n0 n x1 (fun _ => (0 : Int64)) h2 Z0 g_b6 A_b6 hn) (dq hby d1_18) pd_0 (argsL := [(.ref b6), (.long (-9223372036854775808 : Int64))]) (rest := []) rfl rfl rfl (W := 0) rfl (by decide) (by decide) (by decide) (by decide) fun v T L X hQ => ?_
  generalize eT : T.heap = h3 at hQ
  obtain ⟨rfl, N', K', A_b6⟩ := hQ
  replace F_offsets_x0 := Fld.keep F_offsets_x0 K' (ninS ne_x0_b6 nin0)
  replace E_x0 := Exa.keep E_x0 K'
  replace Z0 := Nat.le_trans Z0 K'.1
  replace K := K.trans K' (allS (Or.inr ge_b6) all0)
  replace N := Fr.app N N'
  refine w_aloadN X hx (dq hby d1_21) rfl rfl ?_
  refine w_getf X hx hZ eT hown (hw _ (List.mem_of_getElem? (i := 12) rfl)) F_offsets_x0 (dq hby d1_22) fun T X eT => ?_
  refine w_iloadN X hx (dq hby d1_25) rfl ?_
  refine w_lconst X hx (dq hby d1_26) (z := 0) rfl ?_
  refine w_lastore X hx hZ eT A_b6 (i := ci) (hc) (hci) (dq hby d1_27) fun T h4 X eT W A' => ?_
  replace F_offsets_x0 := Fld.other W F_offsets_x0 (Or.inl ne_x0_b6)
  replace E_x0 := Exa.wr W E_x0
  replace Z0 := Nat.le_trans Z0 (Nat.le_of_eq W.size.symm)
  replace K := K.wr W (Or.inr ge_b6)
  replace N := Fr.snoc X N g_b6
  replace A_b6 := A'
  refine w_ret X hx hret hlk (dq hby d1_28) (by decide) (by decide) ?_
  rw [eT]
  exact ⟨rfl, N, K, E_x0, b6, g_b6, ne_x0_b6, ge_b6, F_offsets_x0, A_b6⟩
set_option maxRecDepth 65536 in
set_option maxHeartbeats 40000000 in
theorem ct6 (l : Launch) (Z : State) (a0 : Array Value) (hw : ∀ d ∈ tables_1, d.before a0 Z = true) (x0 : Addr) (x1 : Int32) (n0 : Nat) (ar : Addr) (n ti : Nat) (g : Nat → Int64) (h0 : Heap) (Z0 : n0 ≤ h0.size) (g_ar : n0 ≤ ar) (ne_x0_ar : x0 ≠ ar) (E_x0 : Exa Z h0 x0 "com/example/rough_grain/roughgrain/analysis/CarriedValue") (F_offsets_x0 : Fld Z h0 x0 "com/example/rough_grain/roughgrain/analysis/CarriedValue" "offsets" "[J" (.ref ar)) (A_ar : AV Z h0 ar .long n (lF g)) (ht : x1.toInt = (ti : Int)) (hti : ti < n) :
    Ct l Z (⟨"com/example/rough_grain/roughgrain/analysis/CarriedValue", "set", "(I)V"⟩ : MethodName) prog_8_method_2_code 2 none ({ frames := 0, cells := 0, slots := 0, locals := 0 } : Room) #[(.ref x0), (.int x1)] h0 (fun v h' L => v = none ∧ Fr n0 L ∧ Keep h0 h' [ar] ∧ Exa Z h' x0 "com/example/rough_grain/roughgrain/analysis/CarriedValue" ∧ Fld Z h' x0 "com/example/rough_grain/roughgrain/analysis/CarriedValue" "offsets" "[J" (.ref ar) ∧ AV Z h' ar .long n (lF (upd g ti (-9223372036854775808 : Int64)))) := by
  refine Ct.body pn_6 ?_
  intro p e s m below meth c T X hx hby hml hown hnm hret hlk hZ eT
  rw [ef_6]
  have N := Fr.nil n0
  have K := Keep.refl h0 [ar]
  refine w_aloadN X hx (dq hby d6_0) rfl rfl ?_
  refine w_getf X hx hZ eT hown (hw _ (List.mem_of_getElem? (i := 12) rfl)) F_offsets_x0 (dq hby d6_1) fun T X eT => ?_
  refine w_iloadN X hx (dq hby d6_4) rfl ?_
  refine w_ldc2 X hx hZ hown (hw _ (List.mem_of_getElem? (i := 14) rfl)) (dq hby d6_5) ?_
  refine w_lastore X hx hZ eT A_ar (i := ti) (ht) (hti) (dq hby d6_8) fun T h1 X eT W A' => ?_
  replace F_offsets_x0 := Fld.other W F_offsets_x0 (Or.inl ne_x0_ar)
  replace E_x0 := Exa.wr W E_x0
  replace Z0 := Nat.le_trans Z0 (Nat.le_of_eq W.size.symm)
  replace K := K.wr W (Or.inl (List.mem_singleton.mpr rfl))
  replace N := Fr.snoc X N g_ar
  replace A_ar := A'
  refine w_ret X hx hret hlk (dq hby d6_9) (by decide) (by decide) ?_
  rw [eT]
  exact ⟨rfl, N, K, E_x0, F_offsets_x0, A_ar⟩
set_option maxRecDepth 65536 in
set_option maxHeartbeats 40000000 in
theorem ct5 (l : Launch) (Z : State) (a0 : Array Value) (hw : ∀ d ∈ tables_1, d.before a0 Z = true) (x0 : Addr) (x1 : Int32) (x2 : Int32) (x3 : Int64) (n0 : Nat) (ar : Addr) (n ti : Nat) (g : Nat → Int64) (si : Nat) (h0 : Heap) (Z0 : n0 ≤ h0.size) (g_ar : n0 ≤ ar) (ne_x0_ar : x0 ≠ ar) (E_x0 : Exa Z h0 x0 "com/example/rough_grain/roughgrain/analysis/CarriedValue") (F_offsets_x0 : Fld Z h0 x0 "com/example/rough_grain/roughgrain/analysis/CarriedValue" "offsets" "[J" (.ref ar)) (A_ar : AV Z h0 ar .long n (lF g)) (ht : x1.toInt = (ti : Int)) (hti : ti < n) (hs : x2.toInt = (si : Int)) (hsi : si < n) :
    Ct l Z (⟨"com/example/rough_grain/roughgrain/analysis/CarriedValue", "copy", "(IIJ)V"⟩ : MethodName) prog_8_method_3_code 5 none ({ frames := 0, cells := 0, slots := 0, locals := 0 } : Room) #[(.ref x0), (.int x1), (.int x2), (.long x3)] h0 (fun v h' L => v = none ∧ Fr n0 L ∧ Keep h0 h' [ar] ∧ Exa Z h' x0 "com/example/rough_grain/roughgrain/analysis/CarriedValue" ∧ Fld Z h' x0 "com/example/rough_grain/roughgrain/analysis/CarriedValue" "offsets" "[J" (.ref ar) ∧ AV Z h' ar .long n (lF (upd g ti (cpv (g si) x3)))) := by
  refine Ct.body pn_5 ?_
  intro p e s m below meth c T X hx hby hml hown hnm hret hlk hZ eT
  rw [ef_5]
  have N := Fr.nil n0
  have K := Keep.refl h0 [ar]
  refine w_aloadN X hx (dq hby d5_0) rfl rfl ?_
  refine w_getf X hx hZ eT hown (hw _ (List.mem_of_getElem? (i := 12) rfl)) F_offsets_x0 (dq hby d5_1) fun T X eT => ?_
  refine w_iloadN X hx (dq hby d5_4) rfl ?_
  refine w_aloadN X hx (dq hby d5_5) rfl rfl ?_
  refine w_getf X hx hZ eT hown (hw _ (List.mem_of_getElem? (i := 12) rfl)) F_offsets_x0 (dq hby d5_6) fun T X eT => ?_
  refine w_iloadN X hx (dq hby d5_9) rfl ?_
  refine w_laload X hx hZ eT A_ar (i := si) (hs) (hsi) (z := (g si)) (rfl) (dq hby d5_10) ?_
  refine w_ldc2 X hx hZ hown (hw _ (List.mem_of_getElem? (i := 14) rfl)) (dq hby d5_11) ?_
  refine w_lcmp_ne X hx (dq hby d5_14) (dj hby d5_15) (fun hc15 => ?_) (fun hc15 => ?_)
  · refine w_aloadN X hx (dq hby d5_24) rfl rfl ?_
    refine w_getf X hx hZ eT hown (hw _ (List.mem_of_getElem? (i := 12) rfl)) F_offsets_x0 (dq hby d5_25) fun T X eT => ?_
    refine w_iloadN X hx (dq hby d5_28) rfl ?_
    refine w_laload X hx hZ eT A_ar (i := si) (hs) (hsi) (z := (g si)) (rfl) (dq hby d5_29) ?_
    refine w_lloadN X hx (dq hby d5_30) rfl ?_
    refine w_ladd X hx (dq hby d5_31) ?_
    refine w_lastore X hx hZ eT A_ar (i := ti) (ht) (hti) (dq hby d5_32) fun T h1 X eT W A' => ?_
    replace F_offsets_x0 := Fld.other W F_offsets_x0 (Or.inl ne_x0_ar)
    replace E_x0 := Exa.wr W E_x0
    replace Z0 := Nat.le_trans Z0 (Nat.le_of_eq W.size.symm)
    replace K := K.wr W (Or.inl (List.mem_singleton.mpr rfl))
    replace N := Fr.snoc X N g_ar
    replace A_ar := A'
    refine w_ret X hx hret hlk (dq hby d5_33) (by decide) (by decide) ?_
    rw [← cpv_h (off := x3) hc15] at A_ar
    rw [eT]
    exact ⟨rfl, N, K, E_x0, F_offsets_x0, A_ar⟩
  · refine w_ldc2 X hx hZ hown (hw _ (List.mem_of_getElem? (i := 14) rfl)) (dq hby d5_18) ?_
    refine w_goto X hx (dj hby d5_21) ?_
    refine w_lastore X hx hZ eT A_ar (i := ti) (ht) (hti) (dq hby d5_32) fun T h2 X eT W A' => ?_
    replace F_offsets_x0 := Fld.other W F_offsets_x0 (Or.inl ne_x0_ar)
    replace E_x0 := Exa.wr W E_x0
    replace Z0 := Nat.le_trans Z0 (Nat.le_of_eq W.size.symm)
    replace K := K.wr W (Or.inl (List.mem_singleton.mpr rfl))
    replace N := Fr.snoc X N g_ar
    replace A_ar := A'
    refine w_ret X hx hret hlk (dq hby d5_33) (by decide) (by decide) ?_
    rw [show upd g ti (-9223372036854775808 : Int64) = upd g ti (cpv (g si) x3) from by rw [cpv_m hc15]] at A_ar
    rw [eT]
    exact ⟨rfl, N, K, E_x0, F_offsets_x0, A_ar⟩

/-- the law's own book h beside the offsets g -/
def Inv (n : Nat) (b : Int) (g : Nat → Int64) (f : Nat → Int32) : Prop := (∀ i, i < n → (g i = -9223372036854775808 ∧ f i = 0) ∨ (f i = 1 ∧ -b ≤ (g i).toInt ∧ (g i).toInt ≤ b)) ∧ ∀ i, n ≤ i → i < 4 → f i = 0
theorem min_i : (-9223372036854775808 : Int64).toInt = -9223372036854775808 := by decide
theorem Inv.mono {n : Nat} {b b' : Int} {g : Nat → Int64} {f : Nat → Int32} (q : Inv n b g f) (h : b ≤ b') : Inv n b' g f := ⟨fun i hi => (q.1 i hi).imp id fun z => ⟨z.1, by omega, by omega⟩, q.2⟩
theorem Inv.bit {n : Nat} {b : Int} {g : Nat → Int64} {f : Nat → Int32} (q : Inv n b g f) {i : Nat} (hi : i < n) : f i &&& 1 = f i := by
  rcases q.1 i hi with z | z
  · rw [z.2]; rfl
  · rw [z.1]; rfl
theorem Inv.set {n : Nat} {b : Int} {g : Nat → Int64} {f : Nat → Int32} (q : Inv n b g f) {t : Nat} (ht : t < n) (hn : n ≤ 4) : Inv n b (upd g t (-9223372036854775808)) (upd f t (0 &&& 1)) := by
  refine ⟨fun i hi => ?_, fun i h1 h2 => ?_⟩
  · by_cases e : i = t
    · subst e; rw [upd_at, upd_at]; exact Or.inl ⟨rfl, rfl⟩
    · rw [upd_ne _ _ e, upd_ne _ _ e]; exact q.1 i hi
  · rw [upd_ne _ _ (by omega)]; exact q.2 i h1 h2
theorem Inv.copy {n : Nat} {b : Int} {g : Nat → Int64} {f : Nat → Int32} (q : Inv n b g f) {t s : Nat} (ht : t < n) (hs : s < n) (hb : b ≤ 4294967296) (off : Int32) : Inv n (b + 2147483648) (upd g t (cpv (g s) off.toInt64)) (upd f t (f s &&& 1)) := by
  have hr := i_rng32 off
  refine ⟨fun i hi => ?_, fun i h1 h2 => ?_⟩
  · by_cases e : i = t
    · subst e; rw [upd_at, upd_at, q.bit hs]
      rcases q.1 s hs with z | z
      · exact Or.inl ⟨cpv_m z.1, z.2⟩
      · have ne : g s ≠ -9223372036854775808 := fun h => by have := congrArg Int64.toInt h; rw [min_i] at this; omega
        have e2 : (g s + off.toInt64).toInt = (g s).toInt + off.toInt := by rw [Jvm.Kit.i64_add] <;> rw [i_i2l] <;> omega
        rw [cpv_h ne, e2]; exact Or.inr ⟨z.1, by omega, by omega⟩
    · rw [upd_ne _ _ e, upd_ne _ _ e]; exact (q.mono (by omega)).1 i hi
  · rw [upd_ne _ _ (by omega)]; exact q.2 i h1 h2
theorem own_m3 (x : Int32) {n : Int32} {k : Nat} (hn : n.toInt = (k : Int)) (h1 : 1 ≤ k) : ∃ t : Nat, ((x &&& 3) % n).toInt = (t : Int) ∧ t < k := by
  have m : (x &&& 3).toInt = x.toInt % 2 ^ 2 := Jvm.Kit.i32_mask x 3 (by decide) (by decide)
  have r : ((x &&& 3) % n).toInt = x.toInt % 2 ^ 2 % k := by rw [Jvm.Kit.i32_rem_nonneg (by omega), m, hn]
  have a := Int.emod_nonneg (x.toInt % 2 ^ 2) (show (k : Int) ≠ 0 by omega)
  have b := Int.emod_lt_of_pos (x.toInt % 2 ^ 2) (show (0 : Int) < k by omega)
  exact ⟨(x.toInt % 2 ^ 2 % k).toNat, by rw [r]; omega, by omega⟩

set_option maxRecDepth 65536 in
set_option maxHeartbeats 40000000 in
theorem ct4 (l : Launch) (Z : State) (a0 : Array Value) (hw : ∀ d ∈ tables_1, d.before a0 Z = true) (x0 x1 : Addr) (x2 x3 x4 : Int32) (n0 : Nat) (ar : Addr) (n : Nat) (g : Nat → Int64) (f : Nat → Int32) (b : Int) (h0 : Heap) (Z0 : n0 ≤ h0.size) (g_ar : n0 ≤ ar) (g_x1 : n0 ≤ x1) (ne_x0_ar : x0 ≠ ar) (ne_x0_x1 : x0 ≠ x1) (ne_ar_x1 : ar ≠ x1) (E_x0 : Exa Z h0 x0 "com/example/rough_grain/roughgrain/analysis/CarriedValue") (F_offsets_x0 : Fld Z h0 x0 "com/example/rough_grain/roughgrain/analysis/CarriedValue" "offsets" "[J" (.ref ar)) (A_ar : AV Z h0 ar .long n (lF g)) (A_x1 : AV Z h0 x1 .boolean 4 (iF f)) (hn : x2.toInt = (n : Int)) (hn1 : 1 ≤ n ∧ n ≤ 4) (hI : Inv n b g f) (hb0 : 0 ≤ b) (hb : b ≤ 4294967296) :
    Ct l Z (⟨"com/example/rough_grain/roughgrain/analysis/CarriedValueIsLostPinLaw", "apply", "(Lcom/example/rough_grain/roughgrain/analysis/CarriedValue;[ZIII)V"⟩ : MethodName) method_2_code 8 none ({ frames := 1, cells := 0, slots := 0, locals := 24 } : Room) #[(.ref x0), (.ref x1), (.int x2), (.int x3), (.int x4)] h0 (fun v h' L => v = none ∧ Fr n0 L ∧ Keep h0 h' [ar, x1] ∧ Exa Z h' x0 "com/example/rough_grain/roughgrain/analysis/CarriedValue" ∧ Fld Z h' x0 "com/example/rough_grain/roughgrain/analysis/CarriedValue" "offsets" "[J" (.ref ar) ∧ ∃ (g' : Nat → Int64) (f' : Nat → Int32), AV Z h' ar .long n (lF g') ∧ AV Z h' x1 .boolean 4 (iF f') ∧ Inv n (b + 2147483648) g' f') := by
  refine Ct.body pn_4 ?_
  intro p e s m below meth c T X hx hby hml hown hnm hret hlk hZ eT
  rw [ef_4]
  have N := Fr.nil n0
  have K := Keep.refl h0 [ar, x1]
  have nz : x2 ≠ 0 := fun q => by have := congrArg Int32.toInt q; rw [show (0 : Int32).toInt = 0 from rfl] at this; omega
  refine w_iloadN X hx (dq hby d4_0) rfl ?_
  refine w_iconst X hx (dq hby d4_1) (z := 3) rfl ?_
  refine w_iand X hx (dq hby d4_2) ?_
  obtain ⟨v5_3, hv5_3⟩ : ∃ z : Int32, z = (x3 &&& (3 : Int32)) := ⟨_, rfl⟩
  refine w_istore X hx (dq hby d4_3) (z := v5_3) hv5_3 (Ls' := #[.val (.ref x0), .val (.ref x1), .val (.int x2), .val (.int x3), .val (.int x4), .val (.int v5_3), .unset, .unset]) rfl ?_
  refine w_iloadN X hx (dq hby d4_5) rfl ?_
  refine w_iconst X hx (dq hby d4_6) (z := 2) rfl ?_
  refine w_iushr X hx (dq hby d4_7) ?_
  refine w_iconst X hx (dq hby d4_8) (z := 3) rfl ?_
  refine w_iand X hx (dq hby d4_9) ?_
  refine w_iloadN X hx (dq hby d4_10) rfl ?_
  refine w_irem X hx (dq hby d4_11) (nz) ?_
  obtain ⟨v6_12, hv6_12⟩ : ∃ z : Int32, z = (((IUshr x3 (2 : Int32)) &&& (3 : Int32)) % x2) := ⟨_, rfl⟩
  refine w_istore X hx (dq hby d4_12) (z := v6_12) hv6_12 (Ls' := #[.val (.ref x0), .val (.ref x1), .val (.int x2), .val (.int x3), .val (.int x4), .val (.int v5_3), .val (.int v6_12), .unset]) rfl ?_
  refine w_iloadN X hx (dq hby d4_14) rfl ?_
  refine w_iconst X hx (dq hby d4_15) (z := 4) rfl ?_
  refine w_iushr X hx (dq hby d4_16) ?_
  refine w_iconst X hx (dq hby d4_17) (z := 3) rfl ?_
  refine w_iand X hx (dq hby d4_18) ?_
  refine w_iloadN X hx (dq hby d4_19) rfl ?_
  refine w_irem X hx (dq hby d4_20) (nz) ?_
  obtain ⟨v7_21, hv7_21⟩ : ∃ z : Int32, z = (((IUshr x3 (4 : Int32)) &&& (3 : Int32)) % x2) := ⟨_, rfl⟩
  refine w_istore X hx (dq hby d4_21) (z := v7_21) hv7_21 (Ls' := #[.val (.ref x0), .val (.ref x1), .val (.int x2), .val (.int x3), .val (.int x4), .val (.int v5_3), .val (.int v6_12), .val (.int v7_21)]) rfl ?_
  obtain ⟨ti, hti, ht⟩ := own_m3 (IUshr x3 2) hn hn1.1; rw [← hv6_12] at hti
  obtain ⟨si, hsi, hs⟩ := own_m3 (IUshr x3 4) hn hn1.1; rw [← hv7_21] at hsi
  refine w_iload X hx (dq hby d4_23) rfl ?_
  refine w_iconst X hx (dq hby d4_25) (z := 1) rfl ?_
  refine w_icmp_ne X hx (dj hby d4_26) (fun hc26 => ?_) (fun hc26 => ?_)
  · refine w_iload X hx (dq hby d4_43) rfl ?_
    refine w_iconst X hx (dq hby d4_45) (z := 2) rfl ?_
    refine w_icmp_lt X hx (dj hby d4_46) (fun hc46 => ?_) (fun hc46 => ?_)
    · refine w_ret X hx hret hlk (dq hby d4_68) (by decide) (by decide) ?_
      rw [eT]
      exact ⟨rfl, N, K, E_x0, F_offsets_x0, _, _, A_ar, A_x1, hI.mono (by omega)⟩
    · refine w_aloadN X hx (dq hby d4_49) rfl rfl ?_
      refine w_iload X hx (dq hby d4_50) rfl ?_
      refine w_iload X hx (dq hby d4_52) rfl ?_
      refine w_iload X hx (dq hby d4_54) rfl ?_
      refine w_i2l X hx (dq hby d4_56) ?_
      refine w_callV X hx hZ eT hml (by rfl) hown (hw _ (List.mem_of_getElem? (i := 23) rfl)) (hw _ (List.mem_of_getElem? (i := 24) rfl)) (hw _ (List.mem_of_getElem? (i := 26) rfl)) (hw _ (List.mem_of_getElem? (i := 25) rfl)) (hw _ (List.mem_of_getElem? (i := 4) rfl)) (hw _ (List.mem_of_getElem? (i := 27) rfl)) (by decide) (ct5 l Z a0 hw x0 v6_12 v7_21 (x4.toInt64) n0 ar n ti g si h0 Z0 g_ar ne_x0_ar E_x0 F_offsets_x0 A_ar hti ht hsi hs) E_x0 (dq hby d4_57) pd_1 (argsL := [(.int v6_12), (.int v7_21), (.long (x4.toInt64))]) (rest := []) rfl rfl rfl (W := 0) rfl (by decide) (by decide) (by decide) (by decide) fun v T L X hQ => ?_
      generalize eT : T.heap = h1 at hQ
      obtain ⟨rfl, N', K', E_x0, F_offsets_x0, A_ar⟩ := hQ
      replace A_x1 := AV.keep A_x1 K' (ninS (Ne.symm ne_ar_x1) nin0)
      replace Z0 := Nat.le_trans Z0 K'.1
      replace K := K.trans K' (allS (Or.inl (List.mem_cons_self ..)) all0)
      replace N := Fr.app N N'
      obtain ⟨gk, hgk⟩ : ∃ gg, gg = upd g ti (cpv (g si) (x4.toInt64)) := ⟨_, rfl⟩
      rw [← hgk] at A_ar
      refine w_aloadN X hx (dq hby d4_60) rfl rfl ?_
      refine w_iload X hx (dq hby d4_61) rfl ?_
      refine w_aloadN X hx (dq hby d4_63) rfl rfl ?_
      refine w_iload X hx (dq hby d4_64) rfl ?_
      refine w_zaload X hx hZ eT A_x1 (i := si) (hsi) (by omega) (z := (f si)) (rfl) (dq hby d4_66) ?_
      refine w_zastore X hx hZ eT A_x1 (i := ti) (hti) (by omega) (dq hby d4_67) fun T h2 X eT W A' => ?_
      replace F_offsets_x0 := Fld.other W F_offsets_x0 (Or.inl ne_x0_x1)
      replace E_x0 := Exa.wr W E_x0
      replace A_ar := AV.other A_ar W ne_ar_x1
      replace Z0 := Nat.le_trans Z0 (Nat.le_of_eq W.size.symm)
      replace K := K.wr W (Or.inl (List.mem_cons_of_mem _ (List.mem_singleton.mpr rfl)))
      replace N := Fr.snoc X N g_x1
      replace A_x1 := A'
      obtain ⟨g4_67, hg4_67⟩ : ∃ gg, gg = (upd f ti ((f si) &&& 1)) := ⟨_, rfl⟩
      rw [← hg4_67] at A_x1
      refine w_ret X hx hret hlk (dq hby d4_68) (by decide) (by decide) ?_
      rw [eT]
      exact ⟨rfl, N, K, E_x0, F_offsets_x0, _, _, A_ar, A_x1, by rw [hgk, hg4_67]; exact hI.copy ht hs hb x4⟩
  · refine w_aloadN X hx (dq hby d4_29) rfl rfl ?_
    refine w_iload X hx (dq hby d4_30) rfl ?_
    refine w_callV X hx hZ eT hml (by rfl) hown (hw _ (List.mem_of_getElem? (i := 28) rfl)) (hw _ (List.mem_of_getElem? (i := 29) rfl)) (hw _ (List.mem_of_getElem? (i := 31) rfl)) (hw _ (List.mem_of_getElem? (i := 30) rfl)) (hw _ (List.mem_of_getElem? (i := 4) rfl)) (hw _ (List.mem_of_getElem? (i := 32) rfl)) (by decide) (ct6 l Z a0 hw x0 v6_12 n0 ar n ti g h0 Z0 g_ar ne_x0_ar E_x0 F_offsets_x0 A_ar hti ht) E_x0 (dq hby d4_32) pd_2 (argsL := [(.int v6_12)]) (rest := []) rfl rfl rfl (W := 0) rfl (by decide) (by decide) (by decide) (by decide) fun v T L X hQ => ?_
    generalize eT : T.heap = h3 at hQ
    obtain ⟨rfl, N', K', E_x0, F_offsets_x0, A_ar⟩ := hQ
    replace A_x1 := AV.keep A_x1 K' (ninS (Ne.symm ne_ar_x1) nin0)
    replace Z0 := Nat.le_trans Z0 K'.1
    replace K := K.trans K' (allS (Or.inl (List.mem_cons_self ..)) all0)
    replace N := Fr.app N N'
    obtain ⟨gs, hgs⟩ : ∃ gg, gg = upd g ti (-9223372036854775808 : Int64) := ⟨_, rfl⟩
    rw [← hgs] at A_ar
    refine w_aloadN X hx (dq hby d4_35) rfl rfl ?_
    refine w_iload X hx (dq hby d4_36) rfl ?_
    refine w_iconst X hx (dq hby d4_38) (z := 0) rfl ?_
    refine w_zastore X hx hZ eT A_x1 (i := ti) (hti) (by omega) (dq hby d4_39) fun T h4 X eT W A' => ?_
    replace F_offsets_x0 := Fld.other W F_offsets_x0 (Or.inl ne_x0_x1)
    replace E_x0 := Exa.wr W E_x0
    replace A_ar := AV.other A_ar W ne_ar_x1
    replace Z0 := Nat.le_trans Z0 (Nat.le_of_eq W.size.symm)
    replace K := K.wr W (Or.inl (List.mem_cons_of_mem _ (List.mem_singleton.mpr rfl)))
    replace N := Fr.snoc X N g_x1
    replace A_x1 := A'
    obtain ⟨g4_39, hg4_39⟩ : ∃ gg, gg = (upd f ti ((0 : Int32) &&& 1)) := ⟨_, rfl⟩
    rw [← hg4_39] at A_x1
    refine w_goto X hx (dj hby d4_40) ?_
    refine w_ret X hx hret hlk (dq hby d4_68) (by decide) (by decide) ?_
    rw [eT]
    exact ⟨rfl, N, K, E_x0, F_offsets_x0, _, _, A_ar, A_x1, by rw [hgs, hg4_39]; exact (hI.set ht hn1.2).mono (by omega)⟩
set_option maxRecDepth 65536 in
set_option maxHeartbeats 40000000 in
theorem lost1 (l : Launch) (Z : State) (a0 : Array Value) (hw : ∀ d ∈ tables_1, d.before a0 Z = true) (x0 ar : Addr) (g : Nat → Int64) (r : Int32) (h0 : Heap) (F_offsets_x0 : Fld Z h0 x0 "com/example/rough_grain/roughgrain/analysis/CarriedValue" "offsets" "[J" (.ref ar)) (A_ar : AV Z h0 ar .long 1 (lF g)) (h1 : (∀ i, i < 1 → g i = -9223372036854775808) → r = 1) (h2 : ∀ i, i < 1 → g i ≠ -9223372036854775808 → r = 0) :
    Ct l Z (⟨"com/example/rough_grain/roughgrain/analysis/CarriedValue", "isLost", "()Z"⟩ : MethodName) prog_8_method_5_code 6 (some .boolean) ({ frames := 0, cells := 0, slots := 0, locals := 0 } : Room) #[(.ref x0)] h0 (fun v h' L => v = some (.int r) ∧ h' = h0 ∧ L = []) := by
  refine Ct.body pn_7 ?_
  intro p e s m below meth c T X hx hby hml hown hnm hret hlk hZ eT
  rw [ef_7]

  refine w_aloadN X hx (dq hby d7_0) rfl rfl ?_
  refine w_getf X hx hZ eT hown (hw _ (List.mem_of_getElem? (i := 12) rfl)) F_offsets_x0 (dq hby d7_1) fun T X eT => ?_
  refine w_astoreN X hx (dq hby d7_4) rfl (Ls' := #[.val (.ref x0), .val (.ref ar), .unset, .unset, .unset, .unset]) rfl ?_
  refine w_aloadN X hx (dq hby d7_5) rfl rfl ?_
  refine w_arrlen X hx hZ eT A_ar (z := (1 : Int32)) (rfl) (dq hby d7_6) ?_
  refine w_istoreN X hx (dq hby d7_7) (z := (1 : Int32)) rfl (Ls' := #[.val (.ref x0), .val (.ref ar), .val (.int (1 : Int32)), .unset, .unset, .unset]) rfl ?_
  refine w_iconst X hx (dq hby d7_8) (z := 0) rfl ?_
  refine w_istoreN X hx (dq hby d7_9) (z := (0 : Int32)) rfl (Ls' := #[.val (.ref x0), .val (.ref ar), .val (.int (1 : Int32)), .val (.int (0 : Int32)), .unset, .unset]) rfl ?_
  refine w_iloadN X hx (dq hby d7_10) rfl ?_
  refine w_iloadN X hx (dq hby d7_11) rfl ?_
  refine w_icmp_ge X hx (dj hby d7_12) (fun hc12 => (?_ : False).elim) (fun hc12 => ?_)
  · exact absurd hc12 (by decide)
  refine w_aloadN X hx (dq hby d7_15) rfl rfl ?_
  refine w_iloadN X hx (dq hby d7_16) rfl ?_
  refine w_laload X hx hZ eT A_ar (i := 0) (rfl) (by decide) (z := (g 0)) (rfl) (dq hby d7_17) ?_
  refine w_lstore X hx (dq hby d7_18) (z := (g 0)) rfl (Ls' := #[.val (.ref x0), .val (.ref ar), .val (.int (1 : Int32)), .val (.int (0 : Int32)), .val (.long (g 0)), .second]) rfl ?_
  refine w_lload X hx (dq hby d7_20) rfl ?_
  refine w_ldc2 X hx hZ hown (hw _ (List.mem_of_getElem? (i := 14) rfl)) (dq hby d7_22) ?_
  refine w_lcmp_eq X hx (dq hby d7_25) (dj hby d7_26) (fun hc26 => ?_) (fun hc26 => ?_)
  · refine w_iinc X hx (dq hby d7_31) rfl (z := (1 : Int32)) (by decide) (Ls' := #[.val (.ref x0), .val (.ref ar), .val (.int (1 : Int32)), .val (.int (1 : Int32)), .val (.long (g 0)), .second]) rfl ?_
    refine w_goto X hx (dj hby d7_34) ?_
    refine w_iloadN X hx (dq hby d7_10) rfl ?_
    refine w_iloadN X hx (dq hby d7_11) rfl ?_
    refine w_icmp_ge X hx (dj hby d7_12) (fun hc12 => ?_) (fun hc12 => (?_ : False).elim)
    rotate_left
    · exact absurd hc12 (by decide)
    refine w_iconst X hx (dq hby d7_37) (z := 1) rfl ?_
    refine w_retN X hx hret (by simp) hlk (dq hby d7_38) (by decide) (by decide) ?_
    exact ⟨by rw [h1 (fun i hi => by rcases (show i = 0 by omega) with rfl <;> assumption)]; rfl, eT, rfl⟩
  · refine w_iconst X hx (dq hby d7_29) (z := 0) rfl ?_
    refine w_retN X hx hret (by simp) hlk (dq hby d7_30) (by decide) (by decide) ?_
    exact ⟨by rw [h2 0 (by decide) hc26]; rfl, eT, rfl⟩
set_option maxRecDepth 65536 in
set_option maxHeartbeats 40000000 in
theorem lost2 (l : Launch) (Z : State) (a0 : Array Value) (hw : ∀ d ∈ tables_1, d.before a0 Z = true) (x0 ar : Addr) (g : Nat → Int64) (r : Int32) (h0 : Heap) (F_offsets_x0 : Fld Z h0 x0 "com/example/rough_grain/roughgrain/analysis/CarriedValue" "offsets" "[J" (.ref ar)) (A_ar : AV Z h0 ar .long 2 (lF g)) (h1 : (∀ i, i < 2 → g i = -9223372036854775808) → r = 1) (h2 : ∀ i, i < 2 → g i ≠ -9223372036854775808 → r = 0) :
    Ct l Z (⟨"com/example/rough_grain/roughgrain/analysis/CarriedValue", "isLost", "()Z"⟩ : MethodName) prog_8_method_5_code 6 (some .boolean) ({ frames := 0, cells := 0, slots := 0, locals := 0 } : Room) #[(.ref x0)] h0 (fun v h' L => v = some (.int r) ∧ h' = h0 ∧ L = []) := by
  refine Ct.body pn_7 ?_
  intro p e s m below meth c T X hx hby hml hown hnm hret hlk hZ eT
  rw [ef_7]

  refine w_aloadN X hx (dq hby d7_0) rfl rfl ?_
  refine w_getf X hx hZ eT hown (hw _ (List.mem_of_getElem? (i := 12) rfl)) F_offsets_x0 (dq hby d7_1) fun T X eT => ?_
  refine w_astoreN X hx (dq hby d7_4) rfl (Ls' := #[.val (.ref x0), .val (.ref ar), .unset, .unset, .unset, .unset]) rfl ?_
  refine w_aloadN X hx (dq hby d7_5) rfl rfl ?_
  refine w_arrlen X hx hZ eT A_ar (z := (2 : Int32)) (rfl) (dq hby d7_6) ?_
  refine w_istoreN X hx (dq hby d7_7) (z := (2 : Int32)) rfl (Ls' := #[.val (.ref x0), .val (.ref ar), .val (.int (2 : Int32)), .unset, .unset, .unset]) rfl ?_
  refine w_iconst X hx (dq hby d7_8) (z := 0) rfl ?_
  refine w_istoreN X hx (dq hby d7_9) (z := (0 : Int32)) rfl (Ls' := #[.val (.ref x0), .val (.ref ar), .val (.int (2 : Int32)), .val (.int (0 : Int32)), .unset, .unset]) rfl ?_
  refine w_iloadN X hx (dq hby d7_10) rfl ?_
  refine w_iloadN X hx (dq hby d7_11) rfl ?_
  refine w_icmp_ge X hx (dj hby d7_12) (fun hc12 => (?_ : False).elim) (fun hc12 => ?_)
  · exact absurd hc12 (by decide)
  refine w_aloadN X hx (dq hby d7_15) rfl rfl ?_
  refine w_iloadN X hx (dq hby d7_16) rfl ?_
  refine w_laload X hx hZ eT A_ar (i := 0) (rfl) (by decide) (z := (g 0)) (rfl) (dq hby d7_17) ?_
  refine w_lstore X hx (dq hby d7_18) (z := (g 0)) rfl (Ls' := #[.val (.ref x0), .val (.ref ar), .val (.int (2 : Int32)), .val (.int (0 : Int32)), .val (.long (g 0)), .second]) rfl ?_
  refine w_lload X hx (dq hby d7_20) rfl ?_
  refine w_ldc2 X hx hZ hown (hw _ (List.mem_of_getElem? (i := 14) rfl)) (dq hby d7_22) ?_
  refine w_lcmp_eq X hx (dq hby d7_25) (dj hby d7_26) (fun hc26 => ?_) (fun hc26 => ?_)
  · refine w_iinc X hx (dq hby d7_31) rfl (z := (1 : Int32)) (by decide) (Ls' := #[.val (.ref x0), .val (.ref ar), .val (.int (2 : Int32)), .val (.int (1 : Int32)), .val (.long (g 0)), .second]) rfl ?_
    refine w_goto X hx (dj hby d7_34) ?_
    refine w_iloadN X hx (dq hby d7_10) rfl ?_
    refine w_iloadN X hx (dq hby d7_11) rfl ?_
    refine w_icmp_ge X hx (dj hby d7_12) (fun hc12 => (?_ : False).elim) (fun hc12 => ?_)
    · exact absurd hc12 (by decide)
    refine w_aloadN X hx (dq hby d7_15) rfl rfl ?_
    refine w_iloadN X hx (dq hby d7_16) rfl ?_
    refine w_laload X hx hZ eT A_ar (i := 1) (rfl) (by decide) (z := (g 1)) (rfl) (dq hby d7_17) ?_
    refine w_lstore X hx (dq hby d7_18) (z := (g 1)) rfl (Ls' := #[.val (.ref x0), .val (.ref ar), .val (.int (2 : Int32)), .val (.int (1 : Int32)), .val (.long (g 1)), .second]) rfl ?_
    refine w_lload X hx (dq hby d7_20) rfl ?_
    refine w_ldc2 X hx hZ hown (hw _ (List.mem_of_getElem? (i := 14) rfl)) (dq hby d7_22) ?_
    refine w_lcmp_eq X hx (dq hby d7_25) (dj hby d7_26) (fun hc26 => ?_) (fun hc26 => ?_)
    · refine w_iinc X hx (dq hby d7_31) rfl (z := (2 : Int32)) (by decide) (Ls' := #[.val (.ref x0), .val (.ref ar), .val (.int (2 : Int32)), .val (.int (2 : Int32)), .val (.long (g 1)), .second]) rfl ?_
      refine w_goto X hx (dj hby d7_34) ?_
      refine w_iloadN X hx (dq hby d7_10) rfl ?_
      refine w_iloadN X hx (dq hby d7_11) rfl ?_
      refine w_icmp_ge X hx (dj hby d7_12) (fun hc12 => ?_) (fun hc12 => (?_ : False).elim)
      rotate_left
      · exact absurd hc12 (by decide)
      refine w_iconst X hx (dq hby d7_37) (z := 1) rfl ?_
      refine w_retN X hx hret (by simp) hlk (dq hby d7_38) (by decide) (by decide) ?_
      exact ⟨by rw [h1 (fun i hi => by rcases (show i = 0 ∨ i = 1 by omega) with rfl | rfl <;> assumption)]; rfl, eT, rfl⟩
    · refine w_iconst X hx (dq hby d7_29) (z := 0) rfl ?_
      refine w_retN X hx hret (by simp) hlk (dq hby d7_30) (by decide) (by decide) ?_
      exact ⟨by rw [h2 1 (by decide) hc26]; rfl, eT, rfl⟩
  · refine w_iconst X hx (dq hby d7_29) (z := 0) rfl ?_
    refine w_retN X hx hret (by simp) hlk (dq hby d7_30) (by decide) (by decide) ?_
    exact ⟨by rw [h2 0 (by decide) hc26]; rfl, eT, rfl⟩
set_option maxRecDepth 65536 in
set_option maxHeartbeats 40000000 in
theorem lost3 (l : Launch) (Z : State) (a0 : Array Value) (hw : ∀ d ∈ tables_1, d.before a0 Z = true) (x0 ar : Addr) (g : Nat → Int64) (r : Int32) (h0 : Heap) (F_offsets_x0 : Fld Z h0 x0 "com/example/rough_grain/roughgrain/analysis/CarriedValue" "offsets" "[J" (.ref ar)) (A_ar : AV Z h0 ar .long 3 (lF g)) (h1 : (∀ i, i < 3 → g i = -9223372036854775808) → r = 1) (h2 : ∀ i, i < 3 → g i ≠ -9223372036854775808 → r = 0) :
    Ct l Z (⟨"com/example/rough_grain/roughgrain/analysis/CarriedValue", "isLost", "()Z"⟩ : MethodName) prog_8_method_5_code 6 (some .boolean) ({ frames := 0, cells := 0, slots := 0, locals := 0 } : Room) #[(.ref x0)] h0 (fun v h' L => v = some (.int r) ∧ h' = h0 ∧ L = []) := by
  refine Ct.body pn_7 ?_
  intro p e s m below meth c T X hx hby hml hown hnm hret hlk hZ eT
  rw [ef_7]

  refine w_aloadN X hx (dq hby d7_0) rfl rfl ?_
  refine w_getf X hx hZ eT hown (hw _ (List.mem_of_getElem? (i := 12) rfl)) F_offsets_x0 (dq hby d7_1) fun T X eT => ?_
  refine w_astoreN X hx (dq hby d7_4) rfl (Ls' := #[.val (.ref x0), .val (.ref ar), .unset, .unset, .unset, .unset]) rfl ?_
  refine w_aloadN X hx (dq hby d7_5) rfl rfl ?_
  refine w_arrlen X hx hZ eT A_ar (z := (3 : Int32)) (rfl) (dq hby d7_6) ?_
  refine w_istoreN X hx (dq hby d7_7) (z := (3 : Int32)) rfl (Ls' := #[.val (.ref x0), .val (.ref ar), .val (.int (3 : Int32)), .unset, .unset, .unset]) rfl ?_
  refine w_iconst X hx (dq hby d7_8) (z := 0) rfl ?_
  refine w_istoreN X hx (dq hby d7_9) (z := (0 : Int32)) rfl (Ls' := #[.val (.ref x0), .val (.ref ar), .val (.int (3 : Int32)), .val (.int (0 : Int32)), .unset, .unset]) rfl ?_
  refine w_iloadN X hx (dq hby d7_10) rfl ?_
  refine w_iloadN X hx (dq hby d7_11) rfl ?_
  refine w_icmp_ge X hx (dj hby d7_12) (fun hc12 => (?_ : False).elim) (fun hc12 => ?_)
  · exact absurd hc12 (by decide)
  refine w_aloadN X hx (dq hby d7_15) rfl rfl ?_
  refine w_iloadN X hx (dq hby d7_16) rfl ?_
  refine w_laload X hx hZ eT A_ar (i := 0) (rfl) (by decide) (z := (g 0)) (rfl) (dq hby d7_17) ?_
  refine w_lstore X hx (dq hby d7_18) (z := (g 0)) rfl (Ls' := #[.val (.ref x0), .val (.ref ar), .val (.int (3 : Int32)), .val (.int (0 : Int32)), .val (.long (g 0)), .second]) rfl ?_
  refine w_lload X hx (dq hby d7_20) rfl ?_
  refine w_ldc2 X hx hZ hown (hw _ (List.mem_of_getElem? (i := 14) rfl)) (dq hby d7_22) ?_
  refine w_lcmp_eq X hx (dq hby d7_25) (dj hby d7_26) (fun hc26 => ?_) (fun hc26 => ?_)
  · refine w_iinc X hx (dq hby d7_31) rfl (z := (1 : Int32)) (by decide) (Ls' := #[.val (.ref x0), .val (.ref ar), .val (.int (3 : Int32)), .val (.int (1 : Int32)), .val (.long (g 0)), .second]) rfl ?_
    refine w_goto X hx (dj hby d7_34) ?_
    refine w_iloadN X hx (dq hby d7_10) rfl ?_
    refine w_iloadN X hx (dq hby d7_11) rfl ?_
    refine w_icmp_ge X hx (dj hby d7_12) (fun hc12 => (?_ : False).elim) (fun hc12 => ?_)
    · exact absurd hc12 (by decide)
    refine w_aloadN X hx (dq hby d7_15) rfl rfl ?_
    refine w_iloadN X hx (dq hby d7_16) rfl ?_
    refine w_laload X hx hZ eT A_ar (i := 1) (rfl) (by decide) (z := (g 1)) (rfl) (dq hby d7_17) ?_
    refine w_lstore X hx (dq hby d7_18) (z := (g 1)) rfl (Ls' := #[.val (.ref x0), .val (.ref ar), .val (.int (3 : Int32)), .val (.int (1 : Int32)), .val (.long (g 1)), .second]) rfl ?_
    refine w_lload X hx (dq hby d7_20) rfl ?_
    refine w_ldc2 X hx hZ hown (hw _ (List.mem_of_getElem? (i := 14) rfl)) (dq hby d7_22) ?_
    refine w_lcmp_eq X hx (dq hby d7_25) (dj hby d7_26) (fun hc26 => ?_) (fun hc26 => ?_)
    · refine w_iinc X hx (dq hby d7_31) rfl (z := (2 : Int32)) (by decide) (Ls' := #[.val (.ref x0), .val (.ref ar), .val (.int (3 : Int32)), .val (.int (2 : Int32)), .val (.long (g 1)), .second]) rfl ?_
      refine w_goto X hx (dj hby d7_34) ?_
      refine w_iloadN X hx (dq hby d7_10) rfl ?_
      refine w_iloadN X hx (dq hby d7_11) rfl ?_
      refine w_icmp_ge X hx (dj hby d7_12) (fun hc12 => (?_ : False).elim) (fun hc12 => ?_)
      · exact absurd hc12 (by decide)
      refine w_aloadN X hx (dq hby d7_15) rfl rfl ?_
      refine w_iloadN X hx (dq hby d7_16) rfl ?_
      refine w_laload X hx hZ eT A_ar (i := 2) (rfl) (by decide) (z := (g 2)) (rfl) (dq hby d7_17) ?_
      refine w_lstore X hx (dq hby d7_18) (z := (g 2)) rfl (Ls' := #[.val (.ref x0), .val (.ref ar), .val (.int (3 : Int32)), .val (.int (2 : Int32)), .val (.long (g 2)), .second]) rfl ?_
      refine w_lload X hx (dq hby d7_20) rfl ?_
      refine w_ldc2 X hx hZ hown (hw _ (List.mem_of_getElem? (i := 14) rfl)) (dq hby d7_22) ?_
      refine w_lcmp_eq X hx (dq hby d7_25) (dj hby d7_26) (fun hc26 => ?_) (fun hc26 => ?_)
      · refine w_iinc X hx (dq hby d7_31) rfl (z := (3 : Int32)) (by decide) (Ls' := #[.val (.ref x0), .val (.ref ar), .val (.int (3 : Int32)), .val (.int (3 : Int32)), .val (.long (g 2)), .second]) rfl ?_
        refine w_goto X hx (dj hby d7_34) ?_
        refine w_iloadN X hx (dq hby d7_10) rfl ?_
        refine w_iloadN X hx (dq hby d7_11) rfl ?_
        refine w_icmp_ge X hx (dj hby d7_12) (fun hc12 => ?_) (fun hc12 => (?_ : False).elim)
        rotate_left
        · exact absurd hc12 (by decide)
        refine w_iconst X hx (dq hby d7_37) (z := 1) rfl ?_
        refine w_retN X hx hret (by simp) hlk (dq hby d7_38) (by decide) (by decide) ?_
        exact ⟨by rw [h1 (fun i hi => by rcases (show i = 0 ∨ i = 1 ∨ i = 2 by omega) with rfl | rfl | rfl <;> assumption)]; rfl, eT, rfl⟩
      · refine w_iconst X hx (dq hby d7_29) (z := 0) rfl ?_
        refine w_retN X hx hret (by simp) hlk (dq hby d7_30) (by decide) (by decide) ?_
        exact ⟨by rw [h2 2 (by decide) hc26]; rfl, eT, rfl⟩
    · refine w_iconst X hx (dq hby d7_29) (z := 0) rfl ?_
      refine w_retN X hx hret (by simp) hlk (dq hby d7_30) (by decide) (by decide) ?_
      exact ⟨by rw [h2 1 (by decide) hc26]; rfl, eT, rfl⟩
  · refine w_iconst X hx (dq hby d7_29) (z := 0) rfl ?_
    refine w_retN X hx hret (by simp) hlk (dq hby d7_30) (by decide) (by decide) ?_
    exact ⟨by rw [h2 0 (by decide) hc26]; rfl, eT, rfl⟩
set_option maxRecDepth 65536 in
set_option maxHeartbeats 40000000 in
theorem lost4 (l : Launch) (Z : State) (a0 : Array Value) (hw : ∀ d ∈ tables_1, d.before a0 Z = true) (x0 ar : Addr) (g : Nat → Int64) (r : Int32) (h0 : Heap) (F_offsets_x0 : Fld Z h0 x0 "com/example/rough_grain/roughgrain/analysis/CarriedValue" "offsets" "[J" (.ref ar)) (A_ar : AV Z h0 ar .long 4 (lF g)) (h1 : (∀ i, i < 4 → g i = -9223372036854775808) → r = 1) (h2 : ∀ i, i < 4 → g i ≠ -9223372036854775808 → r = 0) :
    Ct l Z (⟨"com/example/rough_grain/roughgrain/analysis/CarriedValue", "isLost", "()Z"⟩ : MethodName) prog_8_method_5_code 6 (some .boolean) ({ frames := 0, cells := 0, slots := 0, locals := 0 } : Room) #[(.ref x0)] h0 (fun v h' L => v = some (.int r) ∧ h' = h0 ∧ L = []) := by
  refine Ct.body pn_7 ?_
  intro p e s m below meth c T X hx hby hml hown hnm hret hlk hZ eT
  rw [ef_7]

  refine w_aloadN X hx (dq hby d7_0) rfl rfl ?_
  refine w_getf X hx hZ eT hown (hw _ (List.mem_of_getElem? (i := 12) rfl)) F_offsets_x0 (dq hby d7_1) fun T X eT => ?_
  refine w_astoreN X hx (dq hby d7_4) rfl (Ls' := #[.val (.ref x0), .val (.ref ar), .unset, .unset, .unset, .unset]) rfl ?_
  refine w_aloadN X hx (dq hby d7_5) rfl rfl ?_
  refine w_arrlen X hx hZ eT A_ar (z := (4 : Int32)) (rfl) (dq hby d7_6) ?_
  refine w_istoreN X hx (dq hby d7_7) (z := (4 : Int32)) rfl (Ls' := #[.val (.ref x0), .val (.ref ar), .val (.int (4 : Int32)), .unset, .unset, .unset]) rfl ?_
  refine w_iconst X hx (dq hby d7_8) (z := 0) rfl ?_
  refine w_istoreN X hx (dq hby d7_9) (z := (0 : Int32)) rfl (Ls' := #[.val (.ref x0), .val (.ref ar), .val (.int (4 : Int32)), .val (.int (0 : Int32)), .unset, .unset]) rfl ?_
  refine w_iloadN X hx (dq hby d7_10) rfl ?_
  refine w_iloadN X hx (dq hby d7_11) rfl ?_
  refine w_icmp_ge X hx (dj hby d7_12) (fun hc12 => (?_ : False).elim) (fun hc12 => ?_)
  · exact absurd hc12 (by decide)
  refine w_aloadN X hx (dq hby d7_15) rfl rfl ?_
  refine w_iloadN X hx (dq hby d7_16) rfl ?_
  refine w_laload X hx hZ eT A_ar (i := 0) (rfl) (by decide) (z := (g 0)) (rfl) (dq hby d7_17) ?_
  refine w_lstore X hx (dq hby d7_18) (z := (g 0)) rfl (Ls' := #[.val (.ref x0), .val (.ref ar), .val (.int (4 : Int32)), .val (.int (0 : Int32)), .val (.long (g 0)), .second]) rfl ?_
  refine w_lload X hx (dq hby d7_20) rfl ?_
  refine w_ldc2 X hx hZ hown (hw _ (List.mem_of_getElem? (i := 14) rfl)) (dq hby d7_22) ?_
  refine w_lcmp_eq X hx (dq hby d7_25) (dj hby d7_26) (fun hc26 => ?_) (fun hc26 => ?_)
  · refine w_iinc X hx (dq hby d7_31) rfl (z := (1 : Int32)) (by decide) (Ls' := #[.val (.ref x0), .val (.ref ar), .val (.int (4 : Int32)), .val (.int (1 : Int32)), .val (.long (g 0)), .second]) rfl ?_
    refine w_goto X hx (dj hby d7_34) ?_
    refine w_iloadN X hx (dq hby d7_10) rfl ?_
    refine w_iloadN X hx (dq hby d7_11) rfl ?_
    refine w_icmp_ge X hx (dj hby d7_12) (fun hc12 => (?_ : False).elim) (fun hc12 => ?_)
    · exact absurd hc12 (by decide)
    refine w_aloadN X hx (dq hby d7_15) rfl rfl ?_
    refine w_iloadN X hx (dq hby d7_16) rfl ?_
    refine w_laload X hx hZ eT A_ar (i := 1) (rfl) (by decide) (z := (g 1)) (rfl) (dq hby d7_17) ?_
    refine w_lstore X hx (dq hby d7_18) (z := (g 1)) rfl (Ls' := #[.val (.ref x0), .val (.ref ar), .val (.int (4 : Int32)), .val (.int (1 : Int32)), .val (.long (g 1)), .second]) rfl ?_
    refine w_lload X hx (dq hby d7_20) rfl ?_
    refine w_ldc2 X hx hZ hown (hw _ (List.mem_of_getElem? (i := 14) rfl)) (dq hby d7_22) ?_
    refine w_lcmp_eq X hx (dq hby d7_25) (dj hby d7_26) (fun hc26 => ?_) (fun hc26 => ?_)
    · refine w_iinc X hx (dq hby d7_31) rfl (z := (2 : Int32)) (by decide) (Ls' := #[.val (.ref x0), .val (.ref ar), .val (.int (4 : Int32)), .val (.int (2 : Int32)), .val (.long (g 1)), .second]) rfl ?_
      refine w_goto X hx (dj hby d7_34) ?_
      refine w_iloadN X hx (dq hby d7_10) rfl ?_
      refine w_iloadN X hx (dq hby d7_11) rfl ?_
      refine w_icmp_ge X hx (dj hby d7_12) (fun hc12 => (?_ : False).elim) (fun hc12 => ?_)
      · exact absurd hc12 (by decide)
      refine w_aloadN X hx (dq hby d7_15) rfl rfl ?_
      refine w_iloadN X hx (dq hby d7_16) rfl ?_
      refine w_laload X hx hZ eT A_ar (i := 2) (rfl) (by decide) (z := (g 2)) (rfl) (dq hby d7_17) ?_
      refine w_lstore X hx (dq hby d7_18) (z := (g 2)) rfl (Ls' := #[.val (.ref x0), .val (.ref ar), .val (.int (4 : Int32)), .val (.int (2 : Int32)), .val (.long (g 2)), .second]) rfl ?_
      refine w_lload X hx (dq hby d7_20) rfl ?_
      refine w_ldc2 X hx hZ hown (hw _ (List.mem_of_getElem? (i := 14) rfl)) (dq hby d7_22) ?_
      refine w_lcmp_eq X hx (dq hby d7_25) (dj hby d7_26) (fun hc26 => ?_) (fun hc26 => ?_)
      · refine w_iinc X hx (dq hby d7_31) rfl (z := (3 : Int32)) (by decide) (Ls' := #[.val (.ref x0), .val (.ref ar), .val (.int (4 : Int32)), .val (.int (3 : Int32)), .val (.long (g 2)), .second]) rfl ?_
        refine w_goto X hx (dj hby d7_34) ?_
        refine w_iloadN X hx (dq hby d7_10) rfl ?_
        refine w_iloadN X hx (dq hby d7_11) rfl ?_
        refine w_icmp_ge X hx (dj hby d7_12) (fun hc12 => (?_ : False).elim) (fun hc12 => ?_)
        · exact absurd hc12 (by decide)
        refine w_aloadN X hx (dq hby d7_15) rfl rfl ?_
        refine w_iloadN X hx (dq hby d7_16) rfl ?_
        refine w_laload X hx hZ eT A_ar (i := 3) (rfl) (by decide) (z := (g 3)) (rfl) (dq hby d7_17) ?_
        refine w_lstore X hx (dq hby d7_18) (z := (g 3)) rfl (Ls' := #[.val (.ref x0), .val (.ref ar), .val (.int (4 : Int32)), .val (.int (3 : Int32)), .val (.long (g 3)), .second]) rfl ?_
        refine w_lload X hx (dq hby d7_20) rfl ?_
        refine w_ldc2 X hx hZ hown (hw _ (List.mem_of_getElem? (i := 14) rfl)) (dq hby d7_22) ?_
        refine w_lcmp_eq X hx (dq hby d7_25) (dj hby d7_26) (fun hc26 => ?_) (fun hc26 => ?_)
        · refine w_iinc X hx (dq hby d7_31) rfl (z := (4 : Int32)) (by decide) (Ls' := #[.val (.ref x0), .val (.ref ar), .val (.int (4 : Int32)), .val (.int (4 : Int32)), .val (.long (g 3)), .second]) rfl ?_
          refine w_goto X hx (dj hby d7_34) ?_
          refine w_iloadN X hx (dq hby d7_10) rfl ?_
          refine w_iloadN X hx (dq hby d7_11) rfl ?_
          refine w_icmp_ge X hx (dj hby d7_12) (fun hc12 => ?_) (fun hc12 => (?_ : False).elim)
          rotate_left
          · exact absurd hc12 (by decide)
          refine w_iconst X hx (dq hby d7_37) (z := 1) rfl ?_
          refine w_retN X hx hret (by simp) hlk (dq hby d7_38) (by decide) (by decide) ?_
          exact ⟨by rw [h1 (fun i hi => by rcases (show i = 0 ∨ i = 1 ∨ i = 2 ∨ i = 3 by omega) with rfl | rfl | rfl | rfl <;> assumption)]; rfl, eT, rfl⟩
        · refine w_iconst X hx (dq hby d7_29) (z := 0) rfl ?_
          refine w_retN X hx hret (by simp) hlk (dq hby d7_30) (by decide) (by decide) ?_
          exact ⟨by rw [h2 3 (by decide) hc26]; rfl, eT, rfl⟩
      · refine w_iconst X hx (dq hby d7_29) (z := 0) rfl ?_
        refine w_retN X hx hret (by simp) hlk (dq hby d7_30) (by decide) (by decide) ?_
        exact ⟨by rw [h2 2 (by decide) hc26]; rfl, eT, rfl⟩
    · refine w_iconst X hx (dq hby d7_29) (z := 0) rfl ?_
      refine w_retN X hx hret (by simp) hlk (dq hby d7_30) (by decide) (by decide) ?_
      exact ⟨by rw [h2 1 (by decide) hc26]; rfl, eT, rfl⟩
  · refine w_iconst X hx (dq hby d7_29) (z := 0) rfl ?_
    refine w_retN X hx hret (by simp) hlk (dq hby d7_30) (by decide) (by decide) ?_
    exact ⟨by rw [h2 0 (by decide) hc26]; rfl, eT, rfl⟩
theorem lost (l : Launch) (Z : State) (a0 : Array Value) (hw : ∀ d ∈ tables_1, d.before a0 Z = true) (x0 ar : Addr) (g : Nat → Int64) (r : Int32) (n : Nat) (hn : 1 ≤ n ∧ n ≤ 4) (h0 : Heap) (F_offsets_x0 : Fld Z h0 x0 "com/example/rough_grain/roughgrain/analysis/CarriedValue" "offsets" "[J" (.ref ar)) (A_ar : AV Z h0 ar .long n (lF g)) (h1 : (∀ i, i < n → g i = -9223372036854775808) → r = 1) (h2 : ∀ i, i < n → g i ≠ -9223372036854775808 → r = 0) :
    Ct l Z (⟨"com/example/rough_grain/roughgrain/analysis/CarriedValue", "isLost", "()Z"⟩ : MethodName) prog_8_method_5_code 6 (some .boolean) ({ frames := 0, cells := 0, slots := 0, locals := 0 } : Room) #[.ref x0] h0 (fun v h' L => v = some (.int r) ∧ h' = h0 ∧ L = []) := by
  rcases (show n = 1 ∨ n = 2 ∨ n = 3 ∨ n = 4 by omega) with rfl | rfl | rfl | rfl
  · exact lost1 l Z a0 hw x0 ar g r h0 F_offsets_x0 A_ar h1 h2
  · exact lost2 l Z a0 hw x0 ar g r h0 F_offsets_x0 A_ar h1 h2
  · exact lost3 l Z a0 hw x0 ar g r h0 F_offsets_x0 A_ar h1 h2
  · exact lost4 l Z a0 hw x0 ar g r h0 F_offsets_x0 A_ar h1 h2

theorem own_in {n : Nat} {b : Int} {g : Nat → Int64} {f : Nat → Int32} (q : Inv n b g f) {k : Nat} (hk : k < 4) (h : f k ≠ 0) : k < n := by
  rcases Nat.lt_or_ge k n with z | z
  · exact z
  · exact absurd (q.2 k z hk) h
theorem own_nm {n : Nat} {b : Int} {g : Nat → Int64} {f : Nat → Int32} (q : Inv n b g f) {k : Nat} (hb : b < 9223372036854775808) (hk : k < n) (h : f k ≠ 0) : g k ≠ -9223372036854775808 := fun e => by
  rcases q.1 k hk with z | z
  · exact h z.2
  · have := congrArg Int64.toInt e; rw [min_i] at this; omega
theorem own_all {n : Nat} {b : Int} {g : Nat → Int64} {f : Nat → Int32} (q : Inv n b g f) (hn : n ≤ 4) (h : f 0 = 0 ∧ f 1 = 0 ∧ f 2 = 0 ∧ f 3 = 0) : ∀ i, i < n → g i = -9223372036854775808 := fun i hi => by
  have hf : f i = 0 := by
    rcases (show i = 0 ∨ i = 1 ∨ i = 2 ∨ i = 3 by omega) with rfl | rfl | rfl | rfl
    · exact h.1
    · exact h.2.1
    · exact h.2.2.1
    · exact h.2.2.2
  rcases q.1 i hi with z | z
  · exact z.1
  · rw [z.1] at hf; exact absurd hf (by decide)

def Q0 (n0 : Nat) (v : Option Value) (h : Heap) (L : List Loc) : Prop := v = some (.int (1 : Int32)) ∧ Fr n0 L
set_option maxRecDepth 65536 in
set_option maxHeartbeats 40000000 in
theorem rm0 (l : Launch) (Z : State) (a0 : Array Value) (hw : ∀ d ∈ tables_1, d.before a0 Z = true) (ws : List Jvm.Cond) (i0 : Int32) (i1 : Int32) (i2 : Int32) (i3 : Int32) (i4 : Int32) (i5 : Int32) (h0 : Heap) (n0 : Nat) (Z0 : n0 ≤ h0.size) :
    MetFree l x (head1 (Jvm.Cond.code x code maxLocals ret :: ws) room_1) (fun a U => a = #[(.int i0), (.int i1), (.int i2), (.int i3), (.int i4), (.int i5)] ∧ Z.Warmed39 U.vm ∧ U.heap = h0) (fun _ _ _ _ _ => True) (fun _ U o U' => ∃ v L, o = .returned v ∧ Q0 n0 v U'.heap L ∧ FrameEnd U o U' L 16 128) := by
  refine w_body pn_0 ?_
  intro p e s m below meth c T X hx hby hml hown hnm hret hlk hZ eT
  rw [ef_0]
  have N := Fr.nil n0
  refine w_iloadN X hx (dq hby d0_0) rfl ?_
  refine w_iconst X hx (dq hby d0_1) (z := 3) rfl ?_
  refine w_iand X hx (dq hby d0_2) ?_
  refine w_iconst X hx (dq hby d0_3) (z := 1) rfl ?_
  refine w_iadd X hx (dq hby d0_4) ?_
  obtain ⟨v6_5, hv6_5⟩ : ∃ z : Int32, z = ((i0 &&& (3 : Int32)) + (1 : Int32)) := ⟨_, rfl⟩
  refine w_istore X hx (dq hby d0_5) (z := v6_5) hv6_5 (Ls' := #[.val (.int i0), .val (.int i1), .val (.int i2), .val (.int i3), .val (.int i4), .val (.int i5), .val (.int v6_5), .unset, .unset, .unset, .unset]) rfl ?_
  have m0 : (i0 &&& 3).toInt = i0.toInt % 2 ^ 2 := Jvm.Kit.i32_mask i0 3 (by decide) (by decide)
  have l1 : (1 : Int32).toInt = 1 := rfl
  have r6 : v6_5.toInt = i0.toInt % 2 ^ 2 + 1 := by rw [hv6_5, Jvm.Kit.i32_add] <;> rw [m0, l1] <;> omega
  obtain ⟨n, hn0⟩ : ∃ n : Nat, n = v6_5.toInt.toNat := ⟨_, rfl⟩
  have hn : v6_5.toInt = (n : Int) := by omega
  have hn1 : 1 ≤ n ∧ n ≤ 4 := by omega
  have nz : v6_5 ≠ 0 := fun q => by have := congrArg Int32.toInt q; rw [show (0 : Int32).toInt = 0 from rfl] at this; omega
  refine w_iloadN X hx (dq hby d0_7) rfl ?_
  refine w_ldc X hx hZ hown (hw _ (List.mem_of_getElem? (i := 0) rfl)) (dq hby d0_8) ?_
  refine w_iand X hx (dq hby d0_10) ?_
  refine w_iload X hx (dq hby d0_11) rfl ?_
  refine w_irem X hx (dq hby d0_13) (nz) ?_
  obtain ⟨v7_14, hv7_14⟩ : ∃ z : Int32, z = ((i1 &&& (2147483647 : Int32)) % v6_5) := ⟨_, rfl⟩
  refine w_istore X hx (dq hby d0_14) (z := v7_14) hv7_14 (Ls' := #[.val (.int i0), .val (.int i1), .val (.int i2), .val (.int i3), .val (.int i4), .val (.int i5), .val (.int v6_5), .val (.int v7_14), .unset, .unset, .unset]) rfl ?_
  have m1 : (i1 &&& 2147483647).toInt = i1.toInt % 2 ^ 31 := Jvm.Kit.i32_mask i1 2147483647 (by decide) (by decide)
  have r7 : v7_14.toInt = i1.toInt % 2 ^ 31 % n := by rw [hv7_14, Jvm.Kit.i32_rem_nonneg (by omega), m1, hn]
  have r7a := Int.emod_nonneg (i1.toInt % 2 ^ 31) (show (n : Int) ≠ 0 by omega)
  have r7b := Int.emod_lt_of_pos (i1.toInt % 2 ^ 31) (show (0 : Int) < n by omega)
  obtain ⟨kc, hkc0⟩ : ∃ k : Nat, k = v7_14.toInt.toNat := ⟨_, rfl⟩
  have hkc : v7_14.toInt = (kc : Int) := by omega
  have hkc2 : kc < n := by omega
  refine w_iconst X hx (dq hby d0_16) (z := 4) rfl ?_
  refine w_newarr X hx hZ eT (aty := .boolean) (hw _ (List.mem_of_getElem? (i := 1) rfl)) (dq hby d0_17) (n := 4) (cap := 4) (rfl) ((by decide)) (by decide) (by decide) (by decide) fun T h1 b17 hb_b17 X eT EX A_b17 => ?_
  have g_b17 : n0 ≤ b17 := by omega
  replace Z0 := Nat.le_trans Z0 EX.1
  replace A_b17 : AV Z h1 b17 .boolean 4 (iF (fun _ => (0 : Int32))) := A_b17
  refine w_astore X hx (dq hby d0_19) rfl (Ls' := #[.val (.int i0), .val (.int i1), .val (.int i2), .val (.int i3), .val (.int i4), .val (.int i5), .val (.int v6_5), .val (.int v7_14), .val (.ref b17), .unset, .unset]) rfl ?_
  refine w_new X hx hZ eT hown (hw _ (List.mem_of_getElem? (i := 2) rfl)) (hw _ (List.mem_of_getElem? (i := 3) rfl)) (hw _ (List.mem_of_getElem? (i := 4) rfl)) (dq hby d0_21) (by decide) (by decide) fun T h2 b21 hb_b21 X eT EX E_b21 D_b21 => ?_
  have ne_b17_b21 : b17 ≠ b21 := by rw [hb_b21]; exact Nat.ne_of_lt A_b17.lt
  have g_b21 : n0 ≤ b21 := by omega
  replace A_b17 := AV.ext A_b17 EX
  replace Z0 := Nat.le_trans Z0 EX.1
  have F_offsets_b21 : Fld Z h2 b21 "com/example/rough_grain/roughgrain/analysis/CarriedValue" "offsets" "[J" .null := D_b21 (Or.inr (hw _ (List.mem_of_getElem? (i := 13) rfl))) (ty := (.array .long)) (by decide)
  refine w_dup X hx (dq hby d0_24) rfl ?_
  refine w_iload X hx (dq hby d0_25) rfl ?_
  refine w_iload X hx (dq hby d0_27) rfl ?_
  refine w_callI X hx hZ eT hml (by rfl) hown rfl (hw _ (List.mem_of_getElem? (i := 5) rfl)) (hw _ (List.mem_of_getElem? (i := 6) rfl)) (hw _ (List.mem_of_getElem? (i := 4) rfl)) (hw _ (List.mem_of_getElem? (i := 7) rfl)) (by decide) (ct1 l Z a0 hw b21 v6_5 v7_14 n0 n kc h2 Z0 g_b21 E_b21 F_offsets_b21 hn (by omega) hkc hkc2) (b := b21) (dq hby d0_29) pd_3 (argsL := [(.int v6_5), (.int v7_14)]) (rest := [(.ref b21)]) rfl rfl rfl (W := 1) rfl (by decide) (by decide) (by decide) (by decide) fun v T L X hQ => ?_
  generalize eT : T.heap = h3 at hQ
  have ne_aux_b17 := A_b17.lt
  obtain ⟨rfl, N', K', E_b21, ar, g_ar, ne_b21_ar, ge_ar, F_offsets_b21, A_ar⟩ := hQ
  replace A_b17 := AV.keep A_b17 K' (ninS ne_b17_b21 nin0)
  replace Z0 := Nat.le_trans Z0 K'.1
  replace N := Fr.app N N'
  have ne_b17_ar : b17 ≠ ar := Nat.ne_of_lt (Nat.lt_of_lt_of_le ne_aux_b17 ge_ar)
  refine w_astore X hx (dq hby d0_32) rfl (Ls' := #[.val (.int i0), .val (.int i1), .val (.int i2), .val (.int i3), .val (.int i4), .val (.int i5), .val (.int v6_5), .val (.int v7_14), .val (.ref b17), .val (.ref b21), .unset]) rfl ?_
  refine w_aload X hx (dq hby d0_34) rfl rfl ?_
  refine w_iload X hx (dq hby d0_36) rfl ?_
  refine w_iconst X hx (dq hby d0_38) (z := 1) rfl ?_
  refine w_zastore X hx hZ eT A_b17 (i := kc) (hkc) (by omega) (dq hby d0_39) fun T h4 X eT W A' => ?_
  replace F_offsets_b21 := Fld.other W F_offsets_b21 (Or.inl (Ne.symm ne_b17_b21))
  replace E_b21 := Exa.wr W E_b21
  replace A_ar := AV.other A_ar W (Ne.symm ne_b17_ar)
  replace Z0 := Nat.le_trans Z0 (Nat.le_of_eq W.size.symm)
  replace N := Fr.snoc X N g_b17
  replace A_b17 := A'
  obtain ⟨g0_39, hg0_39⟩ : ∃ gg, gg = (upd (fun _ => (0 : Int32)) kc ((1 : Int32) &&& 1)) := ⟨_, rfl⟩
  rw [← hg0_39] at A_b17
  have hI : Inv n 0 (upd (fun _ => (-9223372036854775808 : Int64)) kc 0) g0_39 := by
    refine ⟨fun i hi => ?_, fun i h1 h2 => ?_⟩
    · rw [hg0_39]; by_cases e : i = kc
      · subst e; rw [upd_at, upd_at]; exact Or.inr ⟨rfl, by decide, by decide⟩
      · rw [upd_ne _ _ e, upd_ne _ _ e]; exact Or.inl ⟨rfl, rfl⟩
    · rw [hg0_39, upd_ne _ _ (by omega)]
  refine w_aload X hx (dq hby d0_40) rfl rfl ?_
  refine w_aload X hx (dq hby d0_42) rfl rfl ?_
  refine w_iload X hx (dq hby d0_44) rfl ?_
  refine w_iloadN X hx (dq hby d0_46) rfl ?_
  refine w_iload X hx (dq hby d0_47) rfl ?_
  refine w_callS X hx hZ eT hml (by rfl) hown (hw _ (List.mem_of_getElem? (i := 19) rfl)) (hw _ (List.mem_of_getElem? (i := 20) rfl)) (hw _ (List.mem_of_getElem? (i := 21) rfl)) (hw _ (List.mem_of_getElem? (i := 22) rfl)) (by decide) (ct4 l Z a0 hw b21 b17 v6_5 i2 i5 n0 ar n (upd (fun _ => (-9223372036854775808 : Int64)) kc 0) g0_39 0 h4 Z0 g_ar g_b17 ne_b21_ar (Ne.symm ne_b17_b21) (Ne.symm ne_b17_ar) E_b21 F_offsets_b21 A_ar A_b17 hn hn1 hI (by decide) (by decide)) (dq hby d0_49) pd_4 (argsL := [(.ref b21), (.ref b17), (.int v6_5), (.int i2), (.int i5)]) (rest := []) rfl rfl rfl (W := 0) rfl (by decide) (by decide) (by decide) (by decide) fun v T L X hQ => ?_
  generalize eT : T.heap = h5 at hQ
  obtain ⟨rfl, N', K', E_b21, F_offsets_b21, g1, f1, A_ar, A_b17, hI⟩ := hQ
  replace Z0 := Nat.le_trans Z0 K'.1
  replace N := Fr.app N N'
  refine w_aload X hx (dq hby d0_52) rfl rfl ?_
  refine w_aload X hx (dq hby d0_54) rfl rfl ?_
  refine w_iload X hx (dq hby d0_56) rfl ?_
  refine w_iloadN X hx (dq hby d0_58) rfl ?_
  refine w_iload X hx (dq hby d0_59) rfl ?_
  refine w_callS X hx hZ eT hml (by rfl) hown (hw _ (List.mem_of_getElem? (i := 19) rfl)) (hw _ (List.mem_of_getElem? (i := 20) rfl)) (hw _ (List.mem_of_getElem? (i := 21) rfl)) (hw _ (List.mem_of_getElem? (i := 22) rfl)) (by decide) (ct4 l Z a0 hw b21 b17 v6_5 i3 i5 n0 ar n g1 f1 (0 + 2147483648) h5 Z0 g_ar g_b17 ne_b21_ar (Ne.symm ne_b17_b21) (Ne.symm ne_b17_ar) E_b21 F_offsets_b21 A_ar A_b17 hn hn1 hI (by decide) (by decide)) (dq hby d0_61) pd_4 (argsL := [(.ref b21), (.ref b17), (.int v6_5), (.int i3), (.int i5)]) (rest := []) rfl rfl rfl (W := 0) rfl (by decide) (by decide) (by decide) (by decide) fun v T L X hQ => ?_
  generalize eT : T.heap = h6 at hQ
  obtain ⟨rfl, N', K', E_b21, F_offsets_b21, g2, f2, A_ar, A_b17, hI⟩ := hQ
  replace Z0 := Nat.le_trans Z0 K'.1
  replace N := Fr.app N N'
  refine w_aload X hx (dq hby d0_64) rfl rfl ?_
  refine w_aload X hx (dq hby d0_66) rfl rfl ?_
  refine w_iload X hx (dq hby d0_68) rfl ?_
  refine w_iload X hx (dq hby d0_70) rfl ?_
  refine w_iload X hx (dq hby d0_72) rfl ?_
  refine w_callS X hx hZ eT hml (by rfl) hown (hw _ (List.mem_of_getElem? (i := 19) rfl)) (hw _ (List.mem_of_getElem? (i := 20) rfl)) (hw _ (List.mem_of_getElem? (i := 21) rfl)) (hw _ (List.mem_of_getElem? (i := 22) rfl)) (by decide) (ct4 l Z a0 hw b21 b17 v6_5 i4 i5 n0 ar n g2 f2 (0 + 2147483648 + 2147483648) h6 Z0 g_ar g_b17 ne_b21_ar (Ne.symm ne_b17_b21) (Ne.symm ne_b17_ar) E_b21 F_offsets_b21 A_ar A_b17 hn hn1 hI (by decide) (by decide)) (dq hby d0_74) pd_4 (argsL := [(.ref b21), (.ref b17), (.int v6_5), (.int i4), (.int i5)]) (rest := []) rfl rfl rfl (W := 0) rfl (by decide) (by decide) (by decide) (by decide) fun v T L X hQ => ?_
  generalize eT : T.heap = h7 at hQ
  obtain ⟨rfl, N', K', E_b21, F_offsets_b21, g3, f3, A_ar, A_b17, hI⟩ := hQ
  replace Z0 := Nat.le_trans Z0 K'.1
  replace N := Fr.app N N'
  refine w_aload X hx (dq hby d0_77) rfl rfl ?_
  refine w_iconst X hx (dq hby d0_79) (z := 0) rfl ?_
  refine w_zaload X hx hZ eT A_b17 (i := 0) (rfl) (by decide) (z := (f3 0)) (rfl) (dq hby d0_80) ?_
  refine w_if_ne X hx (dj hby d0_81) (fun hc81 => ?_) (fun hc81 => ?_)
  · refine w_iconst X hx (dq hby d0_109) (z := 0) rfl ?_
    refine w_istore X hx (dq hby d0_110) (z := (0 : Int32)) rfl (Ls' := #[.val (.int i0), .val (.int i1), .val (.int i2), .val (.int i3), .val (.int i4), .val (.int i5), .val (.int v6_5), .val (.int v7_14), .val (.ref b17), .val (.ref b21), .val (.int (0 : Int32))]) rfl ?_
    refine w_aload X hx (dq hby d0_112) rfl rfl ?_
    refine w_callVP X hx hZ eT hml (by rfl) hown (hw _ (List.mem_of_getElem? (i := 33) rfl)) (hw _ (List.mem_of_getElem? (i := 34) rfl)) (hw _ (List.mem_of_getElem? (i := 36) rfl)) (hw _ (List.mem_of_getElem? (i := 35) rfl)) (hw _ (List.mem_of_getElem? (i := 4) rfl)) (hw _ (List.mem_of_getElem? (i := 37) rfl)) (by decide) (lost l Z a0 hw b21 ar g3 (0 : Int32) n hn1 h7 F_offsets_b21 A_ar (fun hh => absurd (hh 0 (own_in hI (by decide) hc81)) (own_nm hI (by decide) (own_in hI (by decide) hc81) hc81)) (fun _ _ _ => rfl)) E_b21 (dq hby d0_114) pd_5 (argsL := []) (rest := []) rfl rfl rfl (W := 0) rfl (by decide) (by decide) (by decide) (by decide) fun T X eT => ?_
    refine w_iload X hx (dq hby d0_117) rfl ?_
    refine w_icmp_ne X hx (dj hby d0_119) (fun hc119 => (?_ : False).elim) (fun hc119 => ?_)
    · exact absurd hc119 (by decide)
    refine w_iconst X hx (dq hby d0_122) (z := 1) rfl ?_
    refine w_goto X hx (dj hby d0_123) ?_
    refine w_retN X hx hret (by simp) hlk (dq hby d0_127) (by decide) (by decide) ?_
    exact ⟨by simp [nar], N⟩
  · refine w_aload X hx (dq hby d0_84) rfl rfl ?_
    refine w_iconst X hx (dq hby d0_86) (z := 1) rfl ?_
    refine w_zaload X hx hZ eT A_b17 (i := 1) (rfl) (by decide) (z := (f3 1)) (rfl) (dq hby d0_87) ?_
    refine w_if_ne X hx (dj hby d0_88) (fun hc88 => ?_) (fun hc88 => ?_)
    · refine w_iconst X hx (dq hby d0_109) (z := 0) rfl ?_
      refine w_istore X hx (dq hby d0_110) (z := (0 : Int32)) rfl (Ls' := #[.val (.int i0), .val (.int i1), .val (.int i2), .val (.int i3), .val (.int i4), .val (.int i5), .val (.int v6_5), .val (.int v7_14), .val (.ref b17), .val (.ref b21), .val (.int (0 : Int32))]) rfl ?_
      refine w_aload X hx (dq hby d0_112) rfl rfl ?_
      refine w_callVP X hx hZ eT hml (by rfl) hown (hw _ (List.mem_of_getElem? (i := 33) rfl)) (hw _ (List.mem_of_getElem? (i := 34) rfl)) (hw _ (List.mem_of_getElem? (i := 36) rfl)) (hw _ (List.mem_of_getElem? (i := 35) rfl)) (hw _ (List.mem_of_getElem? (i := 4) rfl)) (hw _ (List.mem_of_getElem? (i := 37) rfl)) (by decide) (lost l Z a0 hw b21 ar g3 (0 : Int32) n hn1 h7 F_offsets_b21 A_ar (fun hh => absurd (hh 1 (own_in hI (by decide) hc88)) (own_nm hI (by decide) (own_in hI (by decide) hc88) hc88)) (fun _ _ _ => rfl)) E_b21 (dq hby d0_114) pd_5 (argsL := []) (rest := []) rfl rfl rfl (W := 0) rfl (by decide) (by decide) (by decide) (by decide) fun T X eT => ?_
      refine w_iload X hx (dq hby d0_117) rfl ?_
      refine w_icmp_ne X hx (dj hby d0_119) (fun hc119 => (?_ : False).elim) (fun hc119 => ?_)
      · exact absurd hc119 (by decide)
      refine w_iconst X hx (dq hby d0_122) (z := 1) rfl ?_
      refine w_goto X hx (dj hby d0_123) ?_
      refine w_retN X hx hret (by simp) hlk (dq hby d0_127) (by decide) (by decide) ?_
      exact ⟨by simp [nar], N⟩
    · refine w_aload X hx (dq hby d0_91) rfl rfl ?_
      refine w_iconst X hx (dq hby d0_93) (z := 2) rfl ?_
      refine w_zaload X hx hZ eT A_b17 (i := 2) (rfl) (by decide) (z := (f3 2)) (rfl) (dq hby d0_94) ?_
      refine w_if_ne X hx (dj hby d0_95) (fun hc95 => ?_) (fun hc95 => ?_)
      · refine w_iconst X hx (dq hby d0_109) (z := 0) rfl ?_
        refine w_istore X hx (dq hby d0_110) (z := (0 : Int32)) rfl (Ls' := #[.val (.int i0), .val (.int i1), .val (.int i2), .val (.int i3), .val (.int i4), .val (.int i5), .val (.int v6_5), .val (.int v7_14), .val (.ref b17), .val (.ref b21), .val (.int (0 : Int32))]) rfl ?_
        refine w_aload X hx (dq hby d0_112) rfl rfl ?_
        refine w_callVP X hx hZ eT hml (by rfl) hown (hw _ (List.mem_of_getElem? (i := 33) rfl)) (hw _ (List.mem_of_getElem? (i := 34) rfl)) (hw _ (List.mem_of_getElem? (i := 36) rfl)) (hw _ (List.mem_of_getElem? (i := 35) rfl)) (hw _ (List.mem_of_getElem? (i := 4) rfl)) (hw _ (List.mem_of_getElem? (i := 37) rfl)) (by decide) (lost l Z a0 hw b21 ar g3 (0 : Int32) n hn1 h7 F_offsets_b21 A_ar (fun hh => absurd (hh 2 (own_in hI (by decide) hc95)) (own_nm hI (by decide) (own_in hI (by decide) hc95) hc95)) (fun _ _ _ => rfl)) E_b21 (dq hby d0_114) pd_5 (argsL := []) (rest := []) rfl rfl rfl (W := 0) rfl (by decide) (by decide) (by decide) (by decide) fun T X eT => ?_
        refine w_iload X hx (dq hby d0_117) rfl ?_
        refine w_icmp_ne X hx (dj hby d0_119) (fun hc119 => (?_ : False).elim) (fun hc119 => ?_)
        · exact absurd hc119 (by decide)
        refine w_iconst X hx (dq hby d0_122) (z := 1) rfl ?_
        refine w_goto X hx (dj hby d0_123) ?_
        refine w_retN X hx hret (by simp) hlk (dq hby d0_127) (by decide) (by decide) ?_
        exact ⟨by simp [nar], N⟩
      · refine w_aload X hx (dq hby d0_98) rfl rfl ?_
        refine w_iconst X hx (dq hby d0_100) (z := 3) rfl ?_
        refine w_zaload X hx hZ eT A_b17 (i := 3) (rfl) (by decide) (z := (f3 3)) (rfl) (dq hby d0_101) ?_
        refine w_if_ne X hx (dj hby d0_102) (fun hc102 => ?_) (fun hc102 => ?_)
        · refine w_iconst X hx (dq hby d0_109) (z := 0) rfl ?_
          refine w_istore X hx (dq hby d0_110) (z := (0 : Int32)) rfl (Ls' := #[.val (.int i0), .val (.int i1), .val (.int i2), .val (.int i3), .val (.int i4), .val (.int i5), .val (.int v6_5), .val (.int v7_14), .val (.ref b17), .val (.ref b21), .val (.int (0 : Int32))]) rfl ?_
          refine w_aload X hx (dq hby d0_112) rfl rfl ?_
          refine w_callVP X hx hZ eT hml (by rfl) hown (hw _ (List.mem_of_getElem? (i := 33) rfl)) (hw _ (List.mem_of_getElem? (i := 34) rfl)) (hw _ (List.mem_of_getElem? (i := 36) rfl)) (hw _ (List.mem_of_getElem? (i := 35) rfl)) (hw _ (List.mem_of_getElem? (i := 4) rfl)) (hw _ (List.mem_of_getElem? (i := 37) rfl)) (by decide) (lost l Z a0 hw b21 ar g3 (0 : Int32) n hn1 h7 F_offsets_b21 A_ar (fun hh => absurd (hh 3 (own_in hI (by decide) hc102)) (own_nm hI (by decide) (own_in hI (by decide) hc102) hc102)) (fun _ _ _ => rfl)) E_b21 (dq hby d0_114) pd_5 (argsL := []) (rest := []) rfl rfl rfl (W := 0) rfl (by decide) (by decide) (by decide) (by decide) fun T X eT => ?_
          refine w_iload X hx (dq hby d0_117) rfl ?_
          refine w_icmp_ne X hx (dj hby d0_119) (fun hc119 => (?_ : False).elim) (fun hc119 => ?_)
          · exact absurd hc119 (by decide)
          refine w_iconst X hx (dq hby d0_122) (z := 1) rfl ?_
          refine w_goto X hx (dj hby d0_123) ?_
          refine w_retN X hx hret (by simp) hlk (dq hby d0_127) (by decide) (by decide) ?_
          exact ⟨by simp [nar], N⟩
        · refine w_iconst X hx (dq hby d0_105) (z := 1) rfl ?_
          refine w_goto X hx (dj hby d0_106) ?_
          refine w_istore X hx (dq hby d0_110) (z := (1 : Int32)) rfl (Ls' := #[.val (.int i0), .val (.int i1), .val (.int i2), .val (.int i3), .val (.int i4), .val (.int i5), .val (.int v6_5), .val (.int v7_14), .val (.ref b17), .val (.ref b21), .val (.int (1 : Int32))]) rfl ?_
          refine w_aload X hx (dq hby d0_112) rfl rfl ?_
          refine w_callVP X hx hZ eT hml (by rfl) hown (hw _ (List.mem_of_getElem? (i := 33) rfl)) (hw _ (List.mem_of_getElem? (i := 34) rfl)) (hw _ (List.mem_of_getElem? (i := 36) rfl)) (hw _ (List.mem_of_getElem? (i := 35) rfl)) (hw _ (List.mem_of_getElem? (i := 4) rfl)) (hw _ (List.mem_of_getElem? (i := 37) rfl)) (by decide) (lost l Z a0 hw b21 ar g3 (1 : Int32) n hn1 h7 F_offsets_b21 A_ar (fun _ => rfl) (fun i hi hh => absurd (own_all hI hn1.2 ⟨hc81, hc88, hc95, hc102⟩ i hi) hh)) E_b21 (dq hby d0_114) pd_5 (argsL := []) (rest := []) rfl rfl rfl (W := 0) rfl (by decide) (by decide) (by decide) (by decide) fun T X eT => ?_
          refine w_iload X hx (dq hby d0_117) rfl ?_
          refine w_icmp_ne X hx (dj hby d0_119) (fun hc119 => (?_ : False).elim) (fun hc119 => ?_)
          · exact absurd hc119 (by decide)
          refine w_iconst X hx (dq hby d0_122) (z := 1) rfl ?_
          refine w_goto X hx (dj hby d0_123) ?_
          refine w_retN X hx hret (by simp) hlk (dq hby d0_127) (by decide) (by decide) ?_
          exact ⟨by simp [nar], N⟩
set_option maxRecDepth 65536 in
set_option maxHeartbeats 40000000 in
theorem comes_1 {Post : Tables → Env → Array Value → State → Outcome → State → Prop} (hpost : ∀ tb e args s v u, (limb_1_1.after args s (.returned v) u = true ∧ limb_1_2.after args s (.returned v) u = true) → FrameEnd s (.returned v) u (Jvm.fieldLocs frame_1_writes args s ++ Jvm.arrayLocs frame_1_arrays args s ++ Jvm.staticLocs frame_1_statics s) 16 128 → Post tb e args s (.returned v) u) :
    ArmFor flags0 classFile x code maxLocals ret World_1 tables_1 room_1 Calls_1 rest_1 Pre_1 Post := by
  intro l hfl _ _ p e ha hc hk s m args below hf hA hF happ hP
  obtain ⟨hcalls, hrest, hpre⟩ := hP
  obtain ⟨-, -, -, hnamed, -, -, -, hat⟩ := (Spec.applies_iff hf).mp happ
  obtain ⟨hg, hn⟩ := and_e (Cond.before_iff.mp (show (Jvm.Cond.and given_1 narrow_1).before args s = true from hpre))
  obtain ⟨g0, k0⟩ := and_e hg
  obtain ⟨g1, k1⟩ := and_e k0
  obtain ⟨g2, k2⟩ := and_e k1
  obtain ⟨g3, k3⟩ := and_e k2
  obtain ⟨g4, k4⟩ := and_e k3
  obtain ⟨g5, k5⟩ := and_e k4
  obtain ⟨w0, w1, w2, w3, w4, w5, rfl⟩ : ∃ w0 w1 w2 w3 w4 w5 : Value, args = #[w0, w1, w2, w3, w4, w5] := by
    have hs : args.size = 6 := by simpa [Cond.value, given_1] using g0
    obtain ⟨L⟩ := args
    match L, hs with
    | [w0, w1, w2, w3, w4, w5], _ => exact ⟨w0, w1, w2, w3, w4, w5, rfl⟩
  have hw := fun d (hd : d ∈ tables_1) => atoms_spec (ws := Jvm.Cond.code x code maxLocals ret :: tables_1) hat d (List.mem_cons_of_mem _ hd)
  obtain ⟨i0, ei0⟩ := is_v g1
  obtain rfl : w0 = (.int i0) := Option.some.inj ei0
  obtain ⟨i1, ei1⟩ := is_v g2
  obtain rfl : w1 = (.int i1) := Option.some.inj ei1
  obtain ⟨i2, ei2⟩ := is_v g3
  obtain rfl : w2 = (.int i2) := Option.some.inj ei2
  obtain ⟨i3, ei3⟩ := is_v g4
  obtain rfl : w3 = (.int i3) := Option.some.inj ei3
  obtain ⟨i4, ei4⟩ := is_v g5
  obtain rfl : w4 = (.int i4) := Option.some.inj ei4
  obtain ⟨i5, ei5⟩ := is_v k5
  obtain rfl : w5 = (.int i5) := Option.some.inj ei5
  obtain ⟨n, o, h1, h2, h3, _, L, rfl, ⟨rfl, N⟩, hq⟩ := rm0 l s _ hw tables_1 i0 i1 i2 i3 i4 i5 s.heap s.heap.size (Nat.le_refl _) p e ha hc hk s m _ below hf ((Spec.applies_iff_loose hf).mp happ).1 ⟨rfl, State.Warmed39.refl s, rfl⟩ trivial
  exact ⟨n, _, h1, h2, h3, hpost _ _ _ _ _ _ ⟨Cond.after_iff.mpr rfl, Cond.after_iff.mpr (eq_i res_at (Term.int_eval (1)) rfl)⟩ ⟨hq.1, hq.2.1, hq.2.2.sift fun y hy => Or.inr (N y hy)⟩⟩
theorem main_1_1 : Claimed_1_1 := comes_1 fun _ _ _ _ _ _ h hF => ⟨h.1, hF⟩
theorem main_1_2 : Claimed_1_2 := comes_1 fun _ _ _ _ _ _ h hF => ⟨h.2, hF⟩

end Jvm.Pilot.@@N@@
namespace Jvm.Pilot.@@N@@
open Jvm Jvm.ClassFile Sem Op Lib Jvm.Free Jvm.Stand Jvm.Pilot.@@N@@.Jvm.D
/-! MADE BY PROGRAM (witnessworld.py) out of the Statement's table words and the real class files: 14 classes; the members and pool entries that the words name. The judged class is class 1, her method 2. -/
namespace start1
open Jvm.ClassFile
def u (s : String) : CpInfo := .utf8 (stringToUtf16 s)
/-- a pool by its gaps: so many unusable entries, then the entry; so many at the end -/
def gap : Nat → List CpInfo → List CpInfo
  | 0, r => r
  | n + 1, r => .unusable :: gap n r
def poolList (es : List (Nat × CpInfo)) (last : Nat) : List CpInfo := es.foldr (fun e r => gap e.1 (e.2 :: r)) (gap last [])
def pool (es : List (Nat × CpInfo)) (last : Nat) : Array CpInfo := ⟨poolList es last⟩
def fileOf (pool : Array CpInfo) (this : Nat) (attrs : Array Attribute := #[]) (ms : Array MethodInfo := #[]) (fl : Nat := 33) (sup : Nat := 0) (ifs : Array Nat := #[]) (fds : Array FieldInfo := #[]) : ClassFile where
  minorVersion := 0
  majorVersion := 65
  constantPool := pool
  accessFlags := fl
  thisClass := this
  superClass := sup
  interfaces := ifs
  fields := fds
  methods := ms
  attributes := attrs
def plain (name : String) (sup : Option ClassId) : Class where
  name := name
  kind := .ordinary
  loader := none
  accessFlags := 33
  super := sup
  interfaces := #[]
  cf := none
  fields := #[]
  methods := #[]
  instanceTypes := #[]
  staticTypes := #[]
  resolved := #[]
  callSites := []
  init := .initialized
  statics := none
  mirror := none

def pool0 : Array CpInfo := pool [(5, u "<init>"), (0, u "()V"), (1, .class_ 10), (1, u "java/lang/Object")] 113

def k0c0 : Code := { maxStack := 0, maxLocals := 1, code := object_method_1_code, exceptionTable := #[], attributes := #[] }
def k0m0 : Method := { name := "<init>", desc := "()V", sig := { parameters := [], returnType := none }, accessFlags := 1, code := some k0c0 }
/-- java/lang/Object -/
def k0 : Class := { plain "java/lang/Object" none with
  accessFlags := 33
  interfaces := #[]
  cf := some (fileOf pool0 8 #[] #[{ accessFlags := 1, nameIndex := 5, descriptorIndex := 6, attributes := #[] }] 33 0 #[] #[])
  fields := #[]
  methods := #[k0m0]
  instanceTypes := #[]
  staticTypes := #[]
  resolved := Array.replicate 124 none
  statics := none }

def pool1 : Array CpInfo := pool [(2, .class_ 4), (1, u "java/lang/Object"), (0, u "<init>"), (0, u "()V"), (0, .methodref 8 9), (0, .class_ 10), (0, .nameAndType 11 12), (0, u "com/example/rough_grain/roughgrain/analysis/CarriedValue"), (0, u "set"), (0, u "(I)V"), (0, .methodref 8 14), (0, .nameAndType 15 16), (0, u "copy"), (0, u "(IIJ)V"), (0, .integer 2147483647), (0, .methodref 8 19), (0, .nameAndType 5 20), (0, u "(II)V"), (0, .methodref 22 23), (0, .class_ 24), (0, .nameAndType 25 26), (0, u "com/example/rough_grain/roughgrain/analysis/CarriedValueIsLostPinLaw"), (0, u "apply"), (0, u "(Lcom/example/rough_grain/roughgrain/analysis/CarriedValue;[ZIII)V"), (0, .methodref 8 28), (0, .nameAndType 29 30), (0, u "isLost"), (0, u "()Z"), (3, u "law"), (0, u "(IIIIII)Z")] 4

def k1m0 : Method := { name := "<init>", desc := "()V", sig := { parameters := [], returnType := none }, accessFlags := 1, code := none }
def k1c1 : Code := { maxStack := 5, maxLocals := 8, code := method_2_code, exceptionTable := #[], attributes := #[] }
def k1m1 : Method := { name := "apply", desc := "(Lcom/example/rough_grain/roughgrain/analysis/CarriedValue;[ZIII)V", sig := { parameters := [(.object "com/example/rough_grain/roughgrain/analysis/CarriedValue"), (.array .boolean), .int, .int, .int], returnType := none }, accessFlags := 10, code := some k1c1 }
def k1c2 : Code := { maxStack := 5, maxLocals := 11, code := code, exceptionTable := #[], attributes := #[] }
def k1m2 : Method := { name := "law", desc := "(IIIIII)Z", sig := { parameters := [.int, .int, .int, .int, .int, .int], returnType := some .boolean }, accessFlags := 9, code := some k1c2 }
/-- com/example/rough_grain/roughgrain/analysis/CarriedValueIsLostPinLaw -/
def k1 : Class := { plain "com/example/rough_grain/roughgrain/analysis/CarriedValueIsLostPinLaw" (some 0) with
  accessFlags := 49
  interfaces := #[]
  cf := some (fileOf pool1 22 #[] #[{ accessFlags := 1, nameIndex := 5, descriptorIndex := 6, attributes := #[] }, { accessFlags := 10, nameIndex := 25, descriptorIndex := 26, attributes := #[] }, { accessFlags := 9, nameIndex := 34, descriptorIndex := 35, attributes := #[] }] 49 2 #[] #[])
  fields := #[]
  methods := #[k1m0, k1m1, k1m2]
  instanceTypes := #[]
  staticTypes := #[]
  resolved := Array.replicate 40 none
  statics := none }

def pool2 : Array CpInfo := pool [(3, .methodref 4 5), (0, .class_ 6), (0, .nameAndType 7 8), (0, u "java/lang/Object"), (0, u "<init>"), (0, u "()V"), (0, .fieldref 10 11), (0, .class_ 12), (0, .nameAndType 13 14), (0, u "com/example/rough_grain/roughgrain/analysis/CarriedValue"), (0, u "offsets"), (0, u "[J"), (0, .long 9223372036854775808), (1, .methodref 18 19), (0, .class_ 20), (0, .nameAndType 21 22), (0, u "java/util/Arrays"), (0, u "fill"), (0, u "([JJ)V"), (0, u "NOT_HELD"), (0, u "J"), (1, u "(II)V"), (2, u "set"), (0, u "(I)V"), (0, u "copy"), (0, u "(IIJ)V"), (4, u "isLost"), (0, u "()Z")] 4

def k2c0 : Code := { maxStack := 4, maxLocals := 3, code := prog_8_method_1_code, exceptionTable := #[], attributes := #[] }
def k2m0 : Method := { name := "<init>", desc := "(II)V", sig := { parameters := [.int, .int], returnType := none }, accessFlags := 0, code := some k2c0 }
def k2c1 : Code := { maxStack := 4, maxLocals := 2, code := prog_8_method_2_code, exceptionTable := #[], attributes := #[] }
def k2m1 : Method := { name := "set", desc := "(I)V", sig := { parameters := [.int], returnType := none }, accessFlags := 0, code := some k2c1 }
def k2c2 : Code := { maxStack := 6, maxLocals := 5, code := prog_8_method_3_code, exceptionTable := #[], attributes := #[] }
def k2m2 : Method := { name := "copy", desc := "(IIJ)V", sig := { parameters := [.int, .int, .long], returnType := none }, accessFlags := 0, code := some k2c2 }
def k2c3 : Code := { maxStack := 4, maxLocals := 6, code := prog_8_method_5_code, exceptionTable := #[], attributes := #[] }
def k2m3 : Method := { name := "isLost", desc := "()Z", sig := { parameters := [], returnType := some .boolean }, accessFlags := 0, code := some k2c3 }
/-- com/example/rough_grain/roughgrain/analysis/CarriedValue -/
def k2 : Class := { plain "com/example/rough_grain/roughgrain/analysis/CarriedValue" (some 0) with
  accessFlags := 48
  interfaces := #[]
  cf := some (fileOf pool2 10 #[] #[{ accessFlags := 0, nameIndex := 7, descriptorIndex := 26, attributes := #[] }, { accessFlags := 0, nameIndex := 29, descriptorIndex := 30, attributes := #[] }, { accessFlags := 0, nameIndex := 31, descriptorIndex := 32, attributes := #[] }, { accessFlags := 0, nameIndex := 37, descriptorIndex := 38, attributes := #[] }] 48 4 #[] #[{ accessFlags := 26, nameIndex := 23, descriptorIndex := 24, attributes := #[] }, { accessFlags := 18, nameIndex := 13, descriptorIndex := 14, attributes := #[] }])
  fields := #[{ name := "NOT_HELD", type := .long, accessFlags := 26, slot := 0, constantValue := 0 }, { name := "offsets", type := (.array .long), accessFlags := 18, slot := 0, constantValue := 0 }]
  methods := #[k2m0, k2m1, k2m2, k2m3]
  instanceTypes := #[(.array .long)]
  staticTypes := #[.long]
  resolved := Array.replicate 43 none
  statics := none }

def pool3 : Array CpInfo := pool [(2, .class_ 4), (1, u "java/lang/Object"), (0, u "<init>"), (0, u "()V"), (7, .class_ 16), (1, u "java/util/Arrays"), (57, .class_ 76), (1, u "java/util/Arrays$NaturalOrder"), (36, .class_ 115), (1, u "java/util/Arrays$LegacyMergeSort"), (1, u "Z"), (257, .class_ 376), (0, u "java/util/Arrays$ArrayList"), (68, u "$assertionsDisabled"), (269, u "MIN_ARRAY_SORT_GRAN"), (0, u "I"), (2, u "INSERTIONSORT_THRESHOLD"), (120, u "fill"), (0, u "([JJ)V"), (133, .class_ 976), (0, u "java/util/Arrays$ArrayItr")] 52

def k3m0 : Method := { name := "<init>", desc := "()V", sig := { parameters := [], returnType := none }, accessFlags := 2, code := none }
def k3c1 : Code := { maxStack := 4, maxLocals := 5, code := jdk_65_method_101_code, exceptionTable := #[], attributes := #[] }
def k3m1 : Method := { name := "fill", desc := "([JJ)V", sig := { parameters := [(.array .long), .long], returnType := none }, accessFlags := 9, code := some k3c1 }
/-- java/util/Arrays -/
def k3 : Class := { plain "java/util/Arrays" (some 0) with
  accessFlags := 49
  interfaces := #[]
  cf := some (fileOf pool3 14 #[.nestMembers #[975, 375, 113, 74]] #[{ accessFlags := 2, nameIndex := 5, descriptorIndex := 6, attributes := #[] }, { accessFlags := 9, nameIndex := 840, descriptorIndex := 841, attributes := #[] }] 49 2 #[] #[{ accessFlags := 26, nameIndex := 715, descriptorIndex := 716, attributes := #[] }, { accessFlags := 26, nameIndex := 719, descriptorIndex := 716, attributes := #[] }, { accessFlags := 4120, nameIndex := 445, descriptorIndex := 117, attributes := #[] }])
  fields := #[{ name := "MIN_ARRAY_SORT_GRAN", type := .int, accessFlags := 26, slot := 0, constantValue := 0 }, { name := "INSERTIONSORT_THRESHOLD", type := .int, accessFlags := 26, slot := 1, constantValue := 0 }, { name := "$assertionsDisabled", type := .boolean, accessFlags := 4120, slot := 2, constantValue := 0 }]
  methods := #[k3m0, k3m1]
  instanceTypes := #[]
  staticTypes := #[.int, .int, .boolean]
  resolved := Array.replicate 1029 none
  statics := none }

def pool4 : Array CpInfo := pool [(1, u "java/lang/Cloneable"), (0, .class_ 1), (0, u "java/lang/Object"), (0, .class_ 3)] 3

/-- java/lang/Cloneable -/
def k4 : Class := { plain "java/lang/Cloneable" (some 0) with
  accessFlags := 1537
  interfaces := #[]
  cf := some (fileOf pool4 2 #[] #[] 1537 4 #[] #[])
  fields := #[]
  methods := #[]
  instanceTypes := #[]
  staticTypes := #[]
  resolved := Array.replicate 8 none
  statics := none }

def pool5 : Array CpInfo := pool [(1, u "java/io/Serializable"), (0, .class_ 1), (0, u "java/lang/Object"), (0, .class_ 3)] 3

/-- java/io/Serializable -/
def k5 : Class := { plain "java/io/Serializable" (some 0) with
  accessFlags := 1537
  interfaces := #[]
  cf := some (fileOf pool5 2 #[] #[] 1537 4 #[] #[])
  fields := #[]
  methods := #[]
  instanceTypes := #[]
  staticTypes := #[]
  resolved := Array.replicate 8 none
  statics := none }

/-- the primitive boolean -/
def k6 : Class := { plain "boolean" none with kind := .primitive 'Z', accessFlags := 0x411 }
/-- [Z -/
def k7 : Class := { plain "[Z" (some 0) with kind := .array 6 .boolean, interfaces := #[4, 5], accessFlags := 1041 }

/-- the primitive byte -/
def k8 : Class := { plain "byte" none with kind := .primitive 'B', accessFlags := 0x411 }
/-- [B -/
def k9 : Class := { plain "[B" (some 0) with kind := .array 8 .byte, interfaces := #[4, 5], accessFlags := 1041 }

/-- the primitive int -/
def k10 : Class := { plain "int" none with kind := .primitive 'I', accessFlags := 0x411 }
/-- [I -/
def k11 : Class := { plain "[I" (some 0) with kind := .array 10 .int, interfaces := #[4, 5], accessFlags := 1041 }

/-- the primitive long -/
def k12 : Class := { plain "long" none with kind := .primitive 'J', accessFlags := 0x411 }
/-- [J -/
def k13 : Class := { plain "[J" (some 0) with kind := .array 12 .long, interfaces := #[4, 5], accessFlags := 1041 }

def heap : Heap := #[]
def classes : Array Class := #[k0, k1, k2, k3, k4, k5, k6, k7, k8, k9, k10, k11, k12, k13]
def interned : List (Array UInt16 × Addr) := []
def slotsUsed : Nat := 0
def theMethod : MethodId := ⟨1, 2⟩
def args0 : Array Value := #[.int 5, .int 7, .int 1, .int 2, .int 3, .int 4]
def aboutOver (below : List Frame) : State where
  vm := { classes := classes, interned := interned.toArray }
  heap := heap
  slotsUsed := slotsUsed
  threads := #[{ frames := .invoking theMethod args0 :: below }]
def below0 : List Frame := [.native { method := ⟨0, 0⟩, args := #[] }]
def about1 : State := aboutOver below0
def p0 : Program := .bare "" "" ""
def e0 : Env := launch0.env 0 0 0
theorem w_frames : about1.frames = Frame.invoking theMethod args0 :: below0 := rfl
set_option maxRecDepth 65536 in
theorem w_args : argsFit about1.vm theMethod args0 = true := by decide +kernel
set_option maxRecDepth 65536 in
theorem w_heap : heapFits about1 = true := by decide +kernel
set_option maxRecDepth 65536 in
theorem w_runnable : about1.curStatus? = some .runnable := by decide +kernel
set_option maxRecDepth 65536 in
theorem w_alone : about1.alone = true := by decide +kernel
set_option maxRecDepth 65536 in
theorem w_named : about1.methodNamed? x = some theMethod := by decide +kernel
set_option maxRecDepth 65536 in
theorem w_hears : about1.hears theMethod below0 = true := by decide +kernel
set_option maxRecDepth 65536 in
theorem w_ripe : about1.ripe theMethod args0 below0 = true := by decide +kernel
theorem w_running : about1.status = .running := rfl
set_option maxRecDepth 65536 in
theorem w_room : about1.hasRoom e0.platform room_1 = true :=
  launch0.hasRoom_least _ room_1 (by decide +kernel) (by decide +kernel) (by decide +kernel) (by decide +kernel) (by decide +kernel) (by decide +kernel)
theorem allAtoms_all (ts : List Jvm.Cond) (a : Array Jvm.Value) (st : Jvm.State) : (allAtoms ts).before a st = ts.all (fun c => c.before a st) := by
  induction ts with
  | nil => rfl
  | cons c t ih =>
    show (Jvm.Cond.and c (allAtoms t)).before a st = _
    rw [Jvm.Cond.before_and, ih, List.all_cons]
def words1 : List Jvm.Cond := Jvm.Cond.code x code maxLocals ret :: tables_1
/-- a 'code' word, met by the world's own term for the bytes: nothing is compared byte by byte -/
theorem code_word {y : MethodName} {bytes : ByteArray} {mx : Nat} {rt : Option FieldType} {a : Array Value} {s : State} {m : MethodId} {meth : Method} {c : Code} (h1 : s.methodNamed? y = some m) (h2 : s.vm.method? m = some meth) (h3 : meth.code = some c) (h4 : c.code = bytes)
    (h5 : (c.maxLocals == mx && c.exceptionTable.isEmpty && decide (c.maxStack ≤ mostOperands) && decide (meth.sig.returnType = rt) && !meth.locks && decide (parseMethodDescriptor y.desc = some meth.sig)) = true) : (Jvm.Cond.code y bytes mx rt).before a s = true := by
  simp only [Bool.and_eq_true, beq_iff_eq, Bool.not_eq_true', decide_eq_true_eq] at h5
  obtain ⟨⟨⟨⟨⟨g1, g2⟩, g3⟩, g4⟩, g5⟩, g6⟩ := h5
  simp [Cond.before, Cond.holds, Cond.value, h1, h2, h3, h4, g1, g2, g3, g4, g5, g6]
def isCode : Jvm.Cond → Bool
  | .code _ _ _ _ => true
  | _ => false
theorem all_split {L : List Jvm.Cond} {P : Jvm.Cond → Bool} (h1 : L.all (fun c => isCode c || P c) = true) (h2 : ∀ c ∈ L.filter isCode, P c = true) : L.all P = true := by
  refine List.all_eq_true.mpr fun c hc => ?_
  have h := List.all_eq_true.mp h1 c hc
  rcases Bool.eq_false_or_eq_true (isCode c) with hi | hi
  · exact h2 c (List.mem_filter.mpr ⟨hc, hi⟩)
  · simpa [hi] using h
set_option maxRecDepth 65536 in
theorem w_c0 : (Jvm.Cond.code x code maxLocals ret).before args0 about1 = true := code_word (m := ⟨1, 2⟩) (meth := k1m2) (c := k1c2) (by decide +kernel) rfl rfl rfl (by decide +kernel)
set_option maxRecDepth 65536 in
theorem w_c1 : (Jvm.Cond.code ({ cls := "com/example/rough_grain/roughgrain/analysis/CarriedValue", name := "<init>", desc := "(II)V" } : Jvm.MethodName) prog_8_method_1_code (3 : Nat) (Option.none : Option Jvm.ClassFile.FieldType)).before args0 about1 = true := code_word (m := ⟨2, 0⟩) (meth := k2m0) (c := k2c0) (by decide +kernel) rfl rfl rfl (by decide +kernel)
set_option maxRecDepth 65536 in
theorem w_c2 : (Jvm.Cond.code ({ cls := "java/lang/Object", name := "<init>", desc := "()V" } : Jvm.MethodName) object_method_1_code (1 : Nat) (Option.none : Option Jvm.ClassFile.FieldType)).before args0 about1 = true := code_word (m := ⟨0, 0⟩) (meth := k0m0) (c := k0c0) (by decide +kernel) rfl rfl rfl (by decide +kernel)
set_option maxRecDepth 65536 in
theorem w_c3 : (Jvm.Cond.code ({ cls := "java/util/Arrays", name := "fill", desc := "([JJ)V" } : Jvm.MethodName) jdk_65_method_101_code (5 : Nat) (Option.none : Option Jvm.ClassFile.FieldType)).before args0 about1 = true := code_word (m := ⟨3, 1⟩) (meth := k3m1) (c := k3c1) (by decide +kernel) rfl rfl rfl (by decide +kernel)
set_option maxRecDepth 65536 in
theorem w_c4 : (Jvm.Cond.code ({ cls := "com/example/rough_grain/roughgrain/analysis/CarriedValueIsLostPinLaw", name := "apply", desc := "(Lcom/example/rough_grain/roughgrain/analysis/CarriedValue;[ZIII)V" } : Jvm.MethodName) method_2_code (8 : Nat) (Option.none : Option Jvm.ClassFile.FieldType)).before args0 about1 = true := code_word (m := ⟨1, 1⟩) (meth := k1m1) (c := k1c1) (by decide +kernel) rfl rfl rfl (by decide +kernel)
set_option maxRecDepth 65536 in
theorem w_c5 : (Jvm.Cond.code ({ cls := "com/example/rough_grain/roughgrain/analysis/CarriedValue", name := "copy", desc := "(IIJ)V" } : Jvm.MethodName) prog_8_method_3_code (5 : Nat) (Option.none : Option Jvm.ClassFile.FieldType)).before args0 about1 = true := code_word (m := ⟨2, 2⟩) (meth := k2m2) (c := k2c2) (by decide +kernel) rfl rfl rfl (by decide +kernel)
set_option maxRecDepth 65536 in
theorem w_c6 : (Jvm.Cond.code ({ cls := "com/example/rough_grain/roughgrain/analysis/CarriedValue", name := "set", desc := "(I)V" } : Jvm.MethodName) prog_8_method_2_code (2 : Nat) (Option.none : Option Jvm.ClassFile.FieldType)).before args0 about1 = true := code_word (m := ⟨2, 1⟩) (meth := k2m1) (c := k2c1) (by decide +kernel) rfl rfl rfl (by decide +kernel)
set_option maxRecDepth 65536 in
theorem w_c7 : (Jvm.Cond.code ({ cls := "com/example/rough_grain/roughgrain/analysis/CarriedValue", name := "isLost", desc := "()Z" } : Jvm.MethodName) prog_8_method_5_code (6 : Nat) (Option.some Jvm.ClassFile.FieldType.boolean)).before args0 about1 = true := code_word (m := ⟨2, 3⟩) (meth := k2m3) (c := k2c3) (by decide +kernel) rfl rfl rfl (by decide +kernel)
def codes1 : List Jvm.Cond := [Jvm.Cond.code x code maxLocals ret, Jvm.Cond.code ({ cls := "com/example/rough_grain/roughgrain/analysis/CarriedValue", name := "<init>", desc := "(II)V" } : Jvm.MethodName) prog_8_method_1_code (3 : Nat) (Option.none : Option Jvm.ClassFile.FieldType), Jvm.Cond.code ({ cls := "java/lang/Object", name := "<init>", desc := "()V" } : Jvm.MethodName) object_method_1_code (1 : Nat) (Option.none : Option Jvm.ClassFile.FieldType), Jvm.Cond.code ({ cls := "java/util/Arrays", name := "fill", desc := "([JJ)V" } : Jvm.MethodName) jdk_65_method_101_code (5 : Nat) (Option.none : Option Jvm.ClassFile.FieldType), Jvm.Cond.code ({ cls := "com/example/rough_grain/roughgrain/analysis/CarriedValueIsLostPinLaw", name := "apply", desc := "(Lcom/example/rough_grain/roughgrain/analysis/CarriedValue;[ZIII)V" } : Jvm.MethodName) method_2_code (8 : Nat) (Option.none : Option Jvm.ClassFile.FieldType), Jvm.Cond.code ({ cls := "com/example/rough_grain/roughgrain/analysis/CarriedValue", name := "copy", desc := "(IIJ)V" } : Jvm.MethodName) prog_8_method_3_code (5 : Nat) (Option.none : Option Jvm.ClassFile.FieldType), Jvm.Cond.code ({ cls := "com/example/rough_grain/roughgrain/analysis/CarriedValue", name := "set", desc := "(I)V" } : Jvm.MethodName) prog_8_method_2_code (2 : Nat) (Option.none : Option Jvm.ClassFile.FieldType), Jvm.Cond.code ({ cls := "com/example/rough_grain/roughgrain/analysis/CarriedValue", name := "isLost", desc := "()Z" } : Jvm.MethodName) prog_8_method_5_code (6 : Nat) (Option.some Jvm.ClassFile.FieldType.boolean)]
set_option maxRecDepth 65536 in
theorem codes_eq : words1.filter isCode = codes1 := rfl
theorem w_codes : ∀ c ∈ words1.filter isCode, c.before args0 about1 = true := by
  rw [codes_eq]
  intro c hc
  simp only [codes1, List.mem_cons, List.not_mem_nil, or_false] at hc
  rcases hc with rfl | rfl | rfl | rfl | rfl | rfl | rfl | rfl
  · exact w_c0
  · exact w_c1
  · exact w_c2
  · exact w_c3
  · exact w_c4
  · exact w_c5
  · exact w_c6
  · exact w_c7
set_option maxRecDepth 65536 in
theorem w_t1 : (words1.take 24).all (fun c => isCode c || c.before args0 about1) = true := by decide +kernel
set_option maxRecDepth 65536 in
theorem w_t2 : (words1.drop 24).all (fun c => isCode c || c.before args0 about1) = true := by decide +kernel
theorem w_tables : (allAtoms (Jvm.Cond.code x code maxLocals ret :: tables_1)).before args0 about1 = true := by
  rw [allAtoms_all]
  show words1.all (fun c => c.before args0 about1) = true
  refine all_split ?_ w_codes
  rw [← List.take_append_drop 24 words1, List.all_append, w_t1, w_t2]
  rfl
set_option maxRecDepth 65536 in
theorem w_case : (Jvm.Cond.and given_1 narrow_1).before args0 about1 = true := by decide +kernel
theorem w_applies : (headSpec (Jvm.Cond.code x code maxLocals ret :: tables_1) room_1).applies x e0.platform about1 = true :=
  (Spec.applies_iff w_frames).mpr ⟨w_running, w_runnable, w_alone, w_named, w_hears, w_ripe, w_room, w_tables⟩
theorem atStart : AtStart classFile x code maxLocals ret World_1 tables_1 room_1 Calls_1 rest_1 Pre_1 launch0 p0 e0 about1 theMethod args0 below0 :=
  ⟨lists_1, trivial, launch0.admits_env _ _ _, launch0.least_env, fairChoices_fair.cas, fairChoices_fair.clock, w_frames, w_args, w_heap, w_applies, trivial, trivial, w_case⟩
end start1
theorem witness_1 : WitnessClaimed_1 := ⟨start1.p0, start1.e0, start1.about1, start1.theMethod, start1.args0, start1.below0, start1.atStart⟩
end Jvm.Pilot.@@N@@
