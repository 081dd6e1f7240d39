import JvmDerived
import JvmDerived.Pilot.@@N@@Statement
import JvmDerived.Pilot.@@N@@Code
set_option linter.unusedVariables false
set_option linter.unusedSimpArgs false
@@BLOCK:NumsL.lean.txt@@
namespace Jvm.Pilot.@@N@@
open Jvm Jvm.ClassFile Sem Op Lib Jvm.Free Jvm.Stand Jvm.LawKit Jvm.RoadKit Bundle Jvm.Pilot.@@N@@.Jvm.D
section Kit
variable {p : Program} {l : Launch} {e : Env} {R : Room} {s : State} {m : MethodId} {args : Array Value} {below : List Frame} {meth : Method} {c : Code} {T : State} {locs : List Loc} {cells slots : Nat} {Z : State} {a0 : Array Value} {h : Heap}
variable {Q : Option Value → Heap → List Loc → Prop} {C S : Nat} {pc pc' : Nat} {Ls Ls' : Array Slot} {rest : List Value}
/-- the goal of a walk: from the state σ the run comes to its end, which is as Q says -/
def Go (p : Program) (e : Env) (below : List Frame) (s : State) (Q : Option Value → Heap → List Loc → Prop) (C S : Nat) (σ : State) : Prop :=
  ∃ s₂ o, Steps p.tables e below σ s₂ ∧ s₂.status = .running ∧ Ended s₂ below o ∧ ∃ v L, o = .returned v ∧ Q v s₂.heap L ∧ FrameEnd s o s₂ L C S
theorem Go.step {σ τ : State} (st : ∀ t, Steps p.tables e below τ t → Steps p.tables e below σ t) (k : Go p e below s Q C S τ) : Go p e below s Q C S σ := by
  obtain ⟨s₂, o, h1, h2⟩ := k
  exact ⟨s₂, o, st _ h1, h2⟩
theorem Go.mono {Q' : Option Value → Heap → List Loc → Prop} {σ : State} (k : Go p e below s Q C S σ) (hq : ∀ v h L, Q v h L → Q' v h L) : Go p e below s Q' C S σ := by
  obtain ⟨s₂, o, h1, h2, h3, v, L, h4, h5, h6⟩ := k
  exact ⟨s₂, o, h1, h2, h3, v, L, h4, hq _ _ _ h5, h6⟩
/-- a join: the road behind it is walked once -/
theorem w_j1 {A0 : Type} {σ : State} (F : A0 → State) (P : A0 → Prop) (hJ : ∀ a0, P a0 → Go p e below s Q C S (F a0)) (hB : (∀ a0, P a0 → Go p e below s Q C S (F a0)) → Go p e below s Q C S σ) : Go p e below s Q C S σ := hB hJ
theorem w_j2 {A0 A1 : Type} {σ : State} (F : A0 → A1 → State) (P : A0 → A1 → Prop) (hJ : ∀ a0 a1, P a0 a1 → Go p e below s Q C S (F a0 a1)) (hB : (∀ a0 a1, P a0 a1 → Go p e below s Q C S (F a0 a1)) → Go p e below s Q C S σ) : Go p e below s Q C S σ := hB hJ
theorem w_j3 {A0 A1 A2 : Type} {σ : State} (F : A0 → A1 → A2 → State) (P : A0 → A1 → A2 → Prop) (hJ : ∀ a0 a1 a2, P a0 a1 a2 → Go p e below s Q C S (F a0 a1 a2)) (hB : (∀ a0 a1 a2, P a0 a1 a2 → Go p e below s Q C S (F a0 a1 a2)) → Go p e below s Q C S σ) : Go p e below s Q C S σ := hB hJ
theorem w_j4 {A0 A1 A2 A3 : Type} {σ : State} (F : A0 → A1 → A2 → A3 → State) (P : A0 → A1 → A2 → A3 → Prop) (hJ : ∀ a0 a1 a2 a3, P a0 a1 a2 a3 → Go p e below s Q C S (F a0 a1 a2 a3)) (hB : (∀ a0 a1 a2 a3, P a0 a1 a2 a3 → Go p e below s Q C S (F a0 a1 a2 a3)) → Go p e below s Q C S σ) : Go p e below s Q C S σ := hB hJ
theorem w_j5 {A0 A1 A2 A3 A4 : Type} {σ : State} (F : A0 → A1 → A2 → A3 → A4 → State) (P : A0 → A1 → A2 → A3 → A4 → Prop) (hJ : ∀ a0 a1 a2 a3 a4, P a0 a1 a2 a3 a4 → Go p e below s Q C S (F a0 a1 a2 a3 a4)) (hB : (∀ a0 a1 a2 a3 a4, P a0 a1 a2 a3 a4 → Go p e below s Q C S (F a0 a1 a2 a3 a4)) → Go p e below s Q C S σ) : Go p e below s Q C S σ := hB hJ
theorem w_j6 {A0 A1 A2 A3 A4 A5 : Type} {σ : State} (F : A0 → A1 → A2 → A3 → A4 → A5 → State) (P : A0 → A1 → A2 → A3 → A4 → A5 → Prop) (hJ : ∀ a0 a1 a2 a3 a4 a5, P a0 a1 a2 a3 a4 a5 → Go p e below s Q C S (F a0 a1 a2 a3 a4 a5)) (hB : (∀ a0 a1 a2 a3 a4 a5, P a0 a1 a2 a3 a4 a5 → Go p e below s Q C S (F a0 a1 a2 a3 a4 a5)) → Go p e below s Q C S σ) : Go p e below s Q C S σ := hB hJ
theorem w_j7 {A0 A1 A2 A3 A4 A5 A6 : Type} {σ : State} (F : A0 → A1 → A2 → A3 → A4 → A5 → A6 → State) (P : A0 → A1 → A2 → A3 → A4 → A5 → A6 → Prop) (hJ : ∀ a0 a1 a2 a3 a4 a5 a6, P a0 a1 a2 a3 a4 a5 a6 → Go p e below s Q C S (F a0 a1 a2 a3 a4 a5 a6)) (hB : (∀ a0 a1 a2 a3 a4 a5 a6, P a0 a1 a2 a3 a4 a5 a6 → Go p e below s Q C S (F a0 a1 a2 a3 a4 a5 a6)) → Go p e below s Q C S σ) : Go p e below s Q C S σ := hB hJ
theorem w_eqI {x z : Int32} (hz : x = z) (k : Go p e below s Q C S (T.setTop (mkF m pc Ls (.int z :: rest)))) : Go p e below s Q C S (T.setTop (mkF m pc Ls (.int x :: rest))) := hz ▸ k
theorem w_eqJ {x z : Int64} (hz : x = z) (k : Go p e below s Q C S (T.setTop (mkF m pc Ls (.long z :: rest)))) : Go p e below s Q C S (T.setTop (mkF m pc Ls (.long x :: rest))) := hz ▸ k
def Dc (code : ByteArray) (pc : Nat) (i : Instr) (n pc' : Nat) : Prop := decode code pc = .ok (i, n) ∧ pc + n = pc'
def Dj (code : ByteArray) (pc : Nat) (i : Instr) (o : Int) (pcT pcF : Nat) : Prop := decode code pc = .ok (i, 3) ∧ 0 ≤ (pc : Int) + o ∧ ((pc : Int) + o).toNat = pcT ∧ pc + 3 = pcF
theorem dq {code : ByteArray} {i : Instr} {n : Nat} (hq : c.code = code) (d : Dc code pc i n pc') : Dc c.code pc i n pc' := hq ▸ d
theorem dj {code : ByteArray} {i : Instr} {o : Int} {pcT pcF : Nat} (hq : c.code = code) (d : Dj code pc i o pcT pcF) : Dj c.code pc i o pcT pcF := hq ▸ d
abbrev St (p : Program) (l : Launch) (e : Env) (R : Room) (s : State) (m : MethodId) (args : Array Value) (below : List Frame) (meth : Method) (c : Code) (T : State) (locs : List Loc) (cells slots : Nat) : Prop := Stand p l e R s m args below meth c T locs cells slots
/-! loads, stores, constants -/
theorem w_iload (X : Stand p l e R s m args below meth c T locs cells slots) (hx : p.tables.exec = Jvm.exec) {n : Nat} {z : Int32} (hd : Dc c.code pc (.iload n) 2 pc') (hl : Ls[n]? = some (.val (.int z))) (k : Go p e below s Q C S (T.setTop (mkF m pc' Ls (.int z :: rest)))) : Go p e below s Q C S (T.setTop (mkF m pc Ls (rest))) := by
  obtain ⟨hd, rfl⟩ := hd; exact k.step fun _ t => XS.iload X.here hx rfl hd hl t
theorem w_iloadN (X : Stand p l e R s m args below meth c T locs cells slots) (hx : p.tables.exec = Jvm.exec) {n : Fin 4} {z : Int32} (hd : Dc c.code pc (.iload_n n) 1 pc') (hl : Ls[n.val]? = some (.val (.int z))) (k : Go p e below s Q C S (T.setTop (mkF m pc' Ls (.int z :: rest)))) : Go p e below s Q C S (T.setTop (mkF m pc Ls (rest))) := by
  obtain ⟨hd, rfl⟩ := hd; exact k.step fun _ t => XS.iloadN X.here hx rfl hd hl t
theorem w_istore (X : Stand p l e R s m args below meth c T locs cells slots) (hx : p.tables.exec = Jvm.exec) {n : Nat} {x z : Int32} (hd : Dc c.code pc (.istore n) 2 pc') (hz : z = x) (hs : storeLocals Ls n (.int z) = some Ls') (k : Go p e below s Q C S (T.setTop (mkF m pc' Ls' (rest)))) : Go p e below s Q C S (T.setTop (mkF m pc Ls (.int x :: rest))) := by
  obtain ⟨hd, rfl⟩ := hd; subst hz; exact k.step fun _ t => XS.istore X.here hx rfl hd rfl hs t
theorem w_istoreN (X : Stand p l e R s m args below meth c T locs cells slots) (hx : p.tables.exec = Jvm.exec) {n : Fin 4} {x z : Int32} (hd : Dc c.code pc (.istore_n n) 1 pc') (hz : z = x) (hs : storeLocals Ls n.val (.int z) = some Ls') (k : Go p e below s Q C S (T.setTop (mkF m pc' Ls' (rest)))) : Go p e below s Q C S (T.setTop (mkF m pc Ls (.int x :: rest))) := by
  obtain ⟨hd, rfl⟩ := hd; subst hz; exact k.step fun _ t => XS.istoreN X.here hx rfl hd rfl hs t
theorem w_lload (X : Stand p l e R s m args below meth c T locs cells slots) (hx : p.tables.exec = Jvm.exec) {n : Nat} {z : Int64} (hd : Dc c.code pc (.lload n) 2 pc') (hl : Ls[n]? = some (.val (.long z))) (k : Go p e below s Q C S (T.setTop (mkF m pc' Ls (.long z :: rest)))) : Go p e below s Q C S (T.setTop (mkF m pc Ls (rest))) := by
  obtain ⟨hd, rfl⟩ := hd; exact k.step fun _ t => XS.lload X.here hx rfl hd hl t
theorem w_lloadN (X : Stand p l e R s m args below meth c T locs cells slots) (hx : p.tables.exec = Jvm.exec) {n : Fin 4} {z : Int64} (hd : Dc c.code pc (.lload_n n) 1 pc') (hl : Ls[n.val]? = some (.val (.long z))) (k : Go p e below s Q C S (T.setTop (mkF m pc' Ls (.long z :: rest)))) : Go p e below s Q C S (T.setTop (mkF m pc Ls (rest))) := by
  obtain ⟨hd, rfl⟩ := hd; exact k.step fun _ t => XS.lloadN X.here hx rfl hd hl t
theorem w_lstore (X : Stand p l e R s m args below meth c T locs cells slots) (hx : p.tables.exec = Jvm.exec) {n : Nat} {x z : Int64} (hd : Dc c.code pc (.lstore n) 2 pc') (hz : z = x) (hs : storeLocals Ls n (.long z) = some Ls') (k : Go p e below s Q C S (T.setTop (mkF m pc' Ls' (rest)))) : Go p e below s Q C S (T.setTop (mkF m pc Ls (.long x :: rest))) := by
  obtain ⟨hd, rfl⟩ := hd; subst hz; exact k.step fun _ t => XS.lstore X.here hx rfl hd rfl hs t
theorem w_lstoreN (X : Stand p l e R s m args below meth c T locs cells slots) (hx : p.tables.exec = Jvm.exec) {n : Fin 4} {x z : Int64} (hd : Dc c.code pc (.lstore_n n) 1 pc') (hz : z = x) (hs : storeLocals Ls n.val (.long z) = some Ls') (k : Go p e below s Q C S (T.setTop (mkF m pc' Ls' (rest)))) : Go p e below s Q C S (T.setTop (mkF m pc Ls (.long x :: rest))) := by
  obtain ⟨hd, rfl⟩ := hd; subst hz; exact k.step fun _ t => XS.lstoreN X.here hx rfl hd rfl hs t
theorem w_aload (X : Stand p l e R s m args below meth c T locs cells slots) (hx : p.tables.exec = Jvm.exec) {n : Nat} {v : Value} (hd : Dc c.code pc (.aload n) 2 pc') (hl : Ls[n]? = some (.val v)) (hv : v.isRef = true) (k : Go p e below s Q C S (T.setTop (mkF m pc' Ls (v :: rest)))) : Go p e below s Q C S (T.setTop (mkF m pc Ls (rest))) := by
  obtain ⟨hd, rfl⟩ := hd; exact k.step fun _ t => XS.aload X.here hx rfl hd hl hv t
theorem w_aloadN (X : Stand p l e R s m args below meth c T locs cells slots) (hx : p.tables.exec = Jvm.exec) {n : Fin 4} {v : Value} (hd : Dc c.code pc (.aload_n n) 1 pc') (hl : Ls[n.val]? = some (.val v)) (hv : v.isRef = true) (k : Go p e below s Q C S (T.setTop (mkF m pc' Ls (v :: rest)))) : Go p e below s Q C S (T.setTop (mkF m pc Ls (rest))) := by
  obtain ⟨hd, rfl⟩ := hd; exact k.step fun _ t => XS.aloadN X.here hx rfl hd hl hv t
theorem w_astore (X : Stand p l e R s m args below meth c T locs cells slots) (hx : p.tables.exec = Jvm.exec) {n : Nat} {v : Value} (hd : Dc c.code pc (.astore n) 2 pc') (hv : v.isRef = true) (hs : storeLocals Ls n v = some Ls') (k : Go p e below s Q C S (T.setTop (mkF m pc' Ls' (rest)))) : Go p e below s Q C S (T.setTop (mkF m pc Ls (v :: rest))) := by
  obtain ⟨hd, rfl⟩ := hd; exact k.step fun _ t => XS.astore X.here hx rfl hd rfl hv hs t
theorem w_astoreN (X : Stand p l e R s m args below meth c T locs cells slots) (hx : p.tables.exec = Jvm.exec) {n : Fin 4} {v : Value} (hd : Dc c.code pc (.astore_n n) 1 pc') (hv : v.isRef = true) (hs : storeLocals Ls n.val v = some Ls') (k : Go p e below s Q C S (T.setTop (mkF m pc' Ls' (rest)))) : Go p e below s Q C S (T.setTop (mkF m pc Ls (v :: rest))) := by
  obtain ⟨hd, rfl⟩ := hd; exact k.step fun _ t => XS.astoreN X.here hx rfl hd rfl hv hs t
theorem w_iconst (X : Stand p l e R s m args below meth c T locs cells slots) (hx : p.tables.exec = Jvm.exec) {i : Int} {z : Int32} (hd : Dc c.code pc (.iconst i) 1 pc') (hz : Int32.ofInt i = z) (k : Go p e below s Q C S (T.setTop (mkF m pc' Ls (.int z :: rest)))) : Go p e below s Q C S (T.setTop (mkF m pc Ls rest)) := by
  obtain ⟨hd, rfl⟩ := hd; subst hz; exact k.step fun _ t => XS.iconst X.here hx rfl hd t
theorem w_bipush (X : Stand p l e R s m args below meth c T locs cells slots) (hx : p.tables.exec = Jvm.exec) {i : Int} {z : Int32} (hd : Dc c.code pc (.bipush i) 2 pc') (hz : (Int8.ofInt i).toInt32 = z) (k : Go p e below s Q C S (T.setTop (mkF m pc' Ls (.int z :: rest)))) : Go p e below s Q C S (T.setTop (mkF m pc Ls rest)) := by
  obtain ⟨hd, rfl⟩ := hd; subst hz; exact k.step fun _ t => XS.bipush X.here hx rfl hd t
theorem w_sipush (X : Stand p l e R s m args below meth c T locs cells slots) (hx : p.tables.exec = Jvm.exec) {i : Int} {z : Int32} (hd : Dc c.code pc (.sipush i) 3 pc') (hz : (Int16.ofInt i).toInt32 = z) (k : Go p e below s Q C S (T.setTop (mkF m pc' Ls (.int z :: rest)))) : Go p e below s Q C S (T.setTop (mkF m pc Ls rest)) := by
  obtain ⟨hd, rfl⟩ := hd; subst hz; exact k.step fun _ t => XS.sipush X.here hx rfl hd t
theorem w_lconst (X : Stand p l e R s m args below meth c T locs cells slots) (hx : p.tables.exec = Jvm.exec) {i : Fin 2} {z : Int64} (hd : Dc c.code pc (.lconst i) 1 pc') (hz : Int64.ofNat i = z) (k : Go p e below s Q C S (T.setTop (mkF m pc' Ls (.long z :: rest)))) : Go p e below s Q C S (T.setTop (mkF m pc Ls rest)) := by
  obtain ⟨hd, rfl⟩ := hd; subst hz; exact k.step fun _ t => XS.lconst X.here hx rfl hd t
theorem w_null (X : Stand p l e R s m args below meth c T locs cells slots) (hx : p.tables.exec = Jvm.exec) (hd : Dc c.code pc .aconst_null 1 pc') (k : Go p e below s Q C S (T.setTop (mkF m pc' Ls (.null :: rest)))) : Go p e below s Q C S (T.setTop (mkF m pc Ls rest)) := by
  obtain ⟨hd, rfl⟩ := hd; exact k.step fun _ t => XS.aconstNull X.here hx rfl hd t
theorem w_ldc (X : Stand p l e R s m args below meth c T locs cells slots) (hx : p.tables.exec = Jvm.exec) (hZ : Z.Warmed39 s.vm) {own : String} {index : Nat} {z : Int32} (hown : s.vm.findClass own = some m.cls) (w : (Jvm.Cond.constant own index z).before a0 Z = true) (hd : Dc c.code pc (.ldc index) 2 pc') (k : Go p e below s Q C S (T.setTop (mkF m pc' Ls (.int z :: rest)))) : Go p e below s Q C S (T.setTop (mkF m pc Ls rest)) := by
  obtain ⟨hd, rfl⟩ := hd; exact k.step fun t q => X.ldcInt hx hown (mvT hZ w) (g := mkF m pc Ls rest) rfl hd t q
theorem w_ldcw (X : Stand p l e R s m args below meth c T locs cells slots) (hx : p.tables.exec = Jvm.exec) (hZ : Z.Warmed39 s.vm) {own : String} {index : Nat} {z : Int32} (hown : s.vm.findClass own = some m.cls) (w : (Jvm.Cond.constant own index z).before a0 Z = true) (hd : Dc c.code pc (.ldc_w index) 3 pc') (k : Go p e below s Q C S (T.setTop (mkF m pc' Ls (.int z :: rest)))) : Go p e below s Q C S (T.setTop (mkF m pc Ls rest)) := by
  obtain ⟨hd, rfl⟩ := hd; exact k.step fun t q => X.ldcwInt hx hown (mvT hZ w) (g := mkF m pc Ls rest) rfl hd t q
theorem w_ldc2 (X : Stand p l e R s m args below meth c T locs cells slots) (hx : p.tables.exec = Jvm.exec) (hZ : Z.Warmed39 s.vm) {own : String} {index : Nat} {z : Int64} (hown : s.vm.findClass own = some m.cls) (w : (Jvm.Cond.constantLong own index z).before a0 Z = true) (hd : Dc c.code pc (.ldc2_w index) 3 pc') (k : Go p e below s Q C S (T.setTop (mkF m pc' Ls (.long z :: rest)))) : Go p e below s Q C S (T.setTop (mkF m pc Ls rest)) := by
  obtain ⟨hd, rfl⟩ := hd; exact k.step fun t q => X.ldc2Long hx hown (mvT hZ w) (g := mkF m pc Ls rest) rfl hd t q
theorem w_iinc (X : Stand p l e R s m args below meth c T locs cells slots) (hx : p.tables.exec = Jvm.exec) {n : Nat} {i : Int} {x z : Int32} (hd : Dc c.code pc (.iinc n i) 3 pc') (hl : Ls[n]? = some (.val (.int x))) (hz : x + Int32.ofInt i = z) (hs : storeLocals Ls n (.int z) = some Ls') (k : Go p e below s Q C S (T.setTop (mkF m pc' Ls' rest))) : Go p e below s Q C S (T.setTop (mkF m pc Ls rest)) := by
  obtain ⟨hd, rfl⟩ := hd; subst hz; exact k.step fun _ t => XS.iinc X.here hx rfl hd hl hs t
/-! arithmetic -/
def IShl (x y : Int32) : Int32 := x <<< (y &&& 31)
def IShr (x y : Int32) : Int32 := x >>> (y &&& 31)
def IUshr (x y : Int32) : Int32 := (x.toUInt32 >>> (y &&& 31).toUInt32).toInt32
def LShl (x : Int64) (y : Int32) : Int64 := x <<< (y &&& 0x3f).toInt64
def LShr (x : Int64) (y : Int32) : Int64 := x >>> (y &&& 0x3f).toInt64
def LUshr (x : Int64) (y : Int32) : Int64 := (x.toUInt64 >>> (y &&& 0x3f).toInt64.toUInt64).toInt64
theorem w_iadd (X : Stand p l e R s m args below meth c T locs cells slots) (hx : p.tables.exec = Jvm.exec) {x y : Int32} (hd : Dc c.code pc .iadd 1 pc') (k : Go p e below s Q C S (T.setTop (mkF m pc' Ls (.int (x + y) :: rest)))) : Go p e below s Q C S (T.setTop (mkF m pc Ls (.int y :: .int x :: rest))) := by
  obtain ⟨hd, rfl⟩ := hd; exact k.step fun _ t => XS.iadd X.here hx rfl hd rfl t
theorem w_isub (X : Stand p l e R s m args below meth c T locs cells slots) (hx : p.tables.exec = Jvm.exec) {x y : Int32} (hd : Dc c.code pc .isub 1 pc') (k : Go p e below s Q C S (T.setTop (mkF m pc' Ls (.int (x - y) :: rest)))) : Go p e below s Q C S (T.setTop (mkF m pc Ls (.int y :: .int x :: rest))) := by
  obtain ⟨hd, rfl⟩ := hd; exact k.step fun _ t => XS.isub X.here hx rfl hd rfl t
theorem w_imul (X : Stand p l e R s m args below meth c T locs cells slots) (hx : p.tables.exec = Jvm.exec) {x y : Int32} (hd : Dc c.code pc .imul 1 pc') (k : Go p e below s Q C S (T.setTop (mkF m pc' Ls (.int (x * y) :: rest)))) : Go p e below s Q C S (T.setTop (mkF m pc Ls (.int y :: .int x :: rest))) := by
  obtain ⟨hd, rfl⟩ := hd; exact k.step fun _ t => XS.imul X.here hx rfl hd rfl t
theorem w_iand (X : Stand p l e R s m args below meth c T locs cells slots) (hx : p.tables.exec = Jvm.exec) {x y : Int32} (hd : Dc c.code pc .iand 1 pc') (k : Go p e below s Q C S (T.setTop (mkF m pc' Ls (.int (x &&& y) :: rest)))) : Go p e below s Q C S (T.setTop (mkF m pc Ls (.int y :: .int x :: rest))) := by
  obtain ⟨hd, rfl⟩ := hd; exact k.step fun _ t => XS.iand X.here hx rfl hd rfl t
theorem w_ior (X : Stand p l e R s m args below meth c T locs cells slots) (hx : p.tables.exec = Jvm.exec) {x y : Int32} (hd : Dc c.code pc .ior 1 pc') (k : Go p e below s Q C S (T.setTop (mkF m pc' Ls (.int (x ||| y) :: rest)))) : Go p e below s Q C S (T.setTop (mkF m pc Ls (.int y :: .int x :: rest))) := by
  obtain ⟨hd, rfl⟩ := hd; exact k.step fun _ t => XS.ior X.here hx rfl hd rfl t
theorem w_ixor (X : Stand p l e R s m args below meth c T locs cells slots) (hx : p.tables.exec = Jvm.exec) {x y : Int32} (hd : Dc c.code pc .ixor 1 pc') (k : Go p e below s Q C S (T.setTop (mkF m pc' Ls (.int (x ^^^ y) :: rest)))) : Go p e below s Q C S (T.setTop (mkF m pc Ls (.int y :: .int x :: rest))) := by
  obtain ⟨hd, rfl⟩ := hd; exact k.step fun _ t => XS.ixor X.here hx rfl hd rfl t
theorem w_ishl (X : Stand p l e R s m args below meth c T locs cells slots) (hx : p.tables.exec = Jvm.exec) {x : Int32} {y : Int32} (hd : Dc c.code pc .ishl 1 pc') (k : Go p e below s Q C S (T.setTop (mkF m pc' Ls (.int (IShl x y) :: rest)))) : Go p e below s Q C S (T.setTop (mkF m pc Ls (.int y :: .int x :: rest))) := by
  obtain ⟨hd, rfl⟩ := hd; exact k.step fun _ t => XS.ishl X.here hx rfl hd rfl t
theorem w_ishr (X : Stand p l e R s m args below meth c T locs cells slots) (hx : p.tables.exec = Jvm.exec) {x : Int32} {y : Int32} (hd : Dc c.code pc .ishr 1 pc') (k : Go p e below s Q C S (T.setTop (mkF m pc' Ls (.int (IShr x y) :: rest)))) : Go p e below s Q C S (T.setTop (mkF m pc Ls (.int y :: .int x :: rest))) := by
  obtain ⟨hd, rfl⟩ := hd; exact k.step fun _ t => XS.ishr X.here hx rfl hd rfl t
theorem w_iushr (X : Stand p l e R s m args below meth c T locs cells slots) (hx : p.tables.exec = Jvm.exec) {x : Int32} {y : Int32} (hd : Dc c.code pc .iushr 1 pc') (k : Go p e below s Q C S (T.setTop (mkF m pc' Ls (.int (IUshr x y) :: rest)))) : Go p e below s Q C S (T.setTop (mkF m pc Ls (.int y :: .int x :: rest))) := by
  obtain ⟨hd, rfl⟩ := hd; exact k.step fun _ t => XS.iushr X.here hx rfl hd rfl t
theorem w_ladd (X : Stand p l e R s m args below meth c T locs cells slots) (hx : p.tables.exec = Jvm.exec) {x y : Int64} (hd : Dc c.code pc .ladd 1 pc') (k : Go p e below s Q C S (T.setTop (mkF m pc' Ls (.long (x + y) :: rest)))) : Go p e below s Q C S (T.setTop (mkF m pc Ls (.long y :: .long x :: rest))) := by
  obtain ⟨hd, rfl⟩ := hd; exact k.step fun _ t => XS.ladd X.here hx rfl hd rfl t
theorem w_lsub (X : Stand p l e R s m args below meth c T locs cells slots) (hx : p.tables.exec = Jvm.exec) {x y : Int64} (hd : Dc c.code pc .lsub 1 pc') (k : Go p e below s Q C S (T.setTop (mkF m pc' Ls (.long (x - y) :: rest)))) : Go p e below s Q C S (T.setTop (mkF m pc Ls (.long y :: .long x :: rest))) := by
  obtain ⟨hd, rfl⟩ := hd; exact k.step fun _ t => XS.lsub X.here hx rfl hd rfl t
theorem w_lmul (X : Stand p l e R s m args below meth c T locs cells slots) (hx : p.tables.exec = Jvm.exec) {x y : Int64} (hd : Dc c.code pc .lmul 1 pc') (k : Go p e below s Q C S (T.setTop (mkF m pc' Ls (.long (x * y) :: rest)))) : Go p e below s Q C S (T.setTop (mkF m pc Ls (.long y :: .long x :: rest))) := by
  obtain ⟨hd, rfl⟩ := hd; exact k.step fun _ t => XS.lmul X.here hx rfl hd rfl t
theorem w_land (X : Stand p l e R s m args below meth c T locs cells slots) (hx : p.tables.exec = Jvm.exec) {x y : Int64} (hd : Dc c.code pc .land 1 pc') (k : Go p e below s Q C S (T.setTop (mkF m pc' Ls (.long (x &&& y) :: rest)))) : Go p e below s Q C S (T.setTop (mkF m pc Ls (.long y :: .long x :: rest))) := by
  obtain ⟨hd, rfl⟩ := hd; exact k.step fun _ t => XS.land X.here hx rfl hd rfl t
theorem w_lor (X : Stand p l e R s m args below meth c T locs cells slots) (hx : p.tables.exec = Jvm.exec) {x y : Int64} (hd : Dc c.code pc .lor 1 pc') (k : Go p e below s Q C S (T.setTop (mkF m pc' Ls (.long (x ||| y) :: rest)))) : Go p e below s Q C S (T.setTop (mkF m pc Ls (.long y :: .long x :: rest))) := by
  obtain ⟨hd, rfl⟩ := hd; exact k.step fun _ t => XS.lor X.here hx rfl hd rfl t
theorem w_lxor (X : Stand p l e R s m args below meth c T locs cells slots) (hx : p.tables.exec = Jvm.exec) {x y : Int64} (hd : Dc c.code pc .lxor 1 pc') (k : Go p e below s Q C S (T.setTop (mkF m pc' Ls (.long (x ^^^ y) :: rest)))) : Go p e below s Q C S (T.setTop (mkF m pc Ls (.long y :: .long x :: rest))) := by
  obtain ⟨hd, rfl⟩ := hd; exact k.step fun _ t => XS.lxor X.here hx rfl hd rfl t
theorem w_lshl (X : Stand p l e R s m args below meth c T locs cells slots) (hx : p.tables.exec = Jvm.exec) {x : Int64} {y : Int32} (hd : Dc c.code pc .lshl 1 pc') (k : Go p e below s Q C S (T.setTop (mkF m pc' Ls (.long (LShl x y) :: rest)))) : Go p e below s Q C S (T.setTop (mkF m pc Ls (.int y :: .long x :: rest))) := by
  obtain ⟨hd, rfl⟩ := hd; exact k.step fun _ t => XS.lshl X.here hx rfl hd rfl t
theorem w_lshr (X : Stand p l e R s m args below meth c T locs cells slots) (hx : p.tables.exec = Jvm.exec) {x : Int64} {y : Int32} (hd : Dc c.code pc .lshr 1 pc') (k : Go p e below s Q C S (T.setTop (mkF m pc' Ls (.long (LShr x y) :: rest)))) : Go p e below s Q C S (T.setTop (mkF m pc Ls (.int y :: .long x :: rest))) := by
  obtain ⟨hd, rfl⟩ := hd; exact k.step fun _ t => XS.lshr X.here hx rfl hd rfl t
theorem w_lushr (X : Stand p l e R s m args below meth c T locs cells slots) (hx : p.tables.exec = Jvm.exec) {x : Int64} {y : Int32} (hd : Dc c.code pc .lushr 1 pc') (k : Go p e below s Q C S (T.setTop (mkF m pc' Ls (.long (LUshr x y) :: rest)))) : Go p e below s Q C S (T.setTop (mkF m pc Ls (.int y :: .long x :: rest))) := by
  obtain ⟨hd, rfl⟩ := hd; exact k.step fun _ t => XS.lushr X.here hx rfl hd rfl t
theorem w_ineg (X : Stand p l e R s m args below meth c T locs cells slots) (hx : p.tables.exec = Jvm.exec) {x : Int32} (hd : Dc c.code pc .ineg 1 pc') (k : Go p e below s Q C S (T.setTop (mkF m pc' Ls (.int (-x) :: rest)))) : Go p e below s Q C S (T.setTop (mkF m pc Ls (.int x :: rest))) := by
  obtain ⟨hd, rfl⟩ := hd; exact k.step fun _ t => XS.ineg X.here hx rfl hd rfl t
theorem w_lneg (X : Stand p l e R s m args below meth c T locs cells slots) (hx : p.tables.exec = Jvm.exec) {x : Int64} (hd : Dc c.code pc .lneg 1 pc') (k : Go p e below s Q C S (T.setTop (mkF m pc' Ls (.long (-x) :: rest)))) : Go p e below s Q C S (T.setTop (mkF m pc Ls (.long x :: rest))) := by
  obtain ⟨hd, rfl⟩ := hd; exact k.step fun _ t => XS.lneg X.here hx rfl hd rfl t
theorem w_i2l (X : Stand p l e R s m args below meth c T locs cells slots) (hx : p.tables.exec = Jvm.exec) {x : Int32} (hd : Dc c.code pc .i2l 1 pc') (k : Go p e below s Q C S (T.setTop (mkF m pc' Ls (.long (x.toInt64) :: rest)))) : Go p e below s Q C S (T.setTop (mkF m pc Ls (.int x :: rest))) := by
  obtain ⟨hd, rfl⟩ := hd; exact k.step fun _ t => XS.i2l X.here hx rfl hd rfl t
theorem w_l2i (X : Stand p l e R s m args below meth c T locs cells slots) (hx : p.tables.exec = Jvm.exec) {x : Int64} (hd : Dc c.code pc .l2i 1 pc') (k : Go p e below s Q C S (T.setTop (mkF m pc' Ls (.int (x.toInt32) :: rest)))) : Go p e below s Q C S (T.setTop (mkF m pc Ls (.long x :: rest))) := by
  obtain ⟨hd, rfl⟩ := hd; exact k.step fun _ t => XS.l2i X.here hx rfl hd rfl t
theorem w_i2b (X : Stand p l e R s m args below meth c T locs cells slots) (hx : p.tables.exec = Jvm.exec) {x : Int32} (hd : Dc c.code pc .i2b 1 pc') (k : Go p e below s Q C S (T.setTop (mkF m pc' Ls (.int (x.toInt8.toInt32) :: rest)))) : Go p e below s Q C S (T.setTop (mkF m pc Ls (.int x :: rest))) := by
  obtain ⟨hd, rfl⟩ := hd; exact k.step fun _ t => XS.i2b X.here hx rfl hd rfl t
theorem w_i2c (X : Stand p l e R s m args below meth c T locs cells slots) (hx : p.tables.exec = Jvm.exec) {x : Int32} (hd : Dc c.code pc .i2c 1 pc') (k : Go p e below s Q C S (T.setTop (mkF m pc' Ls (.int (x.toUInt32.toUInt16.toUInt32.toInt32) :: rest)))) : Go p e below s Q C S (T.setTop (mkF m pc Ls (.int x :: rest))) := by
  obtain ⟨hd, rfl⟩ := hd; exact k.step fun _ t => XS.i2c X.here hx rfl hd rfl t
theorem w_i2s (X : Stand p l e R s m args below meth c T locs cells slots) (hx : p.tables.exec = Jvm.exec) {x : Int32} (hd : Dc c.code pc .i2s 1 pc') (k : Go p e below s Q C S (T.setTop (mkF m pc' Ls (.int (x.toInt16.toInt32) :: rest)))) : Go p e below s Q C S (T.setTop (mkF m pc Ls (.int x :: rest))) := by
  obtain ⟨hd, rfl⟩ := hd; exact k.step fun _ t => XS.i2s X.here hx rfl hd rfl t
theorem w_idiv (X : Stand p l e R s m args below meth c T locs cells slots) (hx : p.tables.exec = Jvm.exec) {x y : Int32} (hd : Dc c.code pc .idiv 1 pc') (hy : y ≠ 0) (k : Go p e below s Q C S (T.setTop (mkF m pc' Ls (.int (x / y) :: rest)))) : Go p e below s Q C S (T.setTop (mkF m pc Ls (.int y :: .int x :: rest))) := by
  obtain ⟨hd, rfl⟩ := hd; exact k.step fun _ t => XS.idiv X.here hx rfl hd rfl hy t
theorem w_irem (X : Stand p l e R s m args below meth c T locs cells slots) (hx : p.tables.exec = Jvm.exec) {x y : Int32} (hd : Dc c.code pc .irem 1 pc') (hy : y ≠ 0) (k : Go p e below s Q C S (T.setTop (mkF m pc' Ls (.int (x % y) :: rest)))) : Go p e below s Q C S (T.setTop (mkF m pc Ls (.int y :: .int x :: rest))) := by
  obtain ⟨hd, rfl⟩ := hd; exact k.step fun _ t => iremM X hx rfl hd rfl hy t
theorem w_ldiv (X : Stand p l e R s m args below meth c T locs cells slots) (hx : p.tables.exec = Jvm.exec) {x y : Int64} (hd : Dc c.code pc .ldiv 1 pc') (hy : y ≠ 0) (k : Go p e below s Q C S (T.setTop (mkF m pc' Ls (.long (x / y) :: rest)))) : Go p e below s Q C S (T.setTop (mkF m pc Ls (.long y :: .long x :: rest))) := by
  obtain ⟨hd, rfl⟩ := hd; exact k.step fun _ t => XS.ldiv X.here hx rfl hd rfl hy t
theorem w_dup (X : Stand p l e R s m args below meth c T locs cells slots) (hx : p.tables.exec = Jvm.exec) {v : Value} (hd : Dc c.code pc .dup 1 pc') (hc : v.category = 1) (k : Go p e below s Q C S (T.setTop (mkF m pc' Ls (v :: v :: rest)))) : Go p e below s Q C S (T.setTop (mkF m pc Ls (v :: rest))) := by
  obtain ⟨hd, rfl⟩ := hd; exact k.step fun _ t => XS.dup X.here hx rfl hd rfl hc t
theorem w_dupx1 (X : Stand p l e R s m args below meth c T locs cells slots) (hx : p.tables.exec = Jvm.exec) {v w : Value} (hd : Dc c.code pc .dup_x1 1 pc') (hc : v.category = 1) (hc' : w.category = 1) (k : Go p e below s Q C S (T.setTop (mkF m pc' Ls (v :: w :: v :: rest)))) : Go p e below s Q C S (T.setTop (mkF m pc Ls (v :: w :: rest))) := by
  obtain ⟨hd, rfl⟩ := hd; exact k.step fun _ t => XS.dupX1 X.here hx rfl hd rfl hc hc' t
theorem w_dup2 (X : Stand p l e R s m args below meth c T locs cells slots) (hx : p.tables.exec = Jvm.exec) {v w : Value} (hd : Dc c.code pc .dup2 1 pc') (hc : v.category = 1) (hc' : w.category = 1) (k : Go p e below s Q C S (T.setTop (mkF m pc' Ls (v :: w :: v :: w :: rest)))) : Go p e below s Q C S (T.setTop (mkF m pc Ls (v :: w :: rest))) := by
  obtain ⟨hd, rfl⟩ := hd; exact k.step fun _ t => XT.dup2 X.here hx rfl hd rfl hc hc' t
theorem w_dup2L (X : Stand p l e R s m args below meth c T locs cells slots) (hx : p.tables.exec = Jvm.exec) {x : Int64} (hd : Dc c.code pc .dup2 1 pc') (k : Go p e below s Q C S (T.setTop (mkF m pc' Ls (.long x :: .long x :: rest)))) : Go p e below s Q C S (T.setTop (mkF m pc Ls (.long x :: rest))) := by
  obtain ⟨hd, rfl⟩ := hd; exact k.step fun _ t => XT.dup2L X.here hx rfl hd rfl t
theorem w_pop (X : Stand p l e R s m args below meth c T locs cells slots) (hx : p.tables.exec = Jvm.exec) {v : Value} (hd : Dc c.code pc .pop 1 pc') (hc : v.category = 1) (k : Go p e below s Q C S (T.setTop (mkF m pc' Ls rest))) : Go p e below s Q C S (T.setTop (mkF m pc Ls (v :: rest))) := by
  obtain ⟨hd, rfl⟩ := hd; exact k.step fun _ t => XS.pop X.here hx rfl hd rfl hc t
/-! branches -/
theorem w_goto (X : Stand p l e R s m args below meth c T locs cells slots) (hx : p.tables.exec = Jvm.exec) {o : Int} {pcT pcF : Nat} (hd : Dj c.code pc (.goto o) o pcT pcF) (k : Go p e below s Q C S (T.setTop (mkF m pcT Ls rest))) : Go p e below s Q C S (T.setTop (mkF m pc Ls rest)) := by
  obtain ⟨hd, ho, rfl, -⟩ := hd; exact k.step fun _ t => XS.goto X.here hx rfl rfl hd ho rfl t
theorem w_icmp_eq (X : Stand p l e R s m args below meth c T locs cells slots) (hx : p.tables.exec = Jvm.exec) {o : Int} {x y : Int32} {pcT pcF : Nat} (hd : Dj c.code pc (.if_icmp .eq o) o pcT pcF) (kt : x = y → Go p e below s Q C S (T.setTop (mkF m pcT Ls (rest)))) (kf : x ≠ y → Go p e below s Q C S (T.setTop (mkF m pcF Ls (rest)))) : Go p e below s Q C S (T.setTop (mkF m pc Ls (.int y :: .int x :: rest))) := by
  obtain ⟨hd, ho, rfl, rfl⟩ := hd
  by_cases hb : x = y
  · exact (kt hb).step fun _ t => XS.icmpYes X.here hx rfl rfl hd rfl (teq hb).1 ho rfl t
  · exact (kf hb).step fun _ t => XS.icmpNo X.here hx rfl hd rfl (feq hb).1 t
theorem w_if_eq (X : Stand p l e R s m args below meth c T locs cells slots) (hx : p.tables.exec = Jvm.exec) {o : Int} {x : Int32} {pcT pcF : Nat} (hd : Dj c.code pc (.ifCond .eq o) o pcT pcF) (kt : x = 0 → Go p e below s Q C S (T.setTop (mkF m pcT Ls (rest)))) (kf : x ≠ 0 → Go p e below s Q C S (T.setTop (mkF m pcF Ls (rest)))) : Go p e below s Q C S (T.setTop (mkF m pc Ls (.int x :: rest))) := by
  obtain ⟨hd, ho, rfl, rfl⟩ := hd
  have e0 : (0 : Int32).toInt = 0 := rfl
  by_cases hb : x = (0 : Int32)
  · exact (kt hb).step fun _ t => XS.ifYes X.here hx rfl rfl hd rfl ((if0 _ _).trans (teq hb).1) ho rfl t
  · exact (kf hb).step fun _ t => XS.ifNo X.here hx rfl hd rfl ((if0 _ _).trans (feq hb).1) t
theorem w_lcmp_eq (X : Stand p l e R s m args below meth c T locs cells slots) (hx : p.tables.exec = Jvm.exec) {o : Int} {x y : Int64} {pc1 pcT pcF : Nat} (hd1 : Dc c.code pc .lcmp 1 pc1) (hd : Dj c.code pc1 (.ifCond .eq o) o pcT pcF) (kt : x = y → Go p e below s Q C S (T.setTop (mkF m pcT Ls (rest)))) (kf : x ≠ y → Go p e below s Q C S (T.setTop (mkF m pcF Ls (rest)))) : Go p e below s Q C S (T.setTop (mkF m pc Ls (.long y :: .long x :: rest))) := by
  obtain ⟨hd1, rfl⟩ := hd1
  refine Go.step (fun _ t => XS.lcmp X.here hx rfl hd1 rfl t) ?_
  exact w_if_eq X hx hd (fun q => kt ((lw_eq x y).mp q)) (fun q => kf (fun r => q ((lw_eq x y).mpr r)))
theorem w_icmp_ne (X : Stand p l e R s m args below meth c T locs cells slots) (hx : p.tables.exec = Jvm.exec) {o : Int} {x y : Int32} {pcT pcF : Nat} (hd : Dj c.code pc (.if_icmp .ne o) o pcT pcF) (kt : x ≠ y → Go p e below s Q C S (T.setTop (mkF m pcT Ls (rest)))) (kf : x = y → Go p e below s Q C S (T.setTop (mkF m pcF Ls (rest)))) : Go p e below s Q C S (T.setTop (mkF m pc Ls (.int y :: .int x :: rest))) := by
  obtain ⟨hd, ho, rfl, rfl⟩ := hd
  by_cases hb : x = y
  · exact (kf hb).step fun _ t => XS.icmpNo X.here hx rfl hd rfl (teq hb).2 t
  · exact (kt hb).step fun _ t => XS.icmpYes X.here hx rfl rfl hd rfl (feq hb).2 ho rfl t
theorem w_if_ne (X : Stand p l e R s m args below meth c T locs cells slots) (hx : p.tables.exec = Jvm.exec) {o : Int} {x : Int32} {pcT pcF : Nat} (hd : Dj c.code pc (.ifCond .ne o) o pcT pcF) (kt : x ≠ 0 → Go p e below s Q C S (T.setTop (mkF m pcT Ls (rest)))) (kf : x = 0 → Go p e below s Q C S (T.setTop (mkF m pcF Ls (rest)))) : Go p e below s Q C S (T.setTop (mkF m pc Ls (.int x :: rest))) := by
  obtain ⟨hd, ho, rfl, rfl⟩ := hd
  have e0 : (0 : Int32).toInt = 0 := rfl
  by_cases hb : x = (0 : Int32)
  · exact (kf hb).step fun _ t => XS.ifNo X.here hx rfl hd rfl ((if0 _ _).trans (teq hb).2) t
  · exact (kt hb).step fun _ t => XS.ifYes X.here hx rfl rfl hd rfl ((if0 _ _).trans (feq hb).2) ho rfl t
theorem w_lcmp_ne (X : Stand p l e R s m args below meth c T locs cells slots) (hx : p.tables.exec = Jvm.exec) {o : Int} {x y : Int64} {pc1 pcT pcF : Nat} (hd1 : Dc c.code pc .lcmp 1 pc1) (hd : Dj c.code pc1 (.ifCond .ne o) o pcT pcF) (kt : x ≠ y → Go p e below s Q C S (T.setTop (mkF m pcT Ls (rest)))) (kf : x = y → Go p e below s Q C S (T.setTop (mkF m pcF Ls (rest)))) : Go p e below s Q C S (T.setTop (mkF m pc Ls (.long y :: .long x :: rest))) := by
  obtain ⟨hd1, rfl⟩ := hd1
  refine Go.step (fun _ t => XS.lcmp X.here hx rfl hd1 rfl t) ?_
  exact w_if_ne X hx hd (fun q => kt (fun r => q ((lw_eq x y).mpr r))) (fun q => kf ((lw_eq x y).mp q))
theorem w_icmp_lt (X : Stand p l e R s m args below meth c T locs cells slots) (hx : p.tables.exec = Jvm.exec) {o : Int} {x y : Int32} {pcT pcF : Nat} (hd : Dj c.code pc (.if_icmp .lt o) o pcT pcF) (kt : x.toInt < y.toInt → Go p e below s Q C S (T.setTop (mkF m pcT Ls (rest)))) (kf : y.toInt ≤ x.toInt → Go p e below s Q C S (T.setTop (mkF m pcF Ls (rest)))) : Go p e below s Q C S (T.setTop (mkF m pc Ls (.int y :: .int x :: rest))) := by
  obtain ⟨hd, ho, rfl, rfl⟩ := hd
  by_cases hb : x < y
  · exact (kt (Int32.lt_iff_toInt_lt.mp hb)).step fun _ t => XS.icmpYes X.here hx rfl rfl hd rfl (tlt hb).1 ho rfl t
  · exact (kf (by rw [Int32.lt_iff_toInt_lt] at hb; omega)).step fun _ t => XS.icmpNo X.here hx rfl hd rfl (flt hb).1 t
theorem w_if_lt (X : Stand p l e R s m args below meth c T locs cells slots) (hx : p.tables.exec = Jvm.exec) {o : Int} {x : Int32} {pcT pcF : Nat} (hd : Dj c.code pc (.ifCond .lt o) o pcT pcF) (kt : x.toInt < 0 → Go p e below s Q C S (T.setTop (mkF m pcT Ls (rest)))) (kf : 0 ≤ x.toInt → Go p e below s Q C S (T.setTop (mkF m pcF Ls (rest)))) : Go p e below s Q C S (T.setTop (mkF m pc Ls (.int x :: rest))) := by
  obtain ⟨hd, ho, rfl, rfl⟩ := hd
  have e0 : (0 : Int32).toInt = 0 := rfl
  by_cases hb : x < (0 : Int32)
  · exact (kt (by rw [Int32.lt_iff_toInt_lt] at hb; omega)).step fun _ t => XS.ifYes X.here hx rfl rfl hd rfl ((if0 _ _).trans (tlt hb).1) ho rfl t
  · exact (kf (by rw [Int32.lt_iff_toInt_lt] at hb; omega)).step fun _ t => XS.ifNo X.here hx rfl hd rfl ((if0 _ _).trans (flt hb).1) t
theorem w_lcmp_lt (X : Stand p l e R s m args below meth c T locs cells slots) (hx : p.tables.exec = Jvm.exec) {o : Int} {x y : Int64} {pc1 pcT pcF : Nat} (hd1 : Dc c.code pc .lcmp 1 pc1) (hd : Dj c.code pc1 (.ifCond .lt o) o pcT pcF) (kt : x.toInt < y.toInt → Go p e below s Q C S (T.setTop (mkF m pcT Ls (rest)))) (kf : y.toInt ≤ x.toInt → Go p e below s Q C S (T.setTop (mkF m pcF Ls (rest)))) : Go p e below s Q C S (T.setTop (mkF m pc Ls (.long y :: .long x :: rest))) := by
  obtain ⟨hd1, rfl⟩ := hd1
  have e0 : (0 : Int32).toInt = 0 := rfl
  have L : (lcmpW x y).toInt < 0 → x.toInt < y.toInt := fun q => by have := (lw_lt x y).mp (by rw [Int32.lt_iff_toInt_lt]; omega); rwa [Int64.lt_iff_toInt_lt] at this
  have N : 0 ≤ (lcmpW x y).toInt → y.toInt ≤ x.toInt := fun q => by
    have h1 : ¬ x < y := fun r => by have := (lw_lt x y).mpr r; rw [Int32.lt_iff_toInt_lt] at this; omega
    rw [Int64.lt_iff_toInt_lt] at h1; omega
  have M : 0 < (lcmpW x y).toInt → y.toInt < x.toInt := fun q => by have := (lw_gt x y).mp (by rw [Int32.lt_iff_toInt_lt]; omega); rwa [Int64.lt_iff_toInt_lt] at this
  have P : (lcmpW x y).toInt ≤ 0 → x.toInt ≤ y.toInt := fun q => by
    have h1 : ¬ y < x := fun r => by have := (lw_gt x y).mpr r; rw [Int32.lt_iff_toInt_lt] at this; omega
    rw [Int64.lt_iff_toInt_lt] at h1; omega
  refine Go.step (fun _ t => XS.lcmp X.here hx rfl hd1 rfl t) ?_
  exact w_if_lt X hx hd (fun q => kt (L q)) (fun q => kf (N q))
theorem w_icmp_ge (X : Stand p l e R s m args below meth c T locs cells slots) (hx : p.tables.exec = Jvm.exec) {o : Int} {x y : Int32} {pcT pcF : Nat} (hd : Dj c.code pc (.if_icmp .ge o) o pcT pcF) (kt : y.toInt ≤ x.toInt → Go p e below s Q C S (T.setTop (mkF m pcT Ls (rest)))) (kf : x.toInt < y.toInt → Go p e below s Q C S (T.setTop (mkF m pcF Ls (rest)))) : Go p e below s Q C S (T.setTop (mkF m pc Ls (.int y :: .int x :: rest))) := by
  obtain ⟨hd, ho, rfl, rfl⟩ := hd
  by_cases hb : x < y
  · exact (kf (Int32.lt_iff_toInt_lt.mp hb)).step fun _ t => XS.icmpNo X.here hx rfl hd rfl (tlt hb).2.1 t
  · exact (kt (by rw [Int32.lt_iff_toInt_lt] at hb; omega)).step fun _ t => XS.icmpYes X.here hx rfl rfl hd rfl (flt hb).2.1 ho rfl t
theorem w_if_ge (X : Stand p l e R s m args below meth c T locs cells slots) (hx : p.tables.exec = Jvm.exec) {o : Int} {x : Int32} {pcT pcF : Nat} (hd : Dj c.code pc (.ifCond .ge o) o pcT pcF) (kt : 0 ≤ x.toInt → Go p e below s Q C S (T.setTop (mkF m pcT Ls (rest)))) (kf : x.toInt < 0 → Go p e below s Q C S (T.setTop (mkF m pcF Ls (rest)))) : Go p e below s Q C S (T.setTop (mkF m pc Ls (.int x :: rest))) := by
  obtain ⟨hd, ho, rfl, rfl⟩ := hd
  have e0 : (0 : Int32).toInt = 0 := rfl
  by_cases hb : x < (0 : Int32)
  · exact (kf (by rw [Int32.lt_iff_toInt_lt] at hb; omega)).step fun _ t => XS.ifNo X.here hx rfl hd rfl ((if0 _ _).trans (tlt hb).2.1) t
  · exact (kt (by rw [Int32.lt_iff_toInt_lt] at hb; omega)).step fun _ t => XS.ifYes X.here hx rfl rfl hd rfl ((if0 _ _).trans (flt hb).2.1) ho rfl t
theorem w_lcmp_ge (X : Stand p l e R s m args below meth c T locs cells slots) (hx : p.tables.exec = Jvm.exec) {o : Int} {x y : Int64} {pc1 pcT pcF : Nat} (hd1 : Dc c.code pc .lcmp 1 pc1) (hd : Dj c.code pc1 (.ifCond .ge o) o pcT pcF) (kt : y.toInt ≤ x.toInt → Go p e below s Q C S (T.setTop (mkF m pcT Ls (rest)))) (kf : x.toInt < y.toInt → Go p e below s Q C S (T.setTop (mkF m pcF Ls (rest)))) : Go p e below s Q C S (T.setTop (mkF m pc Ls (.long y :: .long x :: rest))) := by
  obtain ⟨hd1, rfl⟩ := hd1
  have e0 : (0 : Int32).toInt = 0 := rfl
  have L : (lcmpW x y).toInt < 0 → x.toInt < y.toInt := fun q => by have := (lw_lt x y).mp (by rw [Int32.lt_iff_toInt_lt]; omega); rwa [Int64.lt_iff_toInt_lt] at this
  have N : 0 ≤ (lcmpW x y).toInt → y.toInt ≤ x.toInt := fun q => by
    have h1 : ¬ x < y := fun r => by have := (lw_lt x y).mpr r; rw [Int32.lt_iff_toInt_lt] at this; omega
    rw [Int64.lt_iff_toInt_lt] at h1; omega
  have M : 0 < (lcmpW x y).toInt → y.toInt < x.toInt := fun q => by have := (lw_gt x y).mp (by rw [Int32.lt_iff_toInt_lt]; omega); rwa [Int64.lt_iff_toInt_lt] at this
  have P : (lcmpW x y).toInt ≤ 0 → x.toInt ≤ y.toInt := fun q => by
    have h1 : ¬ y < x := fun r => by have := (lw_gt x y).mpr r; rw [Int32.lt_iff_toInt_lt] at this; omega
    rw [Int64.lt_iff_toInt_lt] at h1; omega
  refine Go.step (fun _ t => XS.lcmp X.here hx rfl hd1 rfl t) ?_
  exact w_if_ge X hx hd (fun q => kt (N q)) (fun q => kf (L q))
theorem w_icmp_gt (X : Stand p l e R s m args below meth c T locs cells slots) (hx : p.tables.exec = Jvm.exec) {o : Int} {x y : Int32} {pcT pcF : Nat} (hd : Dj c.code pc (.if_icmp .gt o) o pcT pcF) (kt : y.toInt < x.toInt → Go p e below s Q C S (T.setTop (mkF m pcT Ls (rest)))) (kf : x.toInt ≤ y.toInt → Go p e below s Q C S (T.setTop (mkF m pcF Ls (rest)))) : Go p e below s Q C S (T.setTop (mkF m pc Ls (.int y :: .int x :: rest))) := by
  obtain ⟨hd, ho, rfl, rfl⟩ := hd
  by_cases hb : y < x
  · exact (kt (Int32.lt_iff_toInt_lt.mp hb)).step fun _ t => XS.icmpYes X.here hx rfl rfl hd rfl (tlt hb).2.2.1 ho rfl t
  · exact (kf (by rw [Int32.lt_iff_toInt_lt] at hb; omega)).step fun _ t => XS.icmpNo X.here hx rfl hd rfl (flt hb).2.2.1 t
theorem w_if_gt (X : Stand p l e R s m args below meth c T locs cells slots) (hx : p.tables.exec = Jvm.exec) {o : Int} {x : Int32} {pcT pcF : Nat} (hd : Dj c.code pc (.ifCond .gt o) o pcT pcF) (kt : 0 < x.toInt → Go p e below s Q C S (T.setTop (mkF m pcT Ls (rest)))) (kf : x.toInt ≤ 0 → Go p e below s Q C S (T.setTop (mkF m pcF Ls (rest)))) : Go p e below s Q C S (T.setTop (mkF m pc Ls (.int x :: rest))) := by
  obtain ⟨hd, ho, rfl, rfl⟩ := hd
  have e0 : (0 : Int32).toInt = 0 := rfl
  by_cases hb : (0 : Int32) < x
  · exact (kt (by rw [Int32.lt_iff_toInt_lt] at hb; omega)).step fun _ t => XS.ifYes X.here hx rfl rfl hd rfl ((if0 _ _).trans (tlt hb).2.2.1) ho rfl t
  · exact (kf (by rw [Int32.lt_iff_toInt_lt] at hb; omega)).step fun _ t => XS.ifNo X.here hx rfl hd rfl ((if0 _ _).trans (flt hb).2.2.1) t
theorem w_lcmp_gt (X : Stand p l e R s m args below meth c T locs cells slots) (hx : p.tables.exec = Jvm.exec) {o : Int} {x y : Int64} {pc1 pcT pcF : Nat} (hd1 : Dc c.code pc .lcmp 1 pc1) (hd : Dj c.code pc1 (.ifCond .gt o) o pcT pcF) (kt : y.toInt < x.toInt → Go p e below s Q C S (T.setTop (mkF m pcT Ls (rest)))) (kf : x.toInt ≤ y.toInt → Go p e below s Q C S (T.setTop (mkF m pcF Ls (rest)))) : Go p e below s Q C S (T.setTop (mkF m pc Ls (.long y :: .long x :: rest))) := by
  obtain ⟨hd1, rfl⟩ := hd1
  have e0 : (0 : Int32).toInt = 0 := rfl
  have L : (lcmpW x y).toInt < 0 → x.toInt < y.toInt := fun q => by have := (lw_lt x y).mp (by rw [Int32.lt_iff_toInt_lt]; omega); rwa [Int64.lt_iff_toInt_lt] at this
  have N : 0 ≤ (lcmpW x y).toInt → y.toInt ≤ x.toInt := fun q => by
    have h1 : ¬ x < y := fun r => by have := (lw_lt x y).mpr r; rw [Int32.lt_iff_toInt_lt] at this; omega
    rw [Int64.lt_iff_toInt_lt] at h1; omega
  have M : 0 < (lcmpW x y).toInt → y.toInt < x.toInt := fun q => by have := (lw_gt x y).mp (by rw [Int32.lt_iff_toInt_lt]; omega); rwa [Int64.lt_iff_toInt_lt] at this
  have P : (lcmpW x y).toInt ≤ 0 → x.toInt ≤ y.toInt := fun q => by
    have h1 : ¬ y < x := fun r => by have := (lw_gt x y).mpr r; rw [Int32.lt_iff_toInt_lt] at this; omega
    rw [Int64.lt_iff_toInt_lt] at h1; omega
  refine Go.step (fun _ t => XS.lcmp X.here hx rfl hd1 rfl t) ?_
  exact w_if_gt X hx hd (fun q => kt (M q)) (fun q => kf (P q))
theorem w_icmp_le (X : Stand p l e R s m args below meth c T locs cells slots) (hx : p.tables.exec = Jvm.exec) {o : Int} {x y : Int32} {pcT pcF : Nat} (hd : Dj c.code pc (.if_icmp .le o) o pcT pcF) (kt : x.toInt ≤ y.toInt → Go p e below s Q C S (T.setTop (mkF m pcT Ls (rest)))) (kf : y.toInt < x.toInt → Go p e below s Q C S (T.setTop (mkF m pcF Ls (rest)))) : Go p e below s Q C S (T.setTop (mkF m pc Ls (.int y :: .int x :: rest))) := by
  obtain ⟨hd, ho, rfl, rfl⟩ := hd
  by_cases hb : y < x
  · exact (kf (Int32.lt_iff_toInt_lt.mp hb)).step fun _ t => XS.icmpNo X.here hx rfl hd rfl (tlt hb).2.2.2 t
  · exact (kt (by rw [Int32.lt_iff_toInt_lt] at hb; omega)).step fun _ t => XS.icmpYes X.here hx rfl rfl hd rfl (flt hb).2.2.2 ho rfl t
theorem w_if_le (X : Stand p l e R s m args below meth c T locs cells slots) (hx : p.tables.exec = Jvm.exec) {o : Int} {x : Int32} {pcT pcF : Nat} (hd : Dj c.code pc (.ifCond .le o) o pcT pcF) (kt : x.toInt ≤ 0 → Go p e below s Q C S (T.setTop (mkF m pcT Ls (rest)))) (kf : 0 < x.toInt → Go p e below s Q C S (T.setTop (mkF m pcF Ls (rest)))) : Go p e below s Q C S (T.setTop (mkF m pc Ls (.int x :: rest))) := by
  obtain ⟨hd, ho, rfl, rfl⟩ := hd
  have e0 : (0 : Int32).toInt = 0 := rfl
  by_cases hb : (0 : Int32) < x
  · exact (kf (by rw [Int32.lt_iff_toInt_lt] at hb; omega)).step fun _ t => XS.ifNo X.here hx rfl hd rfl ((if0 _ _).trans (tlt hb).2.2.2) t
  · exact (kt (by rw [Int32.lt_iff_toInt_lt] at hb; omega)).step fun _ t => XS.ifYes X.here hx rfl rfl hd rfl ((if0 _ _).trans (flt hb).2.2.2) ho rfl t
theorem w_lcmp_le (X : Stand p l e R s m args below meth c T locs cells slots) (hx : p.tables.exec = Jvm.exec) {o : Int} {x y : Int64} {pc1 pcT pcF : Nat} (hd1 : Dc c.code pc .lcmp 1 pc1) (hd : Dj c.code pc1 (.ifCond .le o) o pcT pcF) (kt : x.toInt ≤ y.toInt → Go p e below s Q C S (T.setTop (mkF m pcT Ls (rest)))) (kf : y.toInt < x.toInt → Go p e below s Q C S (T.setTop (mkF m pcF Ls (rest)))) : Go p e below s Q C S (T.setTop (mkF m pc Ls (.long y :: .long x :: rest))) := by
  obtain ⟨hd1, rfl⟩ := hd1
  have e0 : (0 : Int32).toInt = 0 := rfl
  have L : (lcmpW x y).toInt < 0 → x.toInt < y.toInt := fun q => by have := (lw_lt x y).mp (by rw [Int32.lt_iff_toInt_lt]; omega); rwa [Int64.lt_iff_toInt_lt] at this
  have N : 0 ≤ (lcmpW x y).toInt → y.toInt ≤ x.toInt := fun q => by
    have h1 : ¬ x < y := fun r => by have := (lw_lt x y).mpr r; rw [Int32.lt_iff_toInt_lt] at this; omega
    rw [Int64.lt_iff_toInt_lt] at h1; omega
  have M : 0 < (lcmpW x y).toInt → y.toInt < x.toInt := fun q => by have := (lw_gt x y).mp (by rw [Int32.lt_iff_toInt_lt]; omega); rwa [Int64.lt_iff_toInt_lt] at this
  have P : (lcmpW x y).toInt ≤ 0 → x.toInt ≤ y.toInt := fun q => by
    have h1 : ¬ y < x := fun r => by have := (lw_gt x y).mpr r; rw [Int32.lt_iff_toInt_lt] at this; omega
    rw [Int64.lt_iff_toInt_lt] at h1; omega
  refine Go.step (fun _ t => XS.lcmp X.here hx rfl hd1 rfl t) ?_
  exact w_if_le X hx hd (fun q => kt (P q)) (fun q => kf (M q))
theorem w_acmp (X : Stand p l e R s m args below meth c T locs cells slots) (hx : p.tables.exec = Jvm.exec) {o : Int} {cd : ClassFile.ACond} {x y : Value} {pcT pcF : Nat} (hd : Dj c.code pc (.if_acmp cd o) o pcT pcF) (h1 : x.isRef = true) (h2 : y.isRef = true) {b : Bool} (hb : acV cd (decide (x = y)) = b) (k : Go p e below s Q C S (T.setTop (mkF m (if b = true then pcT else pcF) Ls rest))) : Go p e below s Q C S (T.setTop (mkF m pc Ls (y :: x :: rest))) := by
  obtain ⟨hd, ho, rfl, rfl⟩ := hd; subst hb; exact k.step fun _ t => Jvm.RoadKit.acmp X hx rfl h1 h2 rfl hd rfl rfl ho rfl t
theorem w_ifnullR (X : Stand p l e R s m args below meth c T locs cells slots) (hx : p.tables.exec = Jvm.exec) {o : Int} {b : Addr} {pcT pcF : Nat} (hd : Dj c.code pc (.ifnull o) o pcT pcF) (k : Go p e below s Q C S (T.setTop (mkF m pcF Ls rest))) : Go p e below s Q C S (T.setTop (mkF m pc Ls (.ref b :: rest))) := by
  obtain ⟨hd, -, -, rfl⟩ := hd; exact k.step fun _ t => XS.ifnullNo X.here hx rfl hd rfl t
/-! returns -/
theorem w_ret (X : Stand p l e R s m args below meth c T locs cells slots) (hx : p.tables.exec = Jvm.exec) (hret : meth.sig.returnType = none) (hlk : meth.locks = false) (hd : Dc c.code pc .return_ 1 pc') (hC : cells ≤ C) (hS : slots ≤ S) (hQ : Q none T.heap locs) : Go p e below s Q C S (T.setTop (mkF m pc Ls [])) := by
  obtain ⟨fs, hr, hrun, hended, hW, hsame⟩ := X.leave (v := none) (fun _ => rfl) hlk
  exact ⟨_, _, X.returnOut hx hret hd.1 hr, hrun, hended, _, _, rfl, hQ, ⟨_, rfl⟩, hW, hsame.mono hC hS⟩
theorem w_retI (X : Stand p l e R s m args below meth c T locs cells slots) (hx : p.tables.exec = Jvm.exec) (hret : meth.sig.returnType = some .int) (hlk : meth.locks = false) {z : Int32} (hd : Dc c.code pc .ireturn 1 pc') (hC : cells ≤ C) (hS : slots ≤ S) (hQ : Q (some (.int z)) T.heap locs) : Go p e below s Q C S (T.setTop (mkF m pc Ls (.int z :: rest))) := by
  obtain ⟨fs, hr, hrun, hended, hW, hsame⟩ := X.leave (v := some (.int z)) (fun h => by rw [hret] at h; cases h) hlk
  exact ⟨_, _, retOut X hx hret rfl (Or.inl ⟨rfl, Or.inl rfl, _, rfl⟩) hd.1 hr, hrun, hended, _, _, rfl, hQ, ⟨_, rfl⟩, hW, hsame.mono hC hS⟩
theorem w_retN (X : Stand p l e R s m args below meth c T locs cells slots) (hx : p.tables.exec = Jvm.exec) {t : FieldType} (hret : meth.sig.returnType = some t) (ht : t = .boolean ∨ t = .byte ∨ t = .char ∨ t = .short) (hlk : meth.locks = false) {z : Int32} (hd : Dc c.code pc .ireturn 1 pc') (hC : cells ≤ C) (hS : slots ≤ S) (hQ : Q (some (.int (nar t z))) T.heap locs) : Go p e below s Q C S (T.setTop (mkF m pc Ls (.int z :: rest))) := by
  obtain ⟨fs, hr, hrun, hended, hW, hsame⟩ := X.leave (v := some (.int (nar t z))) (fun h => by rw [hret] at h; cases h) hlk
  exact ⟨_, _, retN X hx hret ht hd.1 hr, hrun, hended, _, _, rfl, hQ, ⟨_, rfl⟩, hW, hsame.mono hC hS⟩
theorem w_retJ (X : Stand p l e R s m args below meth c T locs cells slots) (hx : p.tables.exec = Jvm.exec) (hret : meth.sig.returnType = some .long) (hlk : meth.locks = false) {z : Int64} (hd : Dc c.code pc .lreturn 1 pc') (hC : cells ≤ C) (hS : slots ≤ S) (hQ : Q (some (.long z)) T.heap locs) : Go p e below s Q C S (T.setTop (mkF m pc Ls (.long z :: rest))) := by
  obtain ⟨fs, hr, hrun, hended, hW, hsame⟩ := X.leave (v := some (.long z)) (fun h => by rw [hret] at h; cases h) hlk
  exact ⟨_, _, retOut X hx hret rfl (Or.inr (Or.inl ⟨rfl, rfl, _, rfl⟩)) hd.1 hr, hrun, hended, _, _, rfl, hQ, ⟨_, rfl⟩, hW, hsame.mono hC hS⟩
theorem w_retA (X : Stand p l e R s m args below meth c T locs cells slots) (hx : p.tables.exec = Jvm.exec) {t : FieldType} {a : Addr} (hret : meth.sig.returnType = some t) (ht : t.isReference = true) (hn : narrow t (.ref a) = .ref a) (hlk : meth.locks = false) (hd : Dc c.code pc .areturn 1 pc') (hC : cells ≤ C) (hS : slots ≤ S) (hQ : Q (some (.ref a)) T.heap locs) : Go p e below s Q C S (T.setTop (mkF m pc Ls (.ref a :: rest))) := by
  obtain ⟨fs, hr, hrun, hended, hW, hsame⟩ := X.leave (v := some (.ref a)) (fun h => by rw [hret] at h; cases h) hlk
  exact ⟨_, _, retOut X hx hret hn (Or.inr (Or.inr (Or.inr (Or.inr ⟨rfl, ht, rfl⟩)))) hd.1 hr, hrun, hended, _, _, rfl, hQ, ⟨_, rfl⟩, hW, hsame.mono hC hS⟩
/-! contracts -/
def Ct (l : Launch) (Z : State) (y : MethodName) (bytes : ByteArray) (maxL : Nat) (ret : Option FieldType) (rm : Room) (as' : Array Value) (h : Heap) (Q : Option Value → Heap → List Loc → Prop) : Prop :=
  MetFree l y (head1 [Jvm.Cond.code y bytes maxL ret] rm) (fun a U => a = as' ∧ Z.Warmed39 U.vm ∧ U.heap = h) (fun _ _ _ _ _ => True) (fun _ U o U' => ∃ v L, o = .returned v ∧ Q v U'.heap L ∧ FrameEnd U o U' L rm.cells rm.slots)
theorem w_body {y : MethodName} {bytes : ByteArray} {maxL : Nat} {ret : Option FieldType} {rm : Room} {as' : Array Value} {ws : List Jvm.Cond} (hp : plainFor y = true)
    (body : ∀ (p : Program) (e : Env) (s : State) (m : MethodId) (below : List Frame) (meth : Method) (c : Code) (T : State), Stand p l e rm s m as' below meth c T [] 0 0 → p.tables.exec = Jvm.exec → c.code = bytes → c.maxLocals = maxL → s.vm.findClass y.cls = some m.cls → meth.name = y.name → meth.sig.returnType = ret → meth.locks = false → Z.Warmed39 s.vm → T.heap = h → Go p e below s Q C S (T.setTop (entryFrame m as' maxL))) :
    MetFree l y (head1 (Jvm.Cond.code y bytes maxL ret :: ws) rm) (fun a U => a = as' ∧ Z.Warmed39 U.vm ∧ U.heap = h) (fun _ _ _ _ _ => True) (fun _ U o U' => ∃ v L, o = .returned v ∧ Q v U'.heap L ∧ FrameEnd U o U' L C S) := by
  refine MetFree.of_bodySF hp hisR ?_
  intro p e s m args below meth c s₁ Bd hml0 hP hK
  obtain ⟨rfl, hZ, hh⟩ := hP
  exact body p e s m below meth c s₁ (Stand.of_body Bd) Bd.exec Bd.bytes hml0 (findClass_of_methodNamed Bd.named) (name_of_methodNamed Bd.named Bd.method).1 Bd.returns Bd.notSynchronized hZ (by rw [← hh, Bd.state]; rfl)
theorem Ct.body {y : MethodName} {bytes : ByteArray} {maxL : Nat} {ret : Option FieldType} {rm : Room} {as' : Array Value} (hp : plainFor y = true)
    (body : ∀ (p : Program) (e : Env) (s : State) (m : MethodId) (below : List Frame) (meth : Method) (c : Code) (T : State), Stand p l e rm s m as' below meth c T [] 0 0 → p.tables.exec = Jvm.exec → c.code = bytes → c.maxLocals = maxL → s.vm.findClass y.cls = some m.cls → meth.name = y.name → meth.sig.returnType = ret → meth.locks = false → Z.Warmed39 s.vm → T.heap = h → Go p e below s Q rm.cells rm.slots (T.setTop (entryFrame m as' maxL))) :
    Ct l Z y bytes maxL ret rm as' h Q := w_body hp body
/-! calls -/
theorem w_callS (X : Stand p l e R s m args below meth c T locs cells slots) (hx : p.tables.exec = Jvm.exec) (hZ : Z.Warmed39 s.vm) (eT : T.heap = h) {kk : Nat} (hml : c.maxLocals = kk) (hkk : Ls.size = kk) {own : String} (hown : s.vm.findClass own = some m.cls) {index : Nat} {y : MethodName} {bytes : ByteArray} {maxL : Nat} {ret : Option FieldType} {rm : Room} {as' : Array Value} {Qc : Option Value → Heap → List Loc → Prop}
    (w1 : (Jvm.Cond.methodLink own index y).before a0 Z = true) (w2 : (Jvm.Cond.static y).before a0 Z = true) (w3 : (Jvm.Cond.initialized y.cls).before a0 Z = true) (w4 : (Jvm.Cond.code y bytes maxL ret).before a0 Z = true) (hy : y.cls ≠ "java/lang/invoke/MethodHandle" ∧ y.cls ≠ "java/lang/invoke/VarHandle")
    (hM : Ct l Z y bytes maxL ret rm as' h Qc) (hd : Dc c.code pc (.invokestatic index) 3 pc') {ps : List FieldType} {r : Option FieldType} (hpd : parseMethodDescriptor y.desc = some ⟨ps, r⟩) {argsL st rest : List Value} (has : argsL.toArray = as') (hst : st = argsL.reverse ++ rest) (hlen : argsL.length = ps.length) {W : Nat} (hW : (rest.map fun v => v.category).sum = W)
    (hf : rm.frames + 1 ≤ R.frames) (hl : W + (maxL + 11) + rm.locals ≤ R.locals) (hcl : cells + rm.cells ≤ R.cells) (hsl : slots + rm.slots ≤ R.slots)
    (k : ∀ (v : Option Value) (T' : State) (L : List Loc), Stand p l e R s m args below meth c T' (locs ++ L) (cells + rm.cells) (slots + rm.slots) → Qc v T'.heap L → Go p e below s Q C S (T'.setTop (mkF m pc' Ls (v.toList ++ rest)))) :
    Go p e below s Q C S (T.setTop (mkF m pc Ls st)) := by
  subst hst has hW
  obtain ⟨hd, rfl⟩ := hd
  obtain ⟨v, _, ⟨T', L', k', n'⟩, -, X', ⟨Lc, hQ, e1, e2, e3⟩, st⟩ := Jvm.LawKit.callS X hx (y := y) hown (mvT hZ w1) (mvT hZ w2) (mvT hZ w3) (mvT hZ w4) hy (backOf (W := (rest.map fun v => v.category).sum) hM hZ w4 w3 hf hl) (g := mkF m pc Ls (argsL.reverse ++ rest)) rfl (hkk.trans hml.symm) (argsL := argsL) (rest := rest) (lenOf hpd hlen) rfl (by show 2 * 0 + _ ≤ _; omega) hd (fun _ _ => ⟨rfl, eT, hcl, hsl⟩)
  dsimp only [Pt.U, Pt.locs, Pt.cells, Pt.slots] at X' e1 e2 e3 st hQ
  subst e1 e2 e3
  exact (k v T' Lc X' hQ).step st
theorem w_callV (X : Stand p l e R s m args below meth c T locs cells slots) (hx : p.tables.exec = Jvm.exec) (hZ : Z.Warmed39 s.vm) (eT : T.heap = h) {kk : Nat} (hml : c.maxLocals = kk) (hkk : Ls.size = kk) {own : String} (hown : s.vm.findClass own = some m.cls) {index : Nat} {y : MethodName} {bytes : ByteArray} {maxL : Nat} {ret : Option FieldType} {rm : Room} {as' : Array Value} {Qc : Option Value → Heap → List Loc → Prop}
    (w1 : (Jvm.Cond.methodLink own index y).before a0 Z = true) (w2 : (Jvm.Cond.declares y).before a0 Z = true) (w5 : (Jvm.Cond.selects y.cls y y).before a0 Z = true) (w6 : (Jvm.Cond.instanceMethod y).before a0 Z = true) (w3 : (Jvm.Cond.initialized y.cls).before a0 Z = true) (w4 : (Jvm.Cond.code y bytes maxL ret).before a0 Z = true) (hy : y.cls ≠ "java/lang/invoke/MethodHandle" ∧ y.cls ≠ "java/lang/invoke/VarHandle")
    (hM : Ct l Z y bytes maxL ret rm as' h Qc) {b : Addr} (E : Exa Z h b y.cls) (hd : Dc c.code pc (.invokevirtual index) 3 pc') {ps : List FieldType} {r : Option FieldType} (hpd : parseMethodDescriptor y.desc = some ⟨ps, r⟩) {argsL st rest : List Value} (has : (.ref b :: argsL).toArray = as') (hst : st = argsL.reverse ++ .ref b :: rest) (hlen : argsL.length = ps.length) {W : Nat} (hW : (rest.map fun v => v.category).sum = W)
    (hf : rm.frames + 1 ≤ R.frames) (hl : W + (maxL + 11) + rm.locals ≤ R.locals) (hcl : cells + rm.cells ≤ R.cells) (hsl : slots + rm.slots ≤ R.slots)
    (k : ∀ (v : Option Value) (T' : State) (L : List Loc), Stand p l e R s m args below meth c T' (locs ++ L) (cells + rm.cells) (slots + rm.slots) → Qc v T'.heap L → Go p e below s Q C S (T'.setTop (mkF m pc' Ls (v.toList ++ rest)))) :
    Go p e below s Q C S (T.setTop (mkF m pc Ls st)) := by
  subst hst has hW
  obtain ⟨hd, rfl⟩ := hd
  obtain ⟨cq, kq, qa, qb, qc⟩ := isOf hZ eT E
  obtain ⟨v, _, ⟨T', L', k', n'⟩, -, X', ⟨Lc, hQ, e1, e2, e3⟩, st⟩ := X.virtualBack hx (y := y) (z := y) hown (mvT hZ w1) (mvT hZ w2) (notFace_of_selects (args := #[]) (mvT hZ w5)) (mvT hZ w5) (mvT hZ w6) hy (backOf (W := (rest.map fun v => v.category).sum) hM hZ w4 w3 hf hl) qa qc (g := mkF m pc Ls (argsL.reverse ++ .ref b :: rest)) rfl (hkk.trans hml.symm) (Steps.refl _) (argsL := argsL) (rest := rest) (lenOf hpd hlen) rfl (by show 2 * 0 + _ ≤ _; omega) hd (fun _ _ => ⟨rfl, eT, hcl, hsl⟩)
  dsimp only [Pt.U, Pt.locs, Pt.cells, Pt.slots] at X' e1 e2 e3 st hQ
  subst e1 e2 e3
  exact (k v T' Lc X' hQ).step fun _ q => st.trans q
theorem w_callSP (X : Stand p l e R s m args below meth c T locs cells slots) (hx : p.tables.exec = Jvm.exec) (hZ : Z.Warmed39 s.vm) (eT : T.heap = h) {kk : Nat} (hml : c.maxLocals = kk) (hkk : Ls.size = kk) {own : String} (hown : s.vm.findClass own = some m.cls) {index : Nat} {y : MethodName} {bytes : ByteArray} {maxL : Nat} {ret : Option FieldType} {f lo : Nat} {as' : Array Value} {rv : Value}
    (w1 : (Jvm.Cond.methodLink own index y).before a0 Z = true) (w2 : (Jvm.Cond.static y).before a0 Z = true) (w3 : (Jvm.Cond.initialized y.cls).before a0 Z = true) (w4 : (Jvm.Cond.code y bytes maxL ret).before a0 Z = true) (hy : y.cls ≠ "java/lang/invoke/MethodHandle" ∧ y.cls ≠ "java/lang/invoke/VarHandle")
    (hM : Ct l Z y bytes maxL ret ({ frames := f, cells := 0, slots := 0, locals := lo } : Room) as' h (fun v h' L => v = some rv ∧ h' = h ∧ L = [])) (hd : Dc c.code pc (.invokestatic index) 3 pc') {ps : List FieldType} {r : Option FieldType} (hpd : parseMethodDescriptor y.desc = some ⟨ps, r⟩) {argsL st rest : List Value} (has : argsL.toArray = as') (hst : st = argsL.reverse ++ rest) (hlen : argsL.length = ps.length) {W : Nat} (hW : (rest.map fun v => v.category).sum = W)
    (hf : f + 1 ≤ R.frames) (hl : W + (maxL + 11) + lo ≤ R.locals) (hcl : cells ≤ R.cells) (hsl : slots ≤ R.slots)
    (k : ∀ T', Stand p l e R s m args below meth c T' locs cells slots → T'.heap = h → Go p e below s Q C S (T'.setTop (mkF m pc' Ls (rv :: rest)))) :
    Go p e below s Q C S (T.setTop (mkF m pc Ls st)) := by
  refine w_callS X hx hZ eT hml hkk hown w1 w2 w3 w4 hy hM hd hpd has hst hlen hW hf hl hcl hsl fun v T' L X' hQ => ?_
  obtain ⟨rfl, e', rfl⟩ := hQ
  rw [List.append_nil] at X'
  exact k T' X' e'
theorem w_callVP (X : Stand p l e R s m args below meth c T locs cells slots) (hx : p.tables.exec = Jvm.exec) (hZ : Z.Warmed39 s.vm) (eT : T.heap = h) {kk : Nat} (hml : c.maxLocals = kk) (hkk : Ls.size = kk) {own : String} (hown : s.vm.findClass own = some m.cls) {index : Nat} {y : MethodName} {bytes : ByteArray} {maxL : Nat} {ret : Option FieldType} {f lo : Nat} {as' : Array Value} {rv : Value}
    (w1 : (Jvm.Cond.methodLink own index y).before a0 Z = true) (w2 : (Jvm.Cond.declares y).before a0 Z = true) (w5 : (Jvm.Cond.selects y.cls y y).before a0 Z = true) (w6 : (Jvm.Cond.instanceMethod y).before a0 Z = true) (w3 : (Jvm.Cond.initialized y.cls).before a0 Z = true) (w4 : (Jvm.Cond.code y bytes maxL ret).before a0 Z = true) (hy : y.cls ≠ "java/lang/invoke/MethodHandle" ∧ y.cls ≠ "java/lang/invoke/VarHandle")
    (hM : Ct l Z y bytes maxL ret ({ frames := f, cells := 0, slots := 0, locals := lo } : Room) as' h (fun v h' L => v = some rv ∧ h' = h ∧ L = [])) {b : Addr} (E : Exa Z h b y.cls) (hd : Dc c.code pc (.invokevirtual index) 3 pc') {ps : List FieldType} {r : Option FieldType} (hpd : parseMethodDescriptor y.desc = some ⟨ps, r⟩) {argsL st rest : List Value} (has : (.ref b :: argsL).toArray = as') (hst : st = argsL.reverse ++ .ref b :: rest) (hlen : argsL.length = ps.length) {W : Nat} (hW : (rest.map fun v => v.category).sum = W)
    (hf : f + 1 ≤ R.frames) (hl : W + (maxL + 11) + lo ≤ R.locals) (hcl : cells ≤ R.cells) (hsl : slots ≤ R.slots)
    (k : ∀ T', Stand p l e R s m args below meth c T' locs cells slots → T'.heap = h → Go p e below s Q C S (T'.setTop (mkF m pc' Ls (rv :: rest)))) :
    Go p e below s Q C S (T.setTop (mkF m pc Ls st)) := by
  refine w_callV X hx hZ eT hml hkk hown w1 w2 w5 w6 w3 w4 hy hM E hd hpd has hst hlen hW hf hl hcl hsl fun v T' L X' hQ => ?_
  obtain ⟨rfl, e', rfl⟩ := hQ
  rw [List.append_nil] at X'
  exact k T' X' e'
theorem w_callI (X : Stand p l e R s m args below meth c T locs cells slots) (hx : p.tables.exec = Jvm.exec) (hZ : Z.Warmed39 s.vm) (eT : T.heap = h) {kk : Nat} (hml : c.maxLocals = kk) (hkk : Ls.size = kk) {own : String} (hown : s.vm.findClass own = some m.cls) {index : Nat} {y : MethodName} {bytes : ByteArray} {maxL : Nat} {rm : Room} {as' : Array Value} {Qc : Option Value → Heap → List Loc → Prop} (hy1 : y.name = "<init>")
    (w1 : (Jvm.Cond.methodLink own index y).before a0 Z = true) (w6 : (Jvm.Cond.instanceMethod y).before a0 Z = true) (w3 : (Jvm.Cond.initialized y.cls).before a0 Z = true) (w4 : (Jvm.Cond.code y bytes maxL none).before a0 Z = true) (hy : y.cls ≠ "java/lang/invoke/MethodHandle" ∧ y.cls ≠ "java/lang/invoke/VarHandle")
    (hM : Ct l Z y bytes maxL none rm as' h Qc) {b : Addr} (hd : Dc c.code pc (.invokespecial index) 3 pc') {ps : List FieldType} {r : Option FieldType} (hpd : parseMethodDescriptor y.desc = some ⟨ps, r⟩) {argsL st rest : List Value} (has : (.ref b :: argsL).toArray = as') (hst : st = argsL.reverse ++ .ref b :: rest) (hlen : argsL.length = ps.length) {W : Nat} (hW : (rest.map fun v => v.category).sum = W)
    (hf : rm.frames + 1 ≤ R.frames) (hl : W + (maxL + 11) + rm.locals ≤ R.locals) (hcl : cells + rm.cells ≤ R.cells) (hsl : slots + rm.slots ≤ R.slots)
    (k : ∀ (v : Option Value) (T' : State) (L : List Loc), Stand p l e R s m args below meth c T' (locs ++ L) (cells + rm.cells) (slots + rm.slots) → Qc v T'.heap L → Go p e below s Q C S (T'.setTop (mkF m pc' Ls (v.toList ++ rest)))) :
    Go p e below s Q C S (T.setTop (mkF m pc Ls st)) := by
  subst hst has hW
  obtain ⟨hd, rfl⟩ := hd
  obtain ⟨v, _, ⟨T', L', k', n'⟩, -, X', ⟨Lc, hQ, e1, e2, e3⟩, st⟩ := X.specialBack hx (y := y) hy1 hown (mvT hZ w1) (mvT hZ w6) (mvT hZ w4) hy (backOf (W := (rest.map fun v => v.category).sum) hM hZ w4 w3 hf hl) (g := mkF m pc Ls (argsL.reverse ++ .ref b :: rest)) rfl (hkk.trans hml.symm) (Steps.refl _) (a := b) (argsL := argsL) (rest := rest) (lenOf hpd hlen) rfl (by show 2 * 0 + _ ≤ _; omega) hd (fun _ _ => ⟨rfl, eT, hcl, hsl⟩)
  dsimp only [Pt.U, Pt.locs, Pt.cells, Pt.slots] at X' e1 e2 e3 st hQ
  subst e1 e2 e3
  exact (k v T' Lc X' hQ).step fun _ q => st.trans q
theorem w_objinit (X : Stand p l e R s m args below meth c T locs cells slots) (hx : p.tables.exec = Jvm.exec) (hZ : Z.Warmed39 s.vm) (eT : T.heap = h) {kk : Nat} (hml : c.maxLocals = kk) (hkk : Ls.size = kk) {own : String} (hown : s.vm.findClass own = some m.cls) {index : Nat}
    (w1 : (Jvm.Cond.methodLink own index Lib.objectInit).before a0 Z = true) (w2 : (Jvm.Cond.instanceMethod Lib.objectInit).before a0 Z = true) (w3 : (Jvm.Cond.code Lib.objectInit ⟨#[0xb1]⟩ 1 none).before a0 Z = true) (hd : Dc c.code pc (.invokespecial index) 3 pc') {a : Addr} (hf : 1 ≤ R.frames) {W : Nat} (hW : (rest.map fun v => v.category).sum = W) (hl : W + 12 ≤ R.locals)
    (k : ∀ T', Stand p l e R s m args below meth c T' locs cells slots → T'.heap = h → Go p e below s Q C S (T'.setTop (mkF m pc' Ls rest))) : Go p e below s Q C S (T.setTop (mkF m pc Ls (.ref a :: rest))) := by
  obtain ⟨hd, rfl⟩ := hd
  obtain ⟨T', X', e', st⟩ := initO X hx hZ hown w1 w2 w3 eT (g := mkF m pc Ls (.ref a :: rest)) rfl (hkk.trans hml.symm) rfl hd hf (W := W) (by show 2 * 0 + _ ≤ _; omega) hl
  exact (k T' X' e').step st
/-! fields -/
theorem w_getf (X : Stand p l e R s m args below meth c T locs cells slots) (hx : p.tables.exec = Jvm.exec) (hZ : Z.Warmed39 s.vm) (eT : T.heap = h) {own O n d : String} {index : Nat} (hown : s.vm.findClass own = some m.cls) (w : (Jvm.Cond.fieldLink own index O n d).before a0 Z = true) {a : Addr} {v : Value} (F : Fld Z h a O n d v) (hd : Dc c.code pc (.getfield index) 3 pc')
    (k : ∀ T', Stand p l e R s m args below meth c T' locs cells slots → T'.heap = h → Go p e below s Q C S (T'.setTop (mkF m pc' Ls (v :: rest)))) : Go p e below s Q C S (T.setTop (mkF m pc Ls (.ref a :: rest))) := by
  obtain ⟨hd, rfl⟩ := hd
  obtain ⟨T', X', e', st⟩ := getF X hx hZ hown (host := "") (Or.inl w) Via.refl eT F (g := mkF m pc Ls (.ref a :: rest)) rfl rfl hd
  exact (k T' X' e').step st
theorem w_putf (X : Stand p l e R s m args below meth c T locs cells slots) (hx : p.tables.exec = Jvm.exec) (hZ : Z.Warmed39 s.vm) (eT : T.heap = h) {own O n d : String} {index kk : Nat} {ty : FieldType} (hown : s.vm.findClass own = some m.cls) (w : (Jvm.Cond.fieldLink own index O n d).before a0 Z = true) {a : Addr} {v old : Value} (F : Fld Z h a O n d old) (E : Exa Z h a O) (L : (Jvm.Cond.lays O O n d).before a0 Z = true ∨ ((Jvm.Cond.laysFinal O O n d).before a0 Z = true ∧ own = O ∧ meth.name = "<init>")) (wi : (Jvm.Cond.instantiable O kk).before a0 Z = true)
    (hty : parseFieldDescriptor d = some ty) (hn : narrow ty v = v) (hf : fits ty v = true) (hd : Dc c.code pc (.putfield index) 3 pc')
    (k : ∀ T' h', Stand p l e R s m args below meth c T' (locs ++ [⟨a, Jvm.RoadKit.slotOf Z O n d⟩]) cells slots → T'.heap = h' → Wr h h' a (Jvm.RoadKit.slotOf Z O n d) v → Go p e below s Q C S (T'.setTop (mkF m pc' Ls rest))) : Go p e below s Q C S (T.setTop (mkF m pc Ls (v :: .ref a :: rest))) := by
  obtain ⟨hd, rfl⟩ := hd
  obtain ⟨T', h', X', e', W, st⟩ := putF X hx hZ hown (host := "") (Or.inl w) Via.refl eT F E L wi hty hn hf (g := mkF m pc Ls (v :: .ref a :: rest)) rfl rfl hd
  exact (k T' h' X' e' W).step st
theorem w_new (X : Stand p l e R s m args below meth c T locs cells slots) (hx : p.tables.exec = Jvm.exec) (hZ : Z.Warmed39 s.vm) (eT : T.heap = h) {own K : String} {index n : Nat} (hown : s.vm.findClass own = some m.cls) (w : (Jvm.Cond.classLink own index K).before a0 Z = true) (wi : (Jvm.Cond.instantiable K n).before a0 Z = true) (wz : (Jvm.Cond.initialized K).before a0 Z = true) (hd : Dc c.code pc (.new index) 3 pc') (hcl : cells + 1 ≤ R.cells) (hsl : slots + n ≤ R.slots)
    (k : ∀ T' h' b, b = h.size → Stand p l e R s m args below meth c T' locs (cells + 1) (slots + n) → T'.heap = h' → Ext h h' → Exa Z h' b K → (∀ {O nm d : String} {ty : FieldType}, Laid Z a0 K O nm d → parseFieldDescriptor d = some ty → Fld Z h' b O nm d (defaultValue ty)) → Go p e below s Q C S (T'.setTop (mkF m pc' Ls (.ref b :: rest)))) : Go p e below s Q C S (T.setTop (mkF m pc Ls rest)) := by
  obtain ⟨hd, rfl⟩ := hd
  obtain ⟨T', h', X', e', E, A, D, -, st⟩ := newO X hx hZ hown w wi wz eT (g := mkF m pc Ls rest) rfl hd hcl hsl
  exact (k T' h' _ rfl X' e' E A D).step st
/-! arrays: n places, place i holds f i -/
def AV (Z : State) (h : Heap) (a : Addr) (ty : FieldType) (n : Nat) (f : Nat → Value) : Prop := n < 2 ^ 31 ∧ ∃ cl : Cell, Arr Z h a cl ty ∧ cl.slots.size = n ∧ ∀ i, i < n → cl.slots[i]? = some (f i)
theorem AV.lt {a : Addr} {ty : FieldType} {n : Nat} {f : Nat → Value} (A : AV Z h a ty n f) : a < h.size := by obtain ⟨-, c, A, -⟩ := A; exact A.lt
theorem AV.ext {a : Addr} {ty : FieldType} {n : Nat} {f : Nat → Value} {h' : Heap} (A : AV Z h a ty n f) (E : Ext h h') : AV Z h' a ty n f := by obtain ⟨h1, c, A, r⟩ := A; exact ⟨h1, c, A.ext E, r⟩
theorem AV.other {a b : Addr} {ty : FieldType} {n sl : Nat} {v : Value} {f : Nat → Value} {h' : Heap} (A : AV Z h a ty n f) (W : Wr h h' b sl v) (q : a ≠ b) : AV Z h' a ty n f := by obtain ⟨h1, c, A, r⟩ := A; exact ⟨h1, c, A.other W q, r⟩
theorem AV.keep {a : Addr} {ty : FieldType} {n : Nat} {ws : List Addr} {f : Nat → Value} {h' : Heap} (A : AV Z h a ty n f) (K : Keep h h' ws) (q : a ∉ ws) : AV Z h' a ty n f := by obtain ⟨h1, c, A, r⟩ := A; exact ⟨h1, c, ⟨K.2.1 a c A.1 q, A.2⟩, r⟩
theorem AV.congr {a : Addr} {ty : FieldType} {n : Nat} {f g : Nat → Value} (A : AV Z h a ty n f) (q : ∀ i, i < n → f i = g i) : AV Z h a ty n g := by obtain ⟨h1, c, A, r1, r2⟩ := A; exact ⟨h1, c, A, r1, fun i hi => by rw [r2 i hi, q i hi]⟩
theorem av_idx {j : Int32} {i n : Nat} {cl : Cell} (hj : j.toInt = (i : Int)) (hi : i < n) (hc : cl.slots.size = n) : ¬ (j < 0 ∨ cl.slots.size ≤ j.toNatClampNeg) ∧ j.toNatClampNeg = i := by
  have e0 : (0 : Int32).toInt = 0 := rfl
  simp only [Int32.lt_iff_toInt_lt, Int32.toNatClampNeg, e0, hj, hc]; omega
def put (f : Nat → Value) (i : Nat) (v : Value) : Nat → Value := fun k => if k = i then v else f k
theorem put_at (f : Nat → Value) (i : Nat) (v : Value) : put f i v i = v := by simp [put]
theorem put_ne (f : Nat → Value) {i k : Nat} (v : Value) (q : k ≠ i) : put f i v k = f k := by simp [put, q]
theorem AV.same {a : Addr} {ty : FieldType} {n : Nat} {v : Value} {f : Nat → Value} {h' : Heap} {i : Nat} (A : AV Z h a ty n f) (hi : i < n) (W : Wr h h' a i v) : AV Z h' a ty n (put f i v) := by
  obtain ⟨h1, c, A, r1, r2⟩ := A
  refine ⟨h1, _, A.same W, by rw [sz_set]; exact r1, fun k hk => ?_⟩
  by_cases u : k = i
  · subst u; rw [put_at]; simp [Cell.setSlot, r1, hk]
  · rw [put_ne _ _ u]; simp only [Cell.setSlot]; rw [Array.getElem?_setIfInBounds_ne (Ne.symm u)]; exact r2 k hk
theorem w_newarr (X : Stand p l e R s m args below meth c T locs cells slots) (hx : p.tables.exec = Jvm.exec) (hZ : Z.Warmed39 s.vm) (eT : T.heap = h) {aty : ArrayType} (w : (Jvm.Cond.arrayClass (newarray.typeOf aty)).before a0 Z = true) (hd : Dc c.code pc (.newarray aty) 2 pc') {z : Int32} {n cap : Nat} (hz : z.toInt = (n : Int)) (hcap : n ≤ cap) (hb : cap * 8 ≤ 536870912) (hcl : cells + 1 ≤ R.cells) (hsl : slots + cap ≤ R.slots)
    (k : ∀ T' h' b, b = h.size → Stand p l e R s m args below meth c T' locs (cells + 1) (slots + cap) → T'.heap = h' → Ext h h' → AV Z h' b (newarray.typeOf aty) n (fun _ => defaultValue (newarray.typeOf aty)) → Go p e below s Q C S (T'.setTop (mkF m pc' Ls (.ref b :: rest)))) : Go p e below s Q C S (T.setTop (mkF m pc Ls (.int z :: rest))) := by
  obtain ⟨hd, rfl⟩ := hd
  have e0 : (0 : Int32).toInt = 0 := rfl
  have hn : ¬ z < 0 := by rw [Int32.lt_iff_toInt_lt]; omega
  have en : z.toNatClampNeg = n := by simp only [Int32.toNatClampNeg]; omega
  have hlt := Int32.toInt_lt z
  obtain ⟨T', h', cA, X', e', E, A, st⟩ := newP X hx hZ w eT (g := mkF m pc Ls (.int z :: rest)) rfl hd rfl hn (cap := cap) (by omega) hb hcl hsl
  refine (k T' h' _ rfl X' e' E ⟨by omega, _, A, by rw [sz_new]; exact en, fun i hi => ?_⟩).step st
  simp [newA, en, hi]
theorem w_arrlen (X : Stand p l e R s m args below meth c T locs cells slots) (hx : p.tables.exec = Jvm.exec) (hZ : Z.Warmed39 s.vm) (eT : T.heap = h) {a : Addr} {ty : FieldType} {n : Nat} {f : Nat → Value} (A : AV Z h a ty n f) {z : Int32} (hz : z.toInt = (n : Int)) (hd : Dc c.code pc .arraylength 1 pc') (k : Go p e below s Q C S (T.setTop (mkF m pc' Ls (.int z :: rest)))) : Go p e below s Q C S (T.setTop (mkF m pc Ls (.ref a :: rest))) := by
  obtain ⟨hd, rfl⟩ := hd
  obtain ⟨h1, c, A, r1, -⟩ := A
  have ez : z = c.slots.size.toInt32 := Int32.toInt_inj.mp (by rw [len_toInt (by omega), hz, r1])
  subst ez
  exact k.step fun t q => X.arraylength hx (by rw [eT]; exact A.1) (State.isArrayOf_alike hZ.alike A.2.1) (g := mkF m pc Ls (.ref a :: rest)) rfl rfl hd t q
def iF (g : Nat → Int32) : Nat → Value := fun k => .int (g k)
def lF (g : Nat → Int64) : Nat → Value := fun k => .long (g k)
def upd {α : Type} (g : Nat → α) (i : Nat) (v : α) : Nat → α := fun k => if k = i then v else g k
theorem upd_at {α : Type} (g : Nat → α) (i : Nat) (v : α) : upd g i v i = v := by simp [upd]
theorem upd_ne {α : Type} (g : Nat → α) {i k : Nat} (v : α) (q : k ≠ i) : upd g i v k = g k := by simp [upd, q]
theorem put_iF (g : Nat → Int32) (i : Nat) (v : Int32) : put (iF g) i (.int v) = iF (upd g i v) := by funext k; simp only [put, iF, upd]; split <;> rfl
theorem put_lF (g : Nat → Int64) (i : Nat) (v : Int64) : put (lF g) i (.long v) = lF (upd g i v) := by funext k; simp only [put, lF, upd]; split <;> rfl
theorem w_baload (X : Stand p l e R s m args below meth c T locs cells slots) (hx : p.tables.exec = Jvm.exec) (hZ : Z.Warmed39 s.vm) (eT : T.heap = h) {a : Addr} {n : Nat} {g : Nat → Int32} (A : AV Z h a .byte n (iF g)) {j : Int32} {i : Nat} (hj : j.toInt = (i : Int)) (hi : i < n) {z : Int32} (hv : g i = z) (hd : Dc c.code pc .baload 1 pc') (k : Go p e below s Q C S (T.setTop (mkF m pc' Ls (.int z :: rest)))) : Go p e below s Q C S (T.setTop (mkF m pc Ls (.int j :: .ref a :: rest))) := by
  obtain ⟨hd, rfl⟩ := hd
  subst hv
  obtain ⟨h1, cl, A, r1, r2⟩ := A
  obtain ⟨q1, q2⟩ := av_idx hj hi r1
  exact k.step fun t q => X.baloadBytes hx (by rw [eT]; exact A.1) (State.isArrayOf_alike hZ.alike A.2.1) A.2.2 q1 (by rw [q2, r2 i hi]; rfl) (g := mkF m pc Ls (.int j :: .ref a :: rest)) rfl rfl hd t q
theorem w_iaload (X : Stand p l e R s m args below meth c T locs cells slots) (hx : p.tables.exec = Jvm.exec) (hZ : Z.Warmed39 s.vm) (eT : T.heap = h) {a : Addr} {n : Nat} {g : Nat → Int32} (A : AV Z h a .int n (iF g)) {j : Int32} {i : Nat} (hj : j.toInt = (i : Int)) (hi : i < n) {z : Int32} (hv : g i = z) (hd : Dc c.code pc .iaload 1 pc') (k : Go p e below s Q C S (T.setTop (mkF m pc' Ls (.int z :: rest)))) : Go p e below s Q C S (T.setTop (mkF m pc Ls (.int j :: .ref a :: rest))) := by
  obtain ⟨hd, rfl⟩ := hd
  subst hv
  obtain ⟨h1, cl, A, r1, r2⟩ := A
  obtain ⟨q1, q2⟩ := av_idx hj hi r1
  exact k.step fun t q => X.iaload hx (by rw [eT]; exact A.1) (State.isArrayOf_alike hZ.alike A.2.1) A.2.2 q1 (by rw [q2, r2 i hi]; rfl) (g := mkF m pc Ls (.int j :: .ref a :: rest)) rfl rfl hd t q
theorem w_laload (X : Stand p l e R s m args below meth c T locs cells slots) (hx : p.tables.exec = Jvm.exec) (hZ : Z.Warmed39 s.vm) (eT : T.heap = h) {a : Addr} {n : Nat} {g : Nat → Int64} (A : AV Z h a .long n (lF g)) {j : Int32} {i : Nat} (hj : j.toInt = (i : Int)) (hi : i < n) {z : Int64} (hv : g i = z) (hd : Dc c.code pc .laload 1 pc') (k : Go p e below s Q C S (T.setTop (mkF m pc' Ls (.long z :: rest)))) : Go p e below s Q C S (T.setTop (mkF m pc Ls (.int j :: .ref a :: rest))) := by
  obtain ⟨hd, rfl⟩ := hd
  subst hv
  obtain ⟨h1, cl, A, r1, r2⟩ := A
  obtain ⟨q1, q2⟩ := av_idx hj hi r1
  exact k.step fun t q => X.laload hx (by rw [eT]; exact A.1) (State.isArrayOf_alike hZ.alike A.2.1) A.2.2 q1 (by rw [q2, r2 i hi]; rfl) (g := mkF m pc Ls (.int j :: .ref a :: rest)) rfl rfl hd t q
theorem w_zaload (X : Stand p l e R s m args below meth c T locs cells slots) (hx : p.tables.exec = Jvm.exec) (hZ : Z.Warmed39 s.vm) (eT : T.heap = h) {a : Addr} {n : Nat} {g : Nat → Int32} (A : AV Z h a .boolean n (iF g)) {j : Int32} {i : Nat} (hj : j.toInt = (i : Int)) (hi : i < n) {z : Int32} (hv : g i = z) (hd : Dc c.code pc .baload 1 pc') (k : Go p e below s Q C S (T.setTop (mkF m pc' Ls (.int z :: rest)))) : Go p e below s Q C S (T.setTop (mkF m pc Ls (.int j :: .ref a :: rest))) := by
  obtain ⟨hd, rfl⟩ := hd
  subst hv
  obtain ⟨h1, cl, A, r1, r2⟩ := A
  obtain ⟨q1, q2⟩ := av_idx hj hi r1
  exact k.step fun t q => X.baloadBooleans hx (by rw [eT]; exact A.1) (State.isArrayOf_alike hZ.alike A.2.1) A.2.2 q1 (by rw [q2, r2 i hi]; rfl) (g := mkF m pc Ls (.int j :: .ref a :: rest)) rfl rfl hd t q
theorem w_bastore (X : Stand p l e R s m args below meth c T locs cells slots) (hx : p.tables.exec = Jvm.exec) (hZ : Z.Warmed39 s.vm) (eT : T.heap = h) {a : Addr} {n : Nat} {g : Nat → Int32} (A : AV Z h a .byte n (iF g)) {j : Int32} {x : Int32} {i : Nat} (hj : j.toInt = (i : Int)) (hi : i < n) (hd : Dc c.code pc .bastore 1 pc')
    (k : ∀ T' h', Stand p l e R s m args below meth c T' (locs ++ [⟨a, i⟩]) cells slots → T'.heap = h' → Wr h h' a i (.int (x.toInt8.toInt32)) → AV Z h' a .byte n (iF (upd g i (x.toInt8.toInt32))) → Go p e below s Q C S (T'.setTop (mkF m pc' Ls rest))) : Go p e below s Q C S (T.setTop (mkF m pc Ls (.int x :: .int j :: .ref a :: rest))) := by
  obtain ⟨hd, rfl⟩ := hd
  have A' := A
  obtain ⟨h1, cl, A, r1, r2⟩ := A
  obtain ⟨q1, q2⟩ := av_idx hj hi r1
  obtain ⟨T', h', X', e', W, st⟩ := stB X hx hZ eT A (j := j) q1 (g := mkF m pc Ls (.int x :: .int j :: .ref a :: rest)) rfl rfl hd
  rw [q2] at X' W
  exact (k T' h' X' e' W (put_iF g i _ ▸ A'.same hi W)).step st
theorem w_zastore (X : Stand p l e R s m args below meth c T locs cells slots) (hx : p.tables.exec = Jvm.exec) (hZ : Z.Warmed39 s.vm) (eT : T.heap = h) {a : Addr} {n : Nat} {g : Nat → Int32} (A : AV Z h a .boolean n (iF g)) {j : Int32} {x : Int32} {i : Nat} (hj : j.toInt = (i : Int)) (hi : i < n) (hd : Dc c.code pc .bastore 1 pc')
    (k : ∀ T' h', Stand p l e R s m args below meth c T' (locs ++ [⟨a, i⟩]) cells slots → T'.heap = h' → Wr h h' a i (.int (x &&& 1)) → AV Z h' a .boolean n (iF (upd g i (x &&& 1))) → Go p e below s Q C S (T'.setTop (mkF m pc' Ls rest))) : Go p e below s Q C S (T.setTop (mkF m pc Ls (.int x :: .int j :: .ref a :: rest))) := by
  obtain ⟨hd, rfl⟩ := hd
  have A' := A
  obtain ⟨h1, cl, A, r1, r2⟩ := A
  obtain ⟨q1, q2⟩ := av_idx hj hi r1
  obtain ⟨T', h', X', e', W, st⟩ := stZ X hx hZ eT A (j := j) q1 (g := mkF m pc Ls (.int x :: .int j :: .ref a :: rest)) rfl rfl hd
  rw [q2] at X' W
  exact (k T' h' X' e' W (put_iF g i _ ▸ A'.same hi W)).step st
theorem w_iastore (X : Stand p l e R s m args below meth c T locs cells slots) (hx : p.tables.exec = Jvm.exec) (hZ : Z.Warmed39 s.vm) (eT : T.heap = h) {a : Addr} {n : Nat} {g : Nat → Int32} (A : AV Z h a .int n (iF g)) {j : Int32} {x : Int32} {i : Nat} (hj : j.toInt = (i : Int)) (hi : i < n) (hd : Dc c.code pc .iastore 1 pc')
    (k : ∀ T' h', Stand p l e R s m args below meth c T' (locs ++ [⟨a, i⟩]) cells slots → T'.heap = h' → Wr h h' a i (.int (x)) → AV Z h' a .int n (iF (upd g i (x))) → Go p e below s Q C S (T'.setTop (mkF m pc' Ls rest))) : Go p e below s Q C S (T.setTop (mkF m pc Ls (.int x :: .int j :: .ref a :: rest))) := by
  obtain ⟨hd, rfl⟩ := hd
  have A' := A
  obtain ⟨h1, cl, A, r1, r2⟩ := A
  obtain ⟨q1, q2⟩ := av_idx hj hi r1
  obtain ⟨T', h', X', e', W, st⟩ := stI X hx hZ eT A (j := j) q1 (g := mkF m pc Ls (.int x :: .int j :: .ref a :: rest)) rfl rfl hd
  rw [q2] at X' W
  exact (k T' h' X' e' W (put_iF g i _ ▸ A'.same hi W)).step st
theorem w_lastore (X : Stand p l e R s m args below meth c T locs cells slots) (hx : p.tables.exec = Jvm.exec) (hZ : Z.Warmed39 s.vm) (eT : T.heap = h) {a : Addr} {n : Nat} {g : Nat → Int64} (A : AV Z h a .long n (lF g)) {j : Int32} {x : Int64} {i : Nat} (hj : j.toInt = (i : Int)) (hi : i < n) (hd : Dc c.code pc .lastore 1 pc')
    (k : ∀ T' h', Stand p l e R s m args below meth c T' (locs ++ [⟨a, i⟩]) cells slots → T'.heap = h' → Wr h h' a i (.long (x)) → AV Z h' a .long n (lF (upd g i (x))) → Go p e below s Q C S (T'.setTop (mkF m pc' Ls rest))) : Go p e below s Q C S (T.setTop (mkF m pc Ls (.long x :: .int j :: .ref a :: rest))) := by
  obtain ⟨hd, rfl⟩ := hd
  have A' := A
  obtain ⟨h1, cl, A, r1, r2⟩ := A
  obtain ⟨q1, q2⟩ := av_idx hj hi r1
  obtain ⟨T', h', X', e', W, st⟩ := stJ X hx hZ eT A (j := j) q1 (g := mkF m pc Ls (.long x :: .int j :: .ref a :: rest)) rfl rfl hd
  rw [q2] at X' W
  exact (k T' h' X' e' W (put_lF g i _ ▸ A'.same hi W)).step st
end Kit
section Num
/-! numbers: an int's or a long's unsigned worth -/
def u32 (x : Int32) : Nat := x.toBitVec.toNat
def u64 (x : Int64) : Nat := x.toBitVec.toNat
theorem u32_lt (x : Int32) : u32 x < 4294967296 := x.toBitVec.isLt
theorem u64_lt (x : Int64) : u64 x < 18446744073709551616 := x.toBitVec.isLt
theorem i_u32 (x : Int32) : x.toInt = if u32 x < 2147483648 then (u32 x : Int) else (u32 x : Int) - 4294967296 := by
  show x.toBitVec.toInt = _
  rw [BitVec.toInt_eq_toNat_cond]; unfold u32; split <;> split <;> omega
theorem i_u64 (x : Int64) : x.toInt = if u64 x < 9223372036854775808 then (u64 x : Int) else (u64 x : Int) - 18446744073709551616 := by
  show x.toBitVec.toInt = _
  rw [BitVec.toInt_eq_toNat_cond]; unfold u64; split <;> split <;> omega
theorem u32_i (x : Int32) : (u32 x : Int) = x.toInt % 4294967296 := by have := u32_lt x; rw [i_u32]; split <;> omega
theorem u64_i (x : Int64) : (u64 x : Int) = x.toInt % 18446744073709551616 := by have := u64_lt x; rw [i_u64]; split <;> omega
theorem u32_inj {x y : Int32} (q : u32 x = u32 y) : x = y := Int32.toBitVec_inj.mp (BitVec.eq_of_toNat_eq q)
theorem u64_inj {x y : Int64} (q : u64 x = u64 y) : x = y := Int64.toBitVec_inj.mp (BitVec.eq_of_toNat_eq q)
theorem i32_inj {x y : Int32} (q : x.toInt = y.toInt) : x = y := Int32.toInt_inj.mp q
theorem i64_inj {x y : Int64} (q : x.toInt = y.toInt) : x = y := Int64.toInt_inj.mp q
theorem i32_ne {x y : Int32} (q : x ≠ y) : x.toInt ≠ y.toInt := fun e => q (Int32.toInt_inj.mp e)
theorem i64_ne {x y : Int64} (q : x ≠ y) : x.toInt ≠ y.toInt := fun e => q (Int64.toInt_inj.mp e)
theorem i_rng32 (x : Int32) : -2147483648 ≤ x.toInt ∧ x.toInt ≤ 2147483647 := by have := u32_lt x; rw [i_u32]; split <;> omega
theorem i_rng64 (x : Int64) : -9223372036854775808 ≤ x.toInt ∧ x.toInt ≤ 9223372036854775807 := by have := u64_lt x; rw [i_u64]; split <;> omega
theorem u32_and (x m : Int32) {k : Nat} (hm : u32 m = 2 ^ k - 1) : u32 (x &&& m) = u32 x % 2 ^ k := by
  unfold u32 at *; rw [Int32.toBitVec_and, BitVec.toNat_and, hm, Nat.and_two_pow_sub_one_eq_mod]
theorem u64_and (x m : Int64) {k : Nat} (hm : u64 m = 2 ^ k - 1) : u64 (x &&& m) = u64 x % 2 ^ k := by
  unfold u64 at *; rw [Int64.toBitVec_and, BitVec.toNat_and, hm, Nat.and_two_pow_sub_one_eq_mod]
theorem and_or64 (x y z : Int64) : x &&& (y ||| z) = (x &&& y) ||| (x &&& z) := by
  apply Int64.toBitVec_inj.mp
  simp only [Int64.toBitVec_and, Int64.toBitVec_or]
  exact BitVec.and_or_distrib_left
theorem or_add {a b : Nat} (k : Nat) (ha : a % 2 ^ k = 0) (hb : b < 2 ^ k) : a ||| b = a + b := by
  obtain ⟨q, rfl⟩ := Nat.dvd_of_mod_eq_zero ha
  exact (Nat.two_pow_add_eq_or_of_lt hb q).symm
theorem u32_or {x y : Int32} (k : Nat) (ha : u32 x % 2 ^ k = 0) (hb : u32 y < 2 ^ k) : u32 (x ||| y) = u32 x + u32 y := by
  unfold u32 at *; rw [Int32.toBitVec_or, BitVec.toNat_or, or_add k ha hb]
theorem u64_or {x y : Int64} (k : Nat) (ha : u64 x % 2 ^ k = 0) (hb : u64 y < 2 ^ k) : u64 (x ||| y) = u64 x + u64 y := by
  unfold u64 at *; rw [Int64.toBitVec_or, BitVec.toNat_or, or_add k ha hb]
theorem u32_add (x y : Int32) : u32 (x + y) = (u32 x + u32 y) % 4294967296 := by unfold u32; rw [Int32.toBitVec_add, BitVec.toNat_add]
theorem u64_add (x y : Int64) : u64 (x + y) = (u64 x + u64 y) % 18446744073709551616 := by unfold u64; rw [Int64.toBitVec_add, BitVec.toNat_add]
theorem i_ofNat {k : Nat} (hk : k < 2147483648) : (Int32.ofNat k).toInt = (k : Int) := Int32.toInt_ofNat_of_lt (by omega)
theorem of_i {y : Int32} {k : Nat} (q : y.toInt = (k : Int)) : y = Int32.ofNat k := by
  have := i_rng32 y
  exact Int32.toInt_inj.mp (by rw [i_ofNat (by omega)]; exact q)
theorem sh64a : ∀ k : Fin 64, (((Int32.ofNat k.val &&& 0x3f).toInt64).toBitVec.smod 64).toNat = k.val := by decide +kernel
theorem sh64b : ∀ k : Fin 64, ((Int32.ofNat k.val &&& 0x3f).toInt64.toUInt64.toBitVec % 64).toNat = k.val := by decide +kernel
theorem sh32a : ∀ k : Fin 32, ((Int32.ofNat k.val &&& 31).toBitVec.smod 32).toNat = k.val := by decide +kernel
theorem sh32b : ∀ k : Fin 32, ((Int32.ofNat k.val &&& 31).toUInt32.toBitVec % 32).toNat = k.val := by decide +kernel
theorem u_lshl (x : Int64) {y : Int32} {k : Nat} (q : y.toInt = (k : Int)) (hk : k < 64) : u64 (LShl x y) = u64 x * 2 ^ k % 18446744073709551616 := by
  have e := sh64a ⟨k, hk⟩
  rw [of_i q]; unfold u64 LShl
  rw [Int64.toBitVec_shiftLeft, BitVec.shiftLeft_eq', e, BitVec.toNat_shiftLeft, Nat.shiftLeft_eq]
theorem i_lshr (x : Int64) {y : Int32} {k : Nat} (q : y.toInt = (k : Int)) (hk : k < 64) : (LShr x y).toInt = x.toInt / 2 ^ k := by
  have e := sh64a ⟨k, hk⟩
  rw [of_i q]; unfold LShr
  exact Jvm.Kit.i64_shr x _ e
theorem u_lushr (x : Int64) {y : Int32} {k : Nat} (q : y.toInt = (k : Int)) (hk : k < 64) : u64 (LUshr x y) = u64 x / 2 ^ k := by
  have e := sh64b ⟨k, hk⟩
  rw [of_i q]; unfold u64 LUshr
  show (x.toUInt64 >>> (Int32.ofNat k &&& 0x3f).toInt64.toUInt64).toBitVec.toNat = _
  rw [UInt64.toBitVec_shiftRight, BitVec.ushiftRight_eq', e, BitVec.toNat_ushiftRight, Nat.shiftRight_eq_div_pow]; rfl
theorem u_ishl (x : Int32) {y : Int32} {k : Nat} (q : y.toInt = (k : Int)) (hk : k < 32) : u32 (IShl x y) = u32 x * 2 ^ k % 4294967296 := by
  have e := sh32a ⟨k, hk⟩
  rw [of_i q]; unfold u32 IShl
  rw [Int32.toBitVec_shiftLeft, BitVec.shiftLeft_eq', e, BitVec.toNat_shiftLeft, Nat.shiftLeft_eq]
theorem i_ishr (x : Int32) {y : Int32} {k : Nat} (q : y.toInt = (k : Int)) (hk : k < 32) : (IShr x y).toInt = x.toInt / 2 ^ k := by
  have e := sh32a ⟨k, hk⟩
  rw [of_i q]; unfold IShr
  exact Jvm.Kit.i32_shr x _ e
theorem u_iushr (x : Int32) {y : Int32} {k : Nat} (q : y.toInt = (k : Int)) (hk : k < 32) : u32 (IUshr x y) = u32 x / 2 ^ k := by
  have e := sh32b ⟨k, hk⟩
  rw [of_i q]; unfold u32 IUshr
  show (x.toUInt32 >>> (Int32.ofNat k &&& 31).toUInt32).toBitVec.toNat = _
  rw [UInt32.toBitVec_shiftRight, BitVec.ushiftRight_eq', e, BitVec.toNat_ushiftRight, Nat.shiftRight_eq_div_pow]; rfl
theorem i_i2l (x : Int32) : x.toInt64.toInt = x.toInt := Int32.toInt_toInt64 x
theorem u_l2i (x : Int64) : u32 x.toInt32 = u64 x % 4294967296 := by
  have h1 := u32_i x.toInt32; have h2 := u64_i x
  have e : x.toInt.bmod (2 ^ 32) % 4294967296 = x.toInt % 4294967296 := Int.bmod_emod
  rw [Int64.toInt_toInt32, e] at h1
  omega
theorem i_i2b (x : Int32) : x.toInt8.toInt32.toInt = if x.toInt % 256 < 128 then x.toInt % 256 else x.toInt % 256 - 256 := by
  rw [Int8.toInt_toInt32, Int32.toInt_toInt8, Int.bmod_def]; split <;> split <;> omega
theorem u_i2b (x : Int32) : u32 x.toInt8.toInt32 % 256 = u32 x % 256 := by
  have h1 := u32_i x.toInt8.toInt32; have h2 := u32_i x; rw [i_i2b] at h1; split at h1 <;> omega
end Num
theorem d0_0 : Dc code 0 (.iload 4) 2 2 := ⟨at_0, rfl⟩
theorem d0_2 : Dc code 2 (.iconst 3) 1 3 := ⟨at_2, rfl⟩
theorem d0_3 : Dc code 3 (.iand) 1 4 := ⟨at_3, rfl⟩
theorem d0_4 : Dc code 4 (.istore 5) 2 6 := ⟨at_4, rfl⟩
theorem d0_6 : Dc code 6 (.lload_n 0) 1 7 := ⟨at_6, rfl⟩
theorem d0_7 : Dc code 7 (.ldc2_w 7) 3 10 := ⟨at_7, rfl⟩
theorem d0_10 : Dc code 10 (.land) 1 11 := ⟨at_10, rfl⟩
theorem d0_11 : Dc code 11 (.lstore 6) 2 13 := ⟨at_11, rfl⟩
theorem d0_13 : Dc code 13 (.iload 5) 2 15 := ⟨at_13, rfl⟩
theorem d0_15 : Dj code 15 (.ifCond .ne 9) 9 24 18 := ⟨at_15, by decide, by decide, rfl⟩
theorem d0_18 : Dc code 18 (.lload_n 0) 1 19 := ⟨at_18, rfl⟩
theorem d0_19 : Dc code 19 (.lstore 8) 2 21 := ⟨at_19, rfl⟩
theorem d0_21 : Dj code 21 (.goto 58) 58 79 24 := ⟨at_21, by decide, by decide, rfl⟩
theorem d0_24 : Dc code 24 (.iload 5) 2 26 := ⟨at_24, rfl⟩
theorem d0_26 : Dc code 26 (.iconst 1) 1 27 := ⟨at_26, rfl⟩
theorem d0_27 : Dj code 27 (.if_icmp .ne 14) 14 41 30 := ⟨at_27, by decide, by decide, rfl⟩
theorem d0_30 : Dc code 30 (.ldc2_w 9) 3 33 := ⟨at_30, rfl⟩
theorem d0_33 : Dc code 33 (.lload 6) 2 35 := ⟨at_33, rfl⟩
theorem d0_35 : Dc code 35 (.lor) 1 36 := ⟨at_35, rfl⟩
theorem d0_36 : Dc code 36 (.lstore 8) 2 38 := ⟨at_36, rfl⟩
theorem d0_38 : Dj code 38 (.goto 41) 41 79 41 := ⟨at_38, by decide, by decide, rfl⟩
theorem d0_41 : Dc code 41 (.iload 5) 2 43 := ⟨at_41, rfl⟩
theorem d0_43 : Dc code 43 (.iconst 2) 1 44 := ⟨at_43, rfl⟩
theorem d0_44 : Dj code 44 (.if_icmp .ne 20) 20 64 47 := ⟨at_44, by decide, by decide, rfl⟩
theorem d0_47 : Dc code 47 (.ldc2_w 9) 3 50 := ⟨at_47, rfl⟩
theorem d0_50 : Dc code 50 (.lload 6) 2 52 := ⟨at_50, rfl⟩
theorem d0_52 : Dc code 52 (.lor) 1 53 := ⟨at_52, rfl⟩
theorem d0_53 : Dc code 53 (.iload_n 2) 1 54 := ⟨at_53, rfl⟩
theorem d0_54 : Dc code 54 (.i2l) 1 55 := ⟨at_54, rfl⟩
theorem d0_55 : Dc code 55 (.bipush 32) 2 57 := ⟨at_55, rfl⟩
theorem d0_57 : Dc code 57 (.lshl) 1 58 := ⟨at_57, rfl⟩
theorem d0_58 : Dc code 58 (.lor) 1 59 := ⟨at_58, rfl⟩
theorem d0_59 : Dc code 59 (.lstore 8) 2 61 := ⟨at_59, rfl⟩
theorem d0_61 : Dj code 61 (.goto 18) 18 79 64 := ⟨at_61, by decide, by decide, rfl⟩
theorem d0_64 : Dc code 64 (.ldc2_w 9) 3 67 := ⟨at_64, rfl⟩
theorem d0_67 : Dc code 67 (.lload 6) 2 69 := ⟨at_67, rfl⟩
theorem d0_69 : Dc code 69 (.lor) 1 70 := ⟨at_69, rfl⟩
theorem d0_70 : Dc code 70 (.lconst 1) 1 71 := ⟨at_70, rfl⟩
theorem d0_71 : Dc code 71 (.iload_n 2) 1 72 := ⟨at_71, rfl⟩
theorem d0_72 : Dc code 72 (.bipush 63) 2 74 := ⟨at_72, rfl⟩
theorem d0_74 : Dc code 74 (.iand) 1 75 := ⟨at_74, rfl⟩
theorem d0_75 : Dc code 75 (.lshl) 1 76 := ⟨at_75, rfl⟩
theorem d0_76 : Dc code 76 (.lxor) 1 77 := ⟨at_76, rfl⟩
theorem d0_77 : Dc code 77 (.lstore 8) 2 79 := ⟨at_77, rfl⟩
theorem d0_79 : Dc code 79 (.lload 8) 2 81 := ⟨at_79, rfl⟩
theorem d0_81 : Dc code 81 (.ldc2_w 11) 3 84 := ⟨at_81, rfl⟩
theorem d0_84 : Dc code 84 (.lcmp) 1 85 := ⟨at_84, rfl⟩
theorem d0_85 : Dj code 85 (.ifCond .lt 38) 38 123 88 := ⟨at_85, by decide, by decide, rfl⟩
theorem d0_88 : Dc code 88 (.lload 8) 2 90 := ⟨at_88, rfl⟩
theorem d0_90 : Dc code 90 (.ldc2_w 13) 3 93 := ⟨at_90, rfl⟩
theorem d0_93 : Dc code 93 (.lcmp) 1 94 := ⟨at_93, rfl⟩
theorem d0_94 : Dj code 94 (.ifCond .gt 29) 29 123 97 := ⟨at_94, by decide, by decide, rfl⟩
theorem d0_97 : Dc code 97 (.lload 8) 2 99 := ⟨at_97, rfl⟩
theorem d0_99 : Dc code 99 (.ldc2_w 15) 3 102 := ⟨at_99, rfl⟩
theorem d0_102 : Dc code 102 (.land) 1 103 := ⟨at_102, rfl⟩
theorem d0_103 : Dc code 103 (.lconst 0) 1 104 := ⟨at_103, rfl⟩
theorem d0_104 : Dc code 104 (.lcmp) 1 105 := ⟨at_104, rfl⟩
theorem d0_105 : Dj code 105 (.ifCond .eq 18) 18 123 108 := ⟨at_105, by decide, by decide, rfl⟩
theorem d0_108 : Dc code 108 (.lload 8) 2 110 := ⟨at_108, rfl⟩
theorem d0_110 : Dc code 110 (.ldc2_w 17) 3 113 := ⟨at_110, rfl⟩
theorem d0_113 : Dc code 113 (.land) 1 114 := ⟨at_113, rfl⟩
theorem d0_114 : Dc code 114 (.lconst 0) 1 115 := ⟨at_114, rfl⟩
theorem d0_115 : Dc code 115 (.lcmp) 1 116 := ⟨at_115, rfl⟩
theorem d0_116 : Dj code 116 (.ifCond .eq 7) 7 123 119 := ⟨at_116, by decide, by decide, rfl⟩
theorem d0_119 : Dc code 119 (.iconst 1) 1 120 := ⟨at_119, rfl⟩
theorem d0_120 : Dj code 120 (.goto 4) 4 124 123 := ⟨at_120, by decide, by decide, rfl⟩
theorem d0_123 : Dc code 123 (.iconst 0) 1 124 := ⟨at_123, rfl⟩
theorem d0_124 : Dc code 124 (.istore 10) 2 126 := ⟨at_124, rfl⟩
theorem d0_126 : Dc code 126 (.lload 8) 2 128 := ⟨at_126, rfl⟩
theorem d0_128 : Dc code 128 (.invokestatic 19) 3 131 := ⟨at_128, rfl⟩
theorem d0_131 : Dc code 131 (.istore 11) 2 133 := ⟨at_131, rfl⟩
theorem d0_133 : Dc code 133 (.iload 10) 2 135 := ⟨at_133, rfl⟩
theorem d0_135 : Dj code 135 (.ifCond .eq 36) 36 171 138 := ⟨at_135, by decide, by decide, rfl⟩
theorem d0_138 : Dc code 138 (.iload 11) 2 140 := ⟨at_138, rfl⟩
theorem d0_140 : Dj code 140 (.ifCond .lt 25) 25 165 143 := ⟨at_140, by decide, by decide, rfl⟩
theorem d0_143 : Dc code 143 (.iload 11) 2 145 := ⟨at_143, rfl⟩
theorem d0_145 : Dc code 145 (.ldc 25) 2 147 := ⟨at_145, rfl⟩
theorem d0_147 : Dj code 147 (.if_icmp .ge 18) 18 165 150 := ⟨at_147, by decide, by decide, rfl⟩
theorem d0_150 : Dc code 150 (.iload 11) 2 152 := ⟨at_150, rfl⟩
theorem d0_152 : Dc code 152 (.invokestatic 26) 3 155 := ⟨at_152, rfl⟩
theorem d0_155 : Dc code 155 (.lload 8) 2 157 := ⟨at_155, rfl⟩
theorem d0_157 : Dc code 157 (.lcmp) 1 158 := ⟨at_157, rfl⟩
theorem d0_158 : Dj code 158 (.ifCond .ne 7) 7 165 161 := ⟨at_158, by decide, by decide, rfl⟩
theorem d0_161 : Dc code 161 (.iconst 1) 1 162 := ⟨at_161, rfl⟩
theorem d0_162 : Dj code 162 (.goto 4) 4 166 165 := ⟨at_162, by decide, by decide, rfl⟩
theorem d0_166 : Dc code 166 (.istore 12) 2 168 := ⟨at_166, rfl⟩
theorem d0_168 : Dj code 168 (.goto 16) 16 184 171 := ⟨at_168, by decide, by decide, rfl⟩
theorem d0_171 : Dc code 171 (.iload 11) 2 173 := ⟨at_171, rfl⟩
theorem d0_173 : Dc code 173 (.iconst (-1)) 1 174 := ⟨at_173, rfl⟩
theorem d0_174 : Dj code 174 (.if_icmp .ne 7) 7 181 177 := ⟨at_174, by decide, by decide, rfl⟩
theorem d0_177 : Dc code 177 (.iconst 1) 1 178 := ⟨at_177, rfl⟩
theorem d0_178 : Dj code 178 (.goto 4) 4 182 181 := ⟨at_178, by decide, by decide, rfl⟩
theorem d0_182 : Dc code 182 (.istore 12) 2 184 := ⟨at_182, rfl⟩
theorem d0_184 : Dc code 184 (.iload_n 3) 1 185 := ⟨at_184, rfl⟩
theorem d0_185 : Dc code 185 (.ldc 30) 2 187 := ⟨at_185, rfl⟩
theorem d0_187 : Dc code 187 (.iand) 1 188 := ⟨at_187, rfl⟩
theorem d0_188 : Dc code 188 (.ldc 25) 2 190 := ⟨at_188, rfl⟩
theorem d0_190 : Dc code 190 (.irem) 1 191 := ⟨at_190, rfl⟩
theorem d0_191 : Dc code 191 (.istore 13) 2 193 := ⟨at_191, rfl⟩
theorem d0_193 : Dc code 193 (.iload 13) 2 195 := ⟨at_193, rfl⟩
theorem d0_195 : Dc code 195 (.invokestatic 26) 3 198 := ⟨at_195, rfl⟩
theorem d0_198 : Dc code 198 (.invokestatic 19) 3 201 := ⟨at_198, rfl⟩
theorem d0_201 : Dc code 201 (.iload 13) 2 203 := ⟨at_201, rfl⟩
theorem d0_203 : Dj code 203 (.if_icmp .ne 7) 7 210 206 := ⟨at_203, by decide, by decide, rfl⟩
theorem d0_206 : Dc code 206 (.iconst 1) 1 207 := ⟨at_206, rfl⟩
theorem d0_207 : Dj code 207 (.goto 4) 4 211 210 := ⟨at_207, by decide, by decide, rfl⟩
theorem d0_211 : Dc code 211 (.istore 14) 2 213 := ⟨at_211, rfl⟩
theorem d0_213 : Dc code 213 (.iload 12) 2 215 := ⟨at_213, rfl⟩
theorem d0_215 : Dj code 215 (.ifCond .eq 12) 12 227 218 := ⟨at_215, by decide, by decide, rfl⟩
theorem d0_218 : Dc code 218 (.iload 14) 2 220 := ⟨at_218, rfl⟩
theorem d0_220 : Dj code 220 (.ifCond .eq 7) 7 227 223 := ⟨at_220, by decide, by decide, rfl⟩
theorem d0_223 : Dc code 223 (.iconst 1) 1 224 := ⟨at_223, rfl⟩
theorem d0_224 : Dj code 224 (.goto 4) 4 228 227 := ⟨at_224, by decide, by decide, rfl⟩
theorem d0_228 : Dc code 228 (.ireturn) 1 229 := ⟨at_228, rfl⟩
theorem pn_0 : plainFor x = true := plainFor_of_name (by first | (simp [plainName, overriddenIn]; done) | decide +kernel)
theorem ef_0 (m : MethodId) (x0 : Int64) (x1 : Int32) (x2 : Int32) (x3 : Int32) : entryFrame m #[(.long x0), (.int x1), (.int x2), (.int x3)] maxLocals = mkF m 0 #[.val (.long x0), .second, .val (.int x1), .val (.int x2), .val (.int x3), .unset, .unset, .unset, .unset, .unset, .unset, .unset, .unset, .unset, .unset] [] := by first | (simp [entryFrame, mkF, argsToLocals, Value.category, maxLocals]; done) | rfl
theorem d1_0 : Dc prog_24_method_6_code 0 (.lload_n 0) 1 1 := ⟨by decide +kernel, rfl⟩
theorem d1_1 : Dc prog_24_method_6_code 1 (.bipush 8) 2 3 := ⟨by decide +kernel, rfl⟩
theorem d1_3 : Dc prog_24_method_6_code 3 (.lushr) 1 4 := ⟨by decide +kernel, rfl⟩
theorem d1_4 : Dc prog_24_method_6_code 4 (.ldc2_w 60) 3 7 := ⟨by decide +kernel, rfl⟩
theorem d1_7 : Dc prog_24_method_6_code 7 (.land) 1 8 := ⟨by decide +kernel, rfl⟩
theorem d1_8 : Dc prog_24_method_6_code 8 (.l2i) 1 9 := ⟨by decide +kernel, rfl⟩
theorem d1_9 : Dc prog_24_method_6_code 9 (.istore_n 2) 1 10 := ⟨by decide +kernel, rfl⟩
theorem d1_10 : Dc prog_24_method_6_code 10 (.lload_n 0) 1 11 := ⟨by decide +kernel, rfl⟩
theorem d1_11 : Dc prog_24_method_6_code 11 (.ldc2_w 60) 3 14 := ⟨by decide +kernel, rfl⟩
theorem d1_14 : Dc prog_24_method_6_code 14 (.land) 1 15 := ⟨by decide +kernel, rfl⟩
theorem d1_15 : Dc prog_24_method_6_code 15 (.l2i) 1 16 := ⟨by decide +kernel, rfl⟩
theorem d1_16 : Dc prog_24_method_6_code 16 (.istore_n 3) 1 17 := ⟨by decide +kernel, rfl⟩
theorem d1_17 : Dc prog_24_method_6_code 17 (.lload_n 0) 1 18 := ⟨by decide +kernel, rfl⟩
theorem d1_18 : Dc prog_24_method_6_code 18 (.bipush 16) 2 20 := ⟨by decide +kernel, rfl⟩
theorem d1_20 : Dc prog_24_method_6_code 20 (.lushr) 1 21 := ⟨by decide +kernel, rfl⟩
theorem d1_21 : Dc prog_24_method_6_code 21 (.ldc2_w 62) 3 24 := ⟨by decide +kernel, rfl⟩
theorem d1_24 : Dc prog_24_method_6_code 24 (.lcmp) 1 25 := ⟨by decide +kernel, rfl⟩
theorem d1_25 : Dj prog_24_method_6_code 25 (.ifCond .ne 17) 17 42 28 := ⟨by decide +kernel, by decide, by decide, rfl⟩
theorem d1_28 : Dc prog_24_method_6_code 28 (.iload_n 2) 1 29 := ⟨by decide +kernel, rfl⟩
theorem d1_29 : Dc prog_24_method_6_code 29 (.iconst 1) 1 30 := ⟨by decide +kernel, rfl⟩
theorem d1_30 : Dj prog_24_method_6_code 30 (.if_icmp .lt 12) 12 42 33 := ⟨by decide +kernel, by decide, by decide, rfl⟩
theorem d1_33 : Dc prog_24_method_6_code 33 (.iload_n 3) 1 34 := ⟨by decide +kernel, rfl⟩
theorem d1_34 : Dc prog_24_method_6_code 34 (.iconst 1) 1 35 := ⟨by decide +kernel, rfl⟩
theorem d1_35 : Dj prog_24_method_6_code 35 (.if_icmp .lt 7) 7 42 38 := ⟨by decide +kernel, by decide, by decide, rfl⟩
theorem d1_38 : Dc prog_24_method_6_code 38 (.iconst 1) 1 39 := ⟨by decide +kernel, rfl⟩
theorem d1_39 : Dj prog_24_method_6_code 39 (.goto 4) 4 43 42 := ⟨by decide +kernel, by decide, by decide, rfl⟩
theorem d1_42 : Dc prog_24_method_6_code 42 (.iconst 0) 1 43 := ⟨by decide +kernel, rfl⟩
theorem d1_43 : Dc prog_24_method_6_code 43 (.istore 4) 2 45 := ⟨by decide +kernel, rfl⟩
theorem d1_45 : Dc prog_24_method_6_code 45 (.iload 4) 2 47 := ⟨by decide +kernel, rfl⟩
theorem d1_47 : Dj prog_24_method_6_code 47 (.ifCond .eq 17) 17 64 50 := ⟨by decide +kernel, by decide, by decide, rfl⟩
theorem d1_50 : Dc prog_24_method_6_code 50 (.iload_n 2) 1 51 := ⟨by decide +kernel, rfl⟩
theorem d1_51 : Dc prog_24_method_6_code 51 (.iconst 1) 1 52 := ⟨by decide +kernel, rfl⟩
theorem d1_52 : Dc prog_24_method_6_code 52 (.isub) 1 53 := ⟨by decide +kernel, rfl⟩
theorem d1_53 : Dc prog_24_method_6_code 53 (.sipush 255) 3 56 := ⟨by decide +kernel, rfl⟩
theorem d1_56 : Dc prog_24_method_6_code 56 (.imul) 1 57 := ⟨by decide +kernel, rfl⟩
theorem d1_57 : Dc prog_24_method_6_code 57 (.iload_n 3) 1 58 := ⟨by decide +kernel, rfl⟩
theorem d1_58 : Dc prog_24_method_6_code 58 (.iconst 1) 1 59 := ⟨by decide +kernel, rfl⟩
theorem d1_59 : Dc prog_24_method_6_code 59 (.isub) 1 60 := ⟨by decide +kernel, rfl⟩
theorem d1_60 : Dc prog_24_method_6_code 60 (.iadd) 1 61 := ⟨by decide +kernel, rfl⟩
theorem d1_61 : Dj prog_24_method_6_code 61 (.goto 4) 4 65 64 := ⟨by decide +kernel, by decide, by decide, rfl⟩
theorem d1_64 : Dc prog_24_method_6_code 64 (.iconst (-1)) 1 65 := ⟨by decide +kernel, rfl⟩
theorem d1_65 : Dc prog_24_method_6_code 65 (.ireturn) 1 66 := ⟨by decide +kernel, rfl⟩
theorem pn_1 : plainFor (⟨"com/example/bytewright/bytewright/cbor/Envelope", "contentFormatOf", "(J)I"⟩ : MethodName) = true := plainFor_of_name (by first | (simp [plainName, overriddenIn]; done) | decide +kernel)
theorem ef_1 (m : MethodId) (x0 : Int64) : entryFrame m #[(.long x0)] 5 = mkF m 0 #[.val (.long x0), .second, .unset, .unset, .unset] [] := by first | (simp [entryFrame, mkF, argsToLocals, Value.category]; done) | rfl
theorem d2_0 : Dc prog_24_method_5_code 0 (.iload_n 0) 1 1 := ⟨by decide +kernel, rfl⟩
theorem d2_1 : Dj prog_24_method_5_code 1 (.ifCond .lt 9) 9 10 4 := ⟨by decide +kernel, by decide, by decide, rfl⟩
theorem d2_4 : Dc prog_24_method_5_code 4 (.iload_n 0) 1 5 := ⟨by decide +kernel, rfl⟩
theorem d2_5 : Dc prog_24_method_5_code 5 (.ldc 48) 2 7 := ⟨by decide +kernel, rfl⟩
theorem d2_7 : Dj prog_24_method_5_code 7 (.if_icmp .lt 17) 17 24 10 := ⟨by decide +kernel, by decide, by decide, rfl⟩
theorem d2_24 : Dc prog_24_method_5_code 24 (.ldc2_w 58) 3 27 := ⟨by decide +kernel, rfl⟩
theorem d2_27 : Dc prog_24_method_5_code 27 (.iload_n 0) 1 28 := ⟨by decide +kernel, rfl⟩
theorem d2_28 : Dc prog_24_method_5_code 28 (.sipush 255) 3 31 := ⟨by decide +kernel, rfl⟩
theorem d2_31 : Dc prog_24_method_5_code 31 (.idiv) 1 32 := ⟨by decide +kernel, rfl⟩
theorem d2_32 : Dc prog_24_method_5_code 32 (.sipush 256) 3 35 := ⟨by decide +kernel, rfl⟩
theorem d2_35 : Dc prog_24_method_5_code 35 (.imul) 1 36 := ⟨by decide +kernel, rfl⟩
theorem d2_36 : Dc prog_24_method_5_code 36 (.i2l) 1 37 := ⟨by decide +kernel, rfl⟩
theorem d2_37 : Dc prog_24_method_5_code 37 (.ladd) 1 38 := ⟨by decide +kernel, rfl⟩
theorem d2_38 : Dc prog_24_method_5_code 38 (.iload_n 0) 1 39 := ⟨by decide +kernel, rfl⟩
theorem d2_39 : Dc prog_24_method_5_code 39 (.sipush 255) 3 42 := ⟨by decide +kernel, rfl⟩
theorem d2_42 : Dc prog_24_method_5_code 42 (.irem) 1 43 := ⟨by decide +kernel, rfl⟩
theorem d2_43 : Dc prog_24_method_5_code 43 (.i2l) 1 44 := ⟨by decide +kernel, rfl⟩
theorem d2_44 : Dc prog_24_method_5_code 44 (.ladd) 1 45 := ⟨by decide +kernel, rfl⟩
theorem d2_45 : Dc prog_24_method_5_code 45 (.lreturn) 1 46 := ⟨by decide +kernel, rfl⟩
theorem pn_2 : plainFor (⟨"com/example/bytewright/bytewright/cbor/Envelope", "contentFormatTag", "(I)J"⟩ : MethodName) = true := plainFor_of_name (by first | (simp [plainName, overriddenIn]; done) | decide +kernel)
theorem ef_2 (m : MethodId) (x0 : Int32) : entryFrame m #[(.int x0)] 1 = mkF m 0 #[.val (.int x0)] [] := by first | (simp [entryFrame, mkF, argsToLocals, Value.category]; done) | rfl
theorem pd_0 : parseMethodDescriptor "(J)I" = some ⟨[.long], some .int⟩ := by decide +kernel
theorem pd_1 : parseMethodDescriptor "(I)J" = some ⟨[.int], some .long⟩ := by decide +kernel

theorem i_ofInt {z : Int} (h1 : -2147483648 ≤ z) (h2 : z ≤ 2147483647) : (Int32.ofInt z).toInt = z := by rw [Int32.toInt_ofInt]; exact Jvm.Kit.bmod32 (by omega) (by omega)
theorem j_ofInt {z : Int} (h1 : -9223372036854775808 ≤ z) (h2 : z ≤ 9223372036854775807) : (Int64.ofInt z).toInt = z := by rw [Int64.toInt_ofInt]; exact Jvm.Kit.bmod64 (by omega) (by omega)
def cfoI (t : Nat) : Int := if t / 65536 = 25460 ∧ 1 ≤ t / 256 % 256 ∧ 1 ≤ t % 256 then (((t / 256 % 256 : Nat) : Int) - 1) * 255 + ((t % 256 : Nat) : Int) - 1 else -1
def cftI (c : Int) : Int := 1668546817 + c / 255 * 256 + c % 255
theorem cfo_rng (t : Nat) : -1 ≤ cfoI t ∧ cfoI t < 65025 := by unfold cfoI; split <;> omega
theorem cfo_i (t : Nat) : (Int32.ofInt (cfoI t)).toInt = cfoI t := by have := cfo_rng t; exact i_ofInt (by omega) (by omega)
theorem cft_i {c : Int} (h1 : 0 ≤ c) (h2 : c < 65025) : (Int64.ofInt (cftI c)).toInt = cftI c := by unfold cftI; exact j_ofInt (by omega) (by omega)
theorem own_lo (x : Int64) : u64 (x &&& 255) = u64 x % 256 := u64_and x 255 (k := 8) (by decide)
theorem own_hi (x : Int64) : u64 (x &&& 65280) = u64 x / 256 % 256 * 256 := by
  have e1 : u64 (x &&& 255) = u64 x % 2 ^ 8 := u64_and x 255 (k := 8) (by decide)
  have e2 : u64 (x &&& 65535) = u64 x % 2 ^ 16 := u64_and x 65535 (k := 16) (by decide)
  have e3 : (x &&& 65280) &&& 255 = 0 := by rw [Int64.and_assoc, show (65280 : Int64) &&& 255 = 0 by decide, Int64.and_zero]
  have e4 : u64 ((x &&& 65280) &&& 255) = u64 (x &&& 65280) % 2 ^ 8 := u64_and _ 255 (k := 8) (by decide)
  have e5 : (x &&& 65280) ||| (x &&& 255) = x &&& 65535 := by rw [← and_or64, show (65280 : Int64) ||| 255 = 65535 by decide]
  rw [e3, show u64 (0 : Int64) = 0 by decide] at e4
  have e6 := u64_or (x := x &&& 65280) (y := x &&& 255) 8 e4.symm (by rw [e1]; omega)
  rw [e5] at e6
  omega
theorem own_b8 (x : Int64) : ((LUshr x 8 &&& 255).toInt32).toInt = ((u64 x / 256 % 256 : Nat) : Int) := by
  have e1 : u64 (LUshr x 8) = u64 x / 2 ^ 8 := u_lushr x (k := 8) rfl (by decide)
  have e2 := own_lo (LUshr x 8)
  have e3 := u_l2i (LUshr x 8 &&& 255)
  rw [i_u32, e3, e2, e1]; split <;> omega
theorem own_b0 (x : Int64) : ((x &&& 255).toInt32).toInt = ((u64 x % 256 : Nat) : Int) := by
  have e2 := own_lo x
  have e3 := u_l2i (x &&& 255)
  rw [i_u32, e3, e2]; split <;> omega
theorem own_top (x : Int64) : LUshr x 16 = 25460 ↔ u64 x / 65536 = 25460 := by
  have e1 : u64 (LUshr x 16) = u64 x / 2 ^ 16 := u_lushr x (k := 16) rfl (by decide)
  have e2 : u64 (25460 : Int64) = 25460 := by decide
  constructor
  · intro q; rw [q, e2] at e1; omega
  · intro q; exact u64_inj (by rw [e1, e2]; omega)
theorem own_u {c : Int} (h1 : 0 ≤ c) (h2 : c < 65025) : u64 (Int64.ofInt (cftI c)) = (cftI c).toNat := by
  have e := u64_i (Int64.ofInt (cftI c)); rw [cft_i h1 h2] at e
  unfold cftI at *; omega
theorem own_rt {c : Int} (h1 : 0 ≤ c) (h2 : c < 65025) : cfoI (cftI c).toNat = c := by
  have e : (cftI c).toNat = 1668546817 + (c / 255).toNat * 256 + (c % 255).toNat := by unfold cftI; omega
  rw [e]
  have a1 : (c / 255).toNat ≤ 254 := by omega
  have a2 : (c % 255).toNat ≤ 254 := by omega
  have a3 : c = ((c / 255).toNat : Int) * 255 + ((c % 255).toNat : Int) := by omega
  generalize (c / 255).toNat = x at *
  generalize (c % 255).toNat = y at *
  unfold cfoI; rw [if_pos ⟨by omega, by omega, by omega⟩]; omega

set_option maxRecDepth 65536 in
set_option maxHeartbeats 40000000 in
theorem ct1 (l : Launch) (Z : State) (a0 : Array Value) (hw : ∀ d ∈ tables_1, d.before a0 Z = true) (x0 : Int64) (h0 : Heap)  :
    Ct l Z (⟨"com/example/bytewright/bytewright/cbor/Envelope", "contentFormatOf", "(J)I"⟩ : MethodName) prog_24_method_6_code 5 (some .int) ({ frames := 0, cells := 0, slots := 0, locals := 0 } : Room) #[(.long x0)] h0 (fun v h' L => v = some (.int (Int32.ofInt (cfoI (u64 x0)))) ∧ h' = h0 ∧ L = []) := by
  refine Ct.body pn_1 ?_
  intro p e s m below meth c T X hx hby hml hown hnm hret hlk hZ eT
  rw [ef_1]

  refine w_lloadN X hx (dq hby d1_0) rfl ?_
  refine w_bipush X hx (dq hby d1_1) (z := 8) rfl ?_
  refine w_lushr X hx (dq hby d1_3) ?_
  refine w_ldc2 X hx hZ hown (hw _ (List.mem_of_getElem? (i := 6) rfl)) (dq hby d1_4) ?_
  refine w_land X hx (dq hby d1_7) ?_
  refine w_l2i X hx (dq hby d1_8) ?_
  obtain ⟨v2_9, hv2_9⟩ : ∃ z : Int32, z = (((LUshr x0 (8 : Int32)) &&& (255 : Int64)).toInt32) := ⟨_, rfl⟩
  refine w_istoreN X hx (dq hby d1_9) (z := v2_9) hv2_9 (Ls' := #[.val (.long x0), .second, .val (.int v2_9), .unset, .unset]) rfl ?_
  refine w_lloadN X hx (dq hby d1_10) rfl ?_
  refine w_ldc2 X hx hZ hown (hw _ (List.mem_of_getElem? (i := 6) rfl)) (dq hby d1_11) ?_
  refine w_land X hx (dq hby d1_14) ?_
  refine w_l2i X hx (dq hby d1_15) ?_
  obtain ⟨v3_16, hv3_16⟩ : ∃ z : Int32, z = ((x0 &&& (255 : Int64)).toInt32) := ⟨_, rfl⟩
  refine w_istoreN X hx (dq hby d1_16) (z := v3_16) hv3_16 (Ls' := #[.val (.long x0), .second, .val (.int v2_9), .val (.int v3_16), .unset]) rfl ?_
  refine w_lloadN X hx (dq hby d1_17) rfl ?_
  refine w_bipush X hx (dq hby d1_18) (z := 16) rfl ?_
  refine w_lushr X hx (dq hby d1_20) ?_
  refine w_ldc2 X hx hZ hown (hw _ (List.mem_of_getElem? (i := 7) rfl)) (dq hby d1_21) ?_
  refine w_lcmp_ne X hx (dq hby d1_24) (dj hby d1_25) (fun hc25 => ?_) (fun hc25 => ?_)
  · refine w_iconst X hx (dq hby d1_42) (z := 0) rfl ?_
    refine w_istore X hx (dq hby d1_43) (z := (0 : Int32)) rfl (Ls' := #[.val (.long x0), .second, .val (.int v2_9), .val (.int v3_16), .val (.int (0 : Int32))]) rfl ?_
    refine w_iload X hx (dq hby d1_45) rfl ?_
    refine w_if_eq X hx (dj hby d1_47) (fun hc47 => ?_) (fun hc47 => (?_ : False).elim)
    rotate_left
    · exact absurd hc47 (by decide)
    refine w_iconst X hx (dq hby d1_64) (z := -1) rfl ?_
    refine w_retI X hx hret hlk (dq hby d1_65) (by decide) (by decide) ?_
    have q1 := own_b8 x0; have q2 := own_b0 x0; have q3 := own_top x0
    rw [← hv2_9] at q1; rw [← hv3_16] at q2
    have p25 : ¬ u64 x0 / 65536 = 25460 := fun z => hc25 (q3.mpr z)
    have lit64_1 : (25460 : Int64).toInt = 25460 := rfl
    have lit32_2 : (0 : Int32).toInt = 0 := rfl
    have hc47' := congrArg Int32.toInt hc47
    have q : cfoI (u64 x0) = -1 := if_neg (by omega)
    exact ⟨by rw [q]; rfl, eT, rfl⟩
  · refine w_iloadN X hx (dq hby d1_28) rfl ?_
    refine w_iconst X hx (dq hby d1_29) (z := 1) rfl ?_
    refine w_icmp_lt X hx (dj hby d1_30) (fun hc30 => ?_) (fun hc30 => ?_)
    · refine w_iconst X hx (dq hby d1_42) (z := 0) rfl ?_
      refine w_istore X hx (dq hby d1_43) (z := (0 : Int32)) rfl (Ls' := #[.val (.long x0), .second, .val (.int v2_9), .val (.int v3_16), .val (.int (0 : Int32))]) rfl ?_
      refine w_iload X hx (dq hby d1_45) rfl ?_
      refine w_if_eq X hx (dj hby d1_47) (fun hc47 => ?_) (fun hc47 => (?_ : False).elim)
      rotate_left
      · exact absurd hc47 (by decide)
      refine w_iconst X hx (dq hby d1_64) (z := -1) rfl ?_
      refine w_retI X hx hret hlk (dq hby d1_65) (by decide) (by decide) ?_
      have q1 := own_b8 x0; have q2 := own_b0 x0; have q3 := own_top x0
      rw [← hv2_9] at q1; rw [← hv3_16] at q2
      have p25 : u64 x0 / 65536 = 25460 := q3.mp hc25
      have lit64_1 : (25460 : Int64).toInt = 25460 := rfl
      have lit32_2 : (1 : Int32).toInt = 1 := rfl
      have lit32_3 : (0 : Int32).toInt = 0 := rfl
      have hc47' := congrArg Int32.toInt hc47
      have q : cfoI (u64 x0) = -1 := if_neg (by omega)
      exact ⟨by rw [q]; rfl, eT, rfl⟩
    · refine w_iloadN X hx (dq hby d1_33) rfl ?_
      refine w_iconst X hx (dq hby d1_34) (z := 1) rfl ?_
      refine w_icmp_lt X hx (dj hby d1_35) (fun hc35 => ?_) (fun hc35 => ?_)
      · refine w_iconst X hx (dq hby d1_42) (z := 0) rfl ?_
        refine w_istore X hx (dq hby d1_43) (z := (0 : Int32)) rfl (Ls' := #[.val (.long x0), .second, .val (.int v2_9), .val (.int v3_16), .val (.int (0 : Int32))]) rfl ?_
        refine w_iload X hx (dq hby d1_45) rfl ?_
        refine w_if_eq X hx (dj hby d1_47) (fun hc47 => ?_) (fun hc47 => (?_ : False).elim)
        rotate_left
        · exact absurd hc47 (by decide)
        refine w_iconst X hx (dq hby d1_64) (z := -1) rfl ?_
        refine w_retI X hx hret hlk (dq hby d1_65) (by decide) (by decide) ?_
        have q1 := own_b8 x0; have q2 := own_b0 x0; have q3 := own_top x0
        rw [← hv2_9] at q1; rw [← hv3_16] at q2
        have p25 : u64 x0 / 65536 = 25460 := q3.mp hc25
        have lit64_1 : (25460 : Int64).toInt = 25460 := rfl
        have lit32_2 : (1 : Int32).toInt = 1 := rfl
        have lit32_3 : (0 : Int32).toInt = 0 := rfl
        have hc47' := congrArg Int32.toInt hc47
        have q : cfoI (u64 x0) = -1 := if_neg (by omega)
        exact ⟨by rw [q]; rfl, eT, rfl⟩
      · refine w_iconst X hx (dq hby d1_38) (z := 1) rfl ?_
        refine w_goto X hx (dj hby d1_39) ?_
        refine w_istore X hx (dq hby d1_43) (z := (1 : Int32)) rfl (Ls' := #[.val (.long x0), .second, .val (.int v2_9), .val (.int v3_16), .val (.int (1 : Int32))]) rfl ?_
        refine w_iload X hx (dq hby d1_45) rfl ?_
        refine w_if_eq X hx (dj hby d1_47) (fun hc47 => (?_ : False).elim) (fun hc47 => ?_)
        · exact absurd hc47 (by decide)
        refine w_iloadN X hx (dq hby d1_50) rfl ?_
        refine w_iconst X hx (dq hby d1_51) (z := 1) rfl ?_
        refine w_isub X hx (dq hby d1_52) ?_
        refine w_sipush X hx (dq hby d1_53) (z := 255) rfl ?_
        refine w_imul X hx (dq hby d1_56) ?_
        refine w_iloadN X hx (dq hby d1_57) rfl ?_
        refine w_iconst X hx (dq hby d1_58) (z := 1) rfl ?_
        refine w_isub X hx (dq hby d1_59) ?_
        refine w_iadd X hx (dq hby d1_60) ?_
        refine w_goto X hx (dj hby d1_61) ?_
        refine w_retI X hx hret hlk (dq hby d1_65) (by decide) (by decide) ?_
        have q1 := own_b8 x0; have q2 := own_b0 x0; have q3 := own_top x0
        rw [← hv2_9] at q1; rw [← hv3_16] at q2
        have p25 : u64 x0 / 65536 = 25460 := q3.mp hc25
        have lit64_1 : (25460 : Int64).toInt = 25460 := rfl
        have lit32_2 : (1 : Int32).toInt = 1 := rfl
        have lit32_3 : (0 : Int32).toInt = 0 := rfl
        have hc47' := i32_ne hc47
        have q : cfoI (u64 x0) = _ := if_pos ⟨by omega, by omega, by omega⟩
        have l1 : (1 : Int32).toInt = 1 := rfl
        have l255 : (255 : Int32).toInt = 255 := rfl
        have s1 : (v2_9 - 1).toInt = v2_9.toInt - 1 := by rw [Jvm.Kit.i32_sub] <;> rw [l1] <;> omega
        have s2 : (v3_16 - 1).toInt = v3_16.toInt - 1 := by rw [Jvm.Kit.i32_sub] <;> rw [l1] <;> omega
        have s3 : ((v2_9 - 1) * 255).toInt = (v2_9.toInt - 1) * 255 := by rw [Jvm.Kit.i32_mul] <;> rw [s1, l255] <;> omega
        have s4 : ((v2_9 - 1) * 255 + (v3_16 - 1)).toInt = (v2_9.toInt - 1) * 255 + (v3_16.toInt - 1) := by rw [Jvm.Kit.i32_add] <;> rw [s3, s2] <;> omega
        have s5 := cfo_i (u64 x0)
        exact ⟨congrArg (fun z => some (Value.int z)) (i32_inj (by rw [s4, s5, q]; omega)), eT, rfl⟩
set_option maxRecDepth 65536 in
set_option maxHeartbeats 40000000 in
theorem ct2 (l : Launch) (Z : State) (a0 : Array Value) (hw : ∀ d ∈ tables_1, d.before a0 Z = true) (x0 : Int32) (h0 : Heap) (hp0 : 0 ≤ x0.toInt) (hp1 : x0.toInt < 65025) :
    Ct l Z (⟨"com/example/bytewright/bytewright/cbor/Envelope", "contentFormatTag", "(I)J"⟩ : MethodName) prog_24_method_5_code 1 (some .long) ({ frames := 0, cells := 0, slots := 0, locals := 0 } : Room) #[(.int x0)] h0 (fun v h' L => v = some (.long (Int64.ofInt (cftI x0.toInt))) ∧ h' = h0 ∧ L = []) := by
  refine Ct.body pn_2 ?_
  intro p e s m below meth c T X hx hby hml hown hnm hret hlk hZ eT
  rw [ef_2]

  refine w_iloadN X hx (dq hby d2_0) rfl ?_
  refine w_if_lt X hx (dj hby d2_1) (fun hc1 => (?_ : False).elim) (fun hc1 => ?_)
  · omega
  refine w_iloadN X hx (dq hby d2_4) rfl ?_
  refine w_ldc X hx hZ hown (hw _ (List.mem_of_getElem? (i := 13) rfl)) (dq hby d2_5) ?_
  refine w_icmp_lt X hx (dj hby d2_7) (fun hc7 => ?_) (fun hc7 => (?_ : False).elim)
  rotate_left
  · have : (65025 : Int32).toInt = 65025 := rfl
    omega
  refine w_ldc2 X hx hZ hown (hw _ (List.mem_of_getElem? (i := 14) rfl)) (dq hby d2_24) ?_
  refine w_iloadN X hx (dq hby d2_27) rfl ?_
  refine w_sipush X hx (dq hby d2_28) (z := 255) rfl ?_
  refine w_idiv X hx (dq hby d2_31) (by decide) ?_
  refine w_sipush X hx (dq hby d2_32) (z := 256) rfl ?_
  refine w_imul X hx (dq hby d2_35) ?_
  refine w_i2l X hx (dq hby d2_36) ?_
  refine w_ladd X hx (dq hby d2_37) ?_
  refine w_iloadN X hx (dq hby d2_38) rfl ?_
  refine w_sipush X hx (dq hby d2_39) (z := 255) rfl ?_
  refine w_irem X hx (dq hby d2_42) (by decide) ?_
  refine w_i2l X hx (dq hby d2_43) ?_
  refine w_ladd X hx (dq hby d2_44) ?_
  refine w_retJ X hx hret hlk (dq hby d2_45) (by decide) (by decide) ?_
  have l255 : (255 : Int32).toInt = 255 := rfl
  have l256 : (256 : Int32).toInt = 256 := rfl
  have lk : (1668546817 : Int64).toInt = 1668546817 := by decide
  have s1 : (x0 / 255).toInt = x0.toInt / 255 := by rw [Jvm.Kit.i32_div (by rw [l255]; omega), l255, Int.tdiv_eq_ediv_of_nonneg hp0]
  have s2 : (x0 % 255).toInt = x0.toInt % 255 := by rw [Jvm.Kit.i32_rem_nonneg hp0, l255]
  have s3 : (x0 / 255 * 256).toInt = x0.toInt / 255 * 256 := by rw [Jvm.Kit.i32_mul] <;> rw [s1, l256] <;> omega
  have s4 : ((1668546817 : Int64) + (x0 / 255 * 256).toInt64).toInt = 1668546817 + x0.toInt / 255 * 256 := by rw [Jvm.Kit.i64_add] <;> rw [lk, i_i2l, s3] <;> omega
  have s5 : ((1668546817 : Int64) + (x0 / 255 * 256).toInt64 + (x0 % 255).toInt64).toInt = cftI x0.toInt := by unfold cftI; rw [Jvm.Kit.i64_add] <;> rw [s4, i_i2l, s2] <;> omega
  have s6 := cft_i hp0 hp1
  exact ⟨congrArg (fun z => some (Value.long z)) (i64_inj (s5.trans s6.symm)), eT, rfl⟩
def Q0 (n0 : Nat) (v : Option Value) (h : Heap) (L : List Loc) : Prop := v = some (.int (1 : Int32)) ∧ Fr n0 L
set_option maxRecDepth 65536 in
set_option maxHeartbeats 40000000 in
theorem rm0 (l : Launch) (Z : State) (a0 : Array Value) (hw : ∀ d ∈ tables_1, d.before a0 Z = true) (ws : List Jvm.Cond) (i0 : Int64) (i1 : Int32) (i2 : Int32) (i3 : Int32) (h0 : Heap) (n0 : Nat) (Z0 : n0 ≤ h0.size) :
    MetFree l x (head1 (Jvm.Cond.code x code maxLocals ret :: ws) room_1) (fun a U => a = #[(.long i0), (.int i1), (.int i2), (.int i3)] ∧ Z.Warmed39 U.vm ∧ U.heap = h0) (fun _ _ _ _ _ => True) (fun _ U o U' => ∃ v L, o = .returned v ∧ Q0 n0 v U'.heap L ∧ FrameEnd U o U' L 0 0) := by
  refine w_body pn_0 ?_
  intro p e s m below meth c T X hx hby hml hown hnm hret hlk hZ eT
  rw [ef_0]
  have N := Fr.nil n0
  refine w_iload X hx (dq hby d0_0) rfl ?_
  refine w_iconst X hx (dq hby d0_2) (z := 3) rfl ?_
  refine w_iand X hx (dq hby d0_3) ?_
  obtain ⟨v5_4, hv5_4⟩ : ∃ z : Int32, z = (i3 &&& (3 : Int32)) := ⟨_, rfl⟩
  refine w_istore X hx (dq hby d0_4) (z := v5_4) hv5_4 (Ls' := #[.val (.long i0), .second, .val (.int i1), .val (.int i2), .val (.int i3), .val (.int v5_4), .unset, .unset, .unset, .unset, .unset, .unset, .unset, .unset, .unset]) rfl ?_
  refine w_lloadN X hx (dq hby d0_6) rfl ?_
  refine w_ldc2 X hx hZ hown (hw _ (List.mem_of_getElem? (i := 0) rfl)) (dq hby d0_7) ?_
  refine w_land X hx (dq hby d0_10) ?_
  obtain ⟨v6_11, hv6_11⟩ : ∃ z : Int64, z = (i0 &&& (65535 : Int64)) := ⟨_, rfl⟩
  refine w_lstore X hx (dq hby d0_11) (z := v6_11) hv6_11 (Ls' := #[.val (.long i0), .second, .val (.int i1), .val (.int i2), .val (.int i3), .val (.int v5_4), .val (.long v6_11), .second, .unset, .unset, .unset, .unset, .unset, .unset, .unset]) rfl ?_
  refine w_j1 (fun (tag : Int64) => T.setTop (mkF m 79 #[.val (.long i0), .second, .val (.int i1), .val (.int i2), .val (.int i3), .val (.int v5_4), .val (.long v6_11), .second, .val (.long tag), .second, .unset, .unset, .unset, .unset, .unset] [])) (fun tag => True) (fun tag hq => ?_) (fun J79 => ?_)
  · try dsimp only at hq ⊢
    refine w_lload X hx (dq hby d0_79) rfl ?_
    refine w_ldc2 X hx hZ hown (hw _ (List.mem_of_getElem? (i := 1) rfl)) (dq hby d0_81) ?_
    refine w_lcmp_lt X hx (dq hby d0_84) (dj hby d0_85) (fun hc85 => ?_) (fun hc85 => ?_)
    · refine w_iconst X hx (dq hby d0_123) (z := 0) rfl ?_
      refine w_istore X hx (dq hby d0_124) (z := (0 : Int32)) rfl (Ls' := #[.val (.long i0), .second, .val (.int i1), .val (.int i2), .val (.int i3), .val (.int v5_4), .val (.long v6_11), .second, .val (.long tag), .second, .val (.int (0 : Int32)), .unset, .unset, .unset, .unset]) rfl ?_
      have q1 := own_lo tag; have q2 := own_hi tag; have q3 := cfo_i (u64 tag); have q4 := u64_i tag; have q5 := i_rng64 tag; have q6 := u64_lt tag; have q7 := cfo_rng (u64 tag)
      have lz : u64 (0 : Int64) = 0 := by decide
      have la : (1668546817 : Int64).toInt = 1668546817 := by decide
      have lb : (1668612095 : Int64).toInt = 1668612095 := by decide
      have qc : cfoI (u64 tag) = _ := if_neg (by omega)
      refine w_lload X hx (dq hby d0_126) rfl ?_
      refine w_callSP X hx hZ eT hml (by rfl) hown (hw _ (List.mem_of_getElem? (i := 2) rfl)) (hw _ (List.mem_of_getElem? (i := 3) rfl)) (hw _ (List.mem_of_getElem? (i := 4) rfl)) (hw _ (List.mem_of_getElem? (i := 5) rfl)) (by decide) (ct1 l Z a0 hw tag h0) (dq hby d0_128) pd_0 (argsL := [(.long tag)]) (rest := []) rfl rfl rfl (W := 0) rfl (by decide) (by decide) (by decide) (by decide) fun T X eT => ?_
      obtain ⟨v11_131, hv11_131⟩ : ∃ z : Int32, z = (Int32.ofInt (cfoI (u64 tag))) := ⟨_, rfl⟩
      refine w_istore X hx (dq hby d0_131) (z := v11_131) hv11_131 (Ls' := #[.val (.long i0), .second, .val (.int i1), .val (.int i2), .val (.int i3), .val (.int v5_4), .val (.long v6_11), .second, .val (.long tag), .second, .val (.int (0 : Int32)), .val (.int v11_131), .unset, .unset, .unset]) rfl ?_
      have er : v11_131.toInt = cfoI (u64 tag) := by rw [hv11_131]; exact q3
      refine w_iload X hx (dq hby d0_133) rfl ?_
      refine w_if_eq X hx (dj hby d0_135) (fun hc135 => ?_) (fun hc135 => (?_ : False).elim)
      rotate_left
      · exact absurd hc135 (by decide)
      refine w_iload X hx (dq hby d0_171) rfl ?_
      refine w_iconst X hx (dq hby d0_173) (z := -1) rfl ?_
      refine w_icmp_ne X hx (dj hby d0_174) (fun hc174 => (?_ : False).elim) (fun hc174 => ?_)
      · refine hc174 (i32_inj ?_)
        rw [er, qc]; rfl
      refine w_iconst X hx (dq hby d0_177) (z := 1) rfl ?_
      refine w_goto X hx (dj hby d0_178) ?_
      refine w_istore X hx (dq hby d0_182) (z := (1 : Int32)) rfl (Ls' := #[.val (.long i0), .second, .val (.int i1), .val (.int i2), .val (.int i3), .val (.int v5_4), .val (.long v6_11), .second, .val (.long tag), .second, .val (.int (0 : Int32)), .val (.int v11_131), .val (.int (1 : Int32)), .unset, .unset]) rfl ?_
      refine w_iloadN X hx (dq hby d0_184) rfl ?_
      refine w_ldc X hx hZ hown (hw _ (List.mem_of_getElem? (i := 8) rfl)) (dq hby d0_185) ?_
      refine w_iand X hx (dq hby d0_187) ?_
      refine w_ldc X hx hZ hown (hw _ (List.mem_of_getElem? (i := 9) rfl)) (dq hby d0_188) ?_
      refine w_irem X hx (dq hby d0_190) (by decide) ?_
      obtain ⟨v13_191, hv13_191⟩ : ∃ z : Int32, z = ((i2 &&& (2147483647 : Int32)) % (65025 : Int32)) := ⟨_, rfl⟩
      refine w_istore X hx (dq hby d0_191) (z := v13_191) hv13_191 (Ls' := #[.val (.long i0), .second, .val (.int i1), .val (.int i2), .val (.int i3), .val (.int v5_4), .val (.long v6_11), .second, .val (.long tag), .second, .val (.int (0 : Int32)), .val (.int v11_131), .val (.int (1 : Int32)), .val (.int v13_191), .unset]) rfl ?_
      have m31 : (i2 &&& 2147483647).toInt = i2.toInt % 2 ^ 31 := Jvm.Kit.i32_mask i2 2147483647 (by decide) (by decide)
      have l6 : (65025 : Int32).toInt = 65025 := rfl
      have r13 : v13_191.toInt = i2.toInt % 2 ^ 31 % 65025 := by rw [hv13_191, Jvm.Kit.i32_rem_nonneg (by omega), m31, l6]
      have hs0 : 0 ≤ v13_191.toInt := by omega
      have hs1 : v13_191.toInt < 65025 := by omega
      refine w_iload X hx (dq hby d0_193) rfl ?_
      refine w_callSP X hx hZ eT hml (by rfl) hown (hw _ (List.mem_of_getElem? (i := 10) rfl)) (hw _ (List.mem_of_getElem? (i := 11) rfl)) (hw _ (List.mem_of_getElem? (i := 4) rfl)) (hw _ (List.mem_of_getElem? (i := 12) rfl)) (by decide) (ct2 l Z a0 hw v13_191 h0 hs0 hs1) (dq hby d0_195) pd_1 (argsL := [(.int v13_191)]) (rest := []) rfl rfl rfl (W := 0) rfl (by decide) (by decide) (by decide) (by decide) fun T X eT => ?_
      refine w_callSP X hx hZ eT hml (by rfl) hown (hw _ (List.mem_of_getElem? (i := 2) rfl)) (hw _ (List.mem_of_getElem? (i := 3) rfl)) (hw _ (List.mem_of_getElem? (i := 4) rfl)) (hw _ (List.mem_of_getElem? (i := 5) rfl)) (by decide) (ct1 l Z a0 hw (Int64.ofInt (cftI v13_191.toInt)) h0) (dq hby d0_198) pd_0 (argsL := [(.long (Int64.ofInt (cftI v13_191.toInt)))]) (rest := []) rfl rfl rfl (W := 0) rfl (by decide) (by decide) (by decide) (by decide) fun T X eT => ?_
      refine w_iload X hx (dq hby d0_201) rfl ?_
      refine w_icmp_ne X hx (dj hby d0_203) (fun hc203 => (?_ : False).elim) (fun hc203 => ?_)
      · refine hc203 (i32_inj ?_)
        rw [cfo_i, own_u hs0 hs1]; exact own_rt hs0 hs1
      refine w_iconst X hx (dq hby d0_206) (z := 1) rfl ?_
      refine w_goto X hx (dj hby d0_207) ?_
      refine w_istore X hx (dq hby d0_211) (z := (1 : Int32)) rfl (Ls' := #[.val (.long i0), .second, .val (.int i1), .val (.int i2), .val (.int i3), .val (.int v5_4), .val (.long v6_11), .second, .val (.long tag), .second, .val (.int (0 : Int32)), .val (.int v11_131), .val (.int (1 : Int32)), .val (.int v13_191), .val (.int (1 : Int32))]) rfl ?_
      refine w_iload X hx (dq hby d0_213) rfl ?_
      refine w_if_eq X hx (dj hby d0_215) (fun hc215 => (?_ : False).elim) (fun hc215 => ?_)
      · exact absurd hc215 (by decide)
      refine w_iload X hx (dq hby d0_218) rfl ?_
      refine w_if_eq X hx (dj hby d0_220) (fun hc220 => (?_ : False).elim) (fun hc220 => ?_)
      · exact absurd hc220 (by decide)
      refine w_iconst X hx (dq hby d0_223) (z := 1) rfl ?_
      refine w_goto X hx (dj hby d0_224) ?_
      refine w_retN X hx hret (by simp) hlk (dq hby d0_228) (by decide) (by decide) ?_
      exact ⟨by simp [nar], N⟩
    · refine w_lload X hx (dq hby d0_88) rfl ?_
      refine w_ldc2 X hx hZ hown (hw _ (List.mem_of_getElem? (i := 16) rfl)) (dq hby d0_90) ?_
      refine w_lcmp_gt X hx (dq hby d0_93) (dj hby d0_94) (fun hc94 => ?_) (fun hc94 => ?_)
      · refine w_iconst X hx (dq hby d0_123) (z := 0) rfl ?_
        refine w_istore X hx (dq hby d0_124) (z := (0 : Int32)) rfl (Ls' := #[.val (.long i0), .second, .val (.int i1), .val (.int i2), .val (.int i3), .val (.int v5_4), .val (.long v6_11), .second, .val (.long tag), .second, .val (.int (0 : Int32)), .unset, .unset, .unset, .unset]) rfl ?_
        have q1 := own_lo tag; have q2 := own_hi tag; have q3 := cfo_i (u64 tag); have q4 := u64_i tag; have q5 := i_rng64 tag; have q6 := u64_lt tag; have q7 := cfo_rng (u64 tag)
        have lz : u64 (0 : Int64) = 0 := by decide
        have la : (1668546817 : Int64).toInt = 1668546817 := by decide
        have lb : (1668612095 : Int64).toInt = 1668612095 := by decide
        have qc : cfoI (u64 tag) = _ := if_neg (by omega)
        refine w_lload X hx (dq hby d0_126) rfl ?_
        refine w_callSP X hx hZ eT hml (by rfl) hown (hw _ (List.mem_of_getElem? (i := 2) rfl)) (hw _ (List.mem_of_getElem? (i := 3) rfl)) (hw _ (List.mem_of_getElem? (i := 4) rfl)) (hw _ (List.mem_of_getElem? (i := 5) rfl)) (by decide) (ct1 l Z a0 hw tag h0) (dq hby d0_128) pd_0 (argsL := [(.long tag)]) (rest := []) rfl rfl rfl (W := 0) rfl (by decide) (by decide) (by decide) (by decide) fun T X eT => ?_
        obtain ⟨v11_131, hv11_131⟩ : ∃ z : Int32, z = (Int32.ofInt (cfoI (u64 tag))) := ⟨_, rfl⟩
        refine w_istore X hx (dq hby d0_131) (z := v11_131) hv11_131 (Ls' := #[.val (.long i0), .second, .val (.int i1), .val (.int i2), .val (.int i3), .val (.int v5_4), .val (.long v6_11), .second, .val (.long tag), .second, .val (.int (0 : Int32)), .val (.int v11_131), .unset, .unset, .unset]) rfl ?_
        have er : v11_131.toInt = cfoI (u64 tag) := by rw [hv11_131]; exact q3
        refine w_iload X hx (dq hby d0_133) rfl ?_
        refine w_if_eq X hx (dj hby d0_135) (fun hc135 => ?_) (fun hc135 => (?_ : False).elim)
        rotate_left
        · exact absurd hc135 (by decide)
        refine w_iload X hx (dq hby d0_171) rfl ?_
        refine w_iconst X hx (dq hby d0_173) (z := -1) rfl ?_
        refine w_icmp_ne X hx (dj hby d0_174) (fun hc174 => (?_ : False).elim) (fun hc174 => ?_)
        · refine hc174 (i32_inj ?_)
          rw [er, qc]; rfl
        refine w_iconst X hx (dq hby d0_177) (z := 1) rfl ?_
        refine w_goto X hx (dj hby d0_178) ?_
        refine w_istore X hx (dq hby d0_182) (z := (1 : Int32)) rfl (Ls' := #[.val (.long i0), .second, .val (.int i1), .val (.int i2), .val (.int i3), .val (.int v5_4), .val (.long v6_11), .second, .val (.long tag), .second, .val (.int (0 : Int32)), .val (.int v11_131), .val (.int (1 : Int32)), .unset, .unset]) rfl ?_
        refine w_iloadN X hx (dq hby d0_184) rfl ?_
        refine w_ldc X hx hZ hown (hw _ (List.mem_of_getElem? (i := 8) rfl)) (dq hby d0_185) ?_
        refine w_iand X hx (dq hby d0_187) ?_
        refine w_ldc X hx hZ hown (hw _ (List.mem_of_getElem? (i := 9) rfl)) (dq hby d0_188) ?_
        refine w_irem X hx (dq hby d0_190) (by decide) ?_
        obtain ⟨v13_191, hv13_191⟩ : ∃ z : Int32, z = ((i2 &&& (2147483647 : Int32)) % (65025 : Int32)) := ⟨_, rfl⟩
        refine w_istore X hx (dq hby d0_191) (z := v13_191) hv13_191 (Ls' := #[.val (.long i0), .second, .val (.int i1), .val (.int i2), .val (.int i3), .val (.int v5_4), .val (.long v6_11), .second, .val (.long tag), .second, .val (.int (0 : Int32)), .val (.int v11_131), .val (.int (1 : Int32)), .val (.int v13_191), .unset]) rfl ?_
        have m31 : (i2 &&& 2147483647).toInt = i2.toInt % 2 ^ 31 := Jvm.Kit.i32_mask i2 2147483647 (by decide) (by decide)
        have l6 : (65025 : Int32).toInt = 65025 := rfl
        have r13 : v13_191.toInt = i2.toInt % 2 ^ 31 % 65025 := by rw [hv13_191, Jvm.Kit.i32_rem_nonneg (by omega), m31, l6]
        have hs0 : 0 ≤ v13_191.toInt := by omega
        have hs1 : v13_191.toInt < 65025 := by omega
        refine w_iload X hx (dq hby d0_193) rfl ?_
        refine w_callSP X hx hZ eT hml (by rfl) hown (hw _ (List.mem_of_getElem? (i := 10) rfl)) (hw _ (List.mem_of_getElem? (i := 11) rfl)) (hw _ (List.mem_of_getElem? (i := 4) rfl)) (hw _ (List.mem_of_getElem? (i := 12) rfl)) (by decide) (ct2 l Z a0 hw v13_191 h0 hs0 hs1) (dq hby d0_195) pd_1 (argsL := [(.int v13_191)]) (rest := []) rfl rfl rfl (W := 0) rfl (by decide) (by decide) (by decide) (by decide) fun T X eT => ?_
        refine w_callSP X hx hZ eT hml (by rfl) hown (hw _ (List.mem_of_getElem? (i := 2) rfl)) (hw _ (List.mem_of_getElem? (i := 3) rfl)) (hw _ (List.mem_of_getElem? (i := 4) rfl)) (hw _ (List.mem_of_getElem? (i := 5) rfl)) (by decide) (ct1 l Z a0 hw (Int64.ofInt (cftI v13_191.toInt)) h0) (dq hby d0_198) pd_0 (argsL := [(.long (Int64.ofInt (cftI v13_191.toInt)))]) (rest := []) rfl rfl rfl (W := 0) rfl (by decide) (by decide) (by decide) (by decide) fun T X eT => ?_
        refine w_iload X hx (dq hby d0_201) rfl ?_
        refine w_icmp_ne X hx (dj hby d0_203) (fun hc203 => (?_ : False).elim) (fun hc203 => ?_)
        · refine hc203 (i32_inj ?_)
          rw [cfo_i, own_u hs0 hs1]; exact own_rt hs0 hs1
        refine w_iconst X hx (dq hby d0_206) (z := 1) rfl ?_
        refine w_goto X hx (dj hby d0_207) ?_
        refine w_istore X hx (dq hby d0_211) (z := (1 : Int32)) rfl (Ls' := #[.val (.long i0), .second, .val (.int i1), .val (.int i2), .val (.int i3), .val (.int v5_4), .val (.long v6_11), .second, .val (.long tag), .second, .val (.int (0 : Int32)), .val (.int v11_131), .val (.int (1 : Int32)), .val (.int v13_191), .val (.int (1 : Int32))]) rfl ?_
        refine w_iload X hx (dq hby d0_213) rfl ?_
        refine w_if_eq X hx (dj hby d0_215) (fun hc215 => (?_ : False).elim) (fun hc215 => ?_)
        · exact absurd hc215 (by decide)
        refine w_iload X hx (dq hby d0_218) rfl ?_
        refine w_if_eq X hx (dj hby d0_220) (fun hc220 => (?_ : False).elim) (fun hc220 => ?_)
        · exact absurd hc220 (by decide)
        refine w_iconst X hx (dq hby d0_223) (z := 1) rfl ?_
        refine w_goto X hx (dj hby d0_224) ?_
        refine w_retN X hx hret (by simp) hlk (dq hby d0_228) (by decide) (by decide) ?_
        exact ⟨by simp [nar], N⟩
      · refine w_lload X hx (dq hby d0_97) rfl ?_
        refine w_ldc2 X hx hZ hown (hw _ (List.mem_of_getElem? (i := 17) rfl)) (dq hby d0_99) ?_
        refine w_land X hx (dq hby d0_102) ?_
        refine w_lconst X hx (dq hby d0_103) (z := 0) rfl ?_
        refine w_lcmp_eq X hx (dq hby d0_104) (dj hby d0_105) (fun hc105 => ?_) (fun hc105 => ?_)
        · refine w_iconst X hx (dq hby d0_123) (z := 0) rfl ?_
          refine w_istore X hx (dq hby d0_124) (z := (0 : Int32)) rfl (Ls' := #[.val (.long i0), .second, .val (.int i1), .val (.int i2), .val (.int i3), .val (.int v5_4), .val (.long v6_11), .second, .val (.long tag), .second, .val (.int (0 : Int32)), .unset, .unset, .unset, .unset]) rfl ?_
          have q1 := own_lo tag; have q2 := own_hi tag; have q3 := cfo_i (u64 tag); have q4 := u64_i tag; have q5 := i_rng64 tag; have q6 := u64_lt tag; have q7 := cfo_rng (u64 tag)
          have lz : u64 (0 : Int64) = 0 := by decide
          have la : (1668546817 : Int64).toInt = 1668546817 := by decide
          have lb : (1668612095 : Int64).toInt = 1668612095 := by decide
          have hc105' := congrArg u64 hc105
          have qc : cfoI (u64 tag) = _ := if_neg (by omega)
          refine w_lload X hx (dq hby d0_126) rfl ?_
          refine w_callSP X hx hZ eT hml (by rfl) hown (hw _ (List.mem_of_getElem? (i := 2) rfl)) (hw _ (List.mem_of_getElem? (i := 3) rfl)) (hw _ (List.mem_of_getElem? (i := 4) rfl)) (hw _ (List.mem_of_getElem? (i := 5) rfl)) (by decide) (ct1 l Z a0 hw tag h0) (dq hby d0_128) pd_0 (argsL := [(.long tag)]) (rest := []) rfl rfl rfl (W := 0) rfl (by decide) (by decide) (by decide) (by decide) fun T X eT => ?_
          obtain ⟨v11_131, hv11_131⟩ : ∃ z : Int32, z = (Int32.ofInt (cfoI (u64 tag))) := ⟨_, rfl⟩
          refine w_istore X hx (dq hby d0_131) (z := v11_131) hv11_131 (Ls' := #[.val (.long i0), .second, .val (.int i1), .val (.int i2), .val (.int i3), .val (.int v5_4), .val (.long v6_11), .second, .val (.long tag), .second, .val (.int (0 : Int32)), .val (.int v11_131), .unset, .unset, .unset]) rfl ?_
          have er : v11_131.toInt = cfoI (u64 tag) := by rw [hv11_131]; exact q3
          refine w_iload X hx (dq hby d0_133) rfl ?_
          refine w_if_eq X hx (dj hby d0_135) (fun hc135 => ?_) (fun hc135 => (?_ : False).elim)
          rotate_left
          · exact absurd hc135 (by decide)
          refine w_iload X hx (dq hby d0_171) rfl ?_
          refine w_iconst X hx (dq hby d0_173) (z := -1) rfl ?_
          refine w_icmp_ne X hx (dj hby d0_174) (fun hc174 => (?_ : False).elim) (fun hc174 => ?_)
          · refine hc174 (i32_inj ?_)
            rw [er, qc]; rfl
          refine w_iconst X hx (dq hby d0_177) (z := 1) rfl ?_
          refine w_goto X hx (dj hby d0_178) ?_
          refine w_istore X hx (dq hby d0_182) (z := (1 : Int32)) rfl (Ls' := #[.val (.long i0), .second, .val (.int i1), .val (.int i2), .val (.int i3), .val (.int v5_4), .val (.long v6_11), .second, .val (.long tag), .second, .val (.int (0 : Int32)), .val (.int v11_131), .val (.int (1 : Int32)), .unset, .unset]) rfl ?_
          refine w_iloadN X hx (dq hby d0_184) rfl ?_
          refine w_ldc X hx hZ hown (hw _ (List.mem_of_getElem? (i := 8) rfl)) (dq hby d0_185) ?_
          refine w_iand X hx (dq hby d0_187) ?_
          refine w_ldc X hx hZ hown (hw _ (List.mem_of_getElem? (i := 9) rfl)) (dq hby d0_188) ?_
          refine w_irem X hx (dq hby d0_190) (by decide) ?_
          obtain ⟨v13_191, hv13_191⟩ : ∃ z : Int32, z = ((i2 &&& (2147483647 : Int32)) % (65025 : Int32)) := ⟨_, rfl⟩
          refine w_istore X hx (dq hby d0_191) (z := v13_191) hv13_191 (Ls' := #[.val (.long i0), .second, .val (.int i1), .val (.int i2), .val (.int i3), .val (.int v5_4), .val (.long v6_11), .second, .val (.long tag), .second, .val (.int (0 : Int32)), .val (.int v11_131), .val (.int (1 : Int32)), .val (.int v13_191), .unset]) rfl ?_
          have m31 : (i2 &&& 2147483647).toInt = i2.toInt % 2 ^ 31 := Jvm.Kit.i32_mask i2 2147483647 (by decide) (by decide)
          have l6 : (65025 : Int32).toInt = 65025 := rfl
          have r13 : v13_191.toInt = i2.toInt % 2 ^ 31 % 65025 := by rw [hv13_191, Jvm.Kit.i32_rem_nonneg (by omega), m31, l6]
          have hs0 : 0 ≤ v13_191.toInt := by omega
          have hs1 : v13_191.toInt < 65025 := by omega
          refine w_iload X hx (dq hby d0_193) rfl ?_
          refine w_callSP X hx hZ eT hml (by rfl) hown (hw _ (List.mem_of_getElem? (i := 10) rfl)) (hw _ (List.mem_of_getElem? (i := 11) rfl)) (hw _ (List.mem_of_getElem? (i := 4) rfl)) (hw _ (List.mem_of_getElem? (i := 12) rfl)) (by decide) (ct2 l Z a0 hw v13_191 h0 hs0 hs1) (dq hby d0_195) pd_1 (argsL := [(.int v13_191)]) (rest := []) rfl rfl rfl (W := 0) rfl (by decide) (by decide) (by decide) (by decide) fun T X eT => ?_
          refine w_callSP X hx hZ eT hml (by rfl) hown (hw _ (List.mem_of_getElem? (i := 2) rfl)) (hw _ (List.mem_of_getElem? (i := 3) rfl)) (hw _ (List.mem_of_getElem? (i := 4) rfl)) (hw _ (List.mem_of_getElem? (i := 5) rfl)) (by decide) (ct1 l Z a0 hw (Int64.ofInt (cftI v13_191.toInt)) h0) (dq hby d0_198) pd_0 (argsL := [(.long (Int64.ofInt (cftI v13_191.toInt)))]) (rest := []) rfl rfl rfl (W := 0) rfl (by decide) (by decide) (by decide) (by decide) fun T X eT => ?_
          refine w_iload X hx (dq hby d0_201) rfl ?_
          refine w_icmp_ne X hx (dj hby d0_203) (fun hc203 => (?_ : False).elim) (fun hc203 => ?_)
          · refine hc203 (i32_inj ?_)
            rw [cfo_i, own_u hs0 hs1]; exact own_rt hs0 hs1
          refine w_iconst X hx (dq hby d0_206) (z := 1) rfl ?_
          refine w_goto X hx (dj hby d0_207) ?_
          refine w_istore X hx (dq hby d0_211) (z := (1 : Int32)) rfl (Ls' := #[.val (.long i0), .second, .val (.int i1), .val (.int i2), .val (.int i3), .val (.int v5_4), .val (.long v6_11), .second, .val (.long tag), .second, .val (.int (0 : Int32)), .val (.int v11_131), .val (.int (1 : Int32)), .val (.int v13_191), .val (.int (1 : Int32))]) rfl ?_
          refine w_iload X hx (dq hby d0_213) rfl ?_
          refine w_if_eq X hx (dj hby d0_215) (fun hc215 => (?_ : False).elim) (fun hc215 => ?_)
          · exact absurd hc215 (by decide)
          refine w_iload X hx (dq hby d0_218) rfl ?_
          refine w_if_eq X hx (dj hby d0_220) (fun hc220 => (?_ : False).elim) (fun hc220 => ?_)
          · exact absurd hc220 (by decide)
          refine w_iconst X hx (dq hby d0_223) (z := 1) rfl ?_
          refine w_goto X hx (dj hby d0_224) ?_
          refine w_retN X hx hret (by simp) hlk (dq hby d0_228) (by decide) (by decide) ?_
          exact ⟨by simp [nar], N⟩
        · refine w_lload X hx (dq hby d0_108) rfl ?_
          refine w_ldc2 X hx hZ hown (hw _ (List.mem_of_getElem? (i := 18) rfl)) (dq hby d0_110) ?_
          refine w_land X hx (dq hby d0_113) ?_
          refine w_lconst X hx (dq hby d0_114) (z := 0) rfl ?_
          refine w_lcmp_eq X hx (dq hby d0_115) (dj hby d0_116) (fun hc116 => ?_) (fun hc116 => ?_)
          · refine w_iconst X hx (dq hby d0_123) (z := 0) rfl ?_
            refine w_istore X hx (dq hby d0_124) (z := (0 : Int32)) rfl (Ls' := #[.val (.long i0), .second, .val (.int i1), .val (.int i2), .val (.int i3), .val (.int v5_4), .val (.long v6_11), .second, .val (.long tag), .second, .val (.int (0 : Int32)), .unset, .unset, .unset, .unset]) rfl ?_
            have q1 := own_lo tag; have q2 := own_hi tag; have q3 := cfo_i (u64 tag); have q4 := u64_i tag; have q5 := i_rng64 tag; have q6 := u64_lt tag; have q7 := cfo_rng (u64 tag)
            have lz : u64 (0 : Int64) = 0 := by decide
            have la : (1668546817 : Int64).toInt = 1668546817 := by decide
            have lb : (1668612095 : Int64).toInt = 1668612095 := by decide
            have hc105' : u64 (tag &&& (255 : Int64)) ≠ 0 := fun q => hc105 (u64_inj (q.trans lz.symm))
            have hc116' := congrArg u64 hc116
            have qc : cfoI (u64 tag) = _ := if_neg (by omega)
            refine w_lload X hx (dq hby d0_126) rfl ?_
            refine w_callSP X hx hZ eT hml (by rfl) hown (hw _ (List.mem_of_getElem? (i := 2) rfl)) (hw _ (List.mem_of_getElem? (i := 3) rfl)) (hw _ (List.mem_of_getElem? (i := 4) rfl)) (hw _ (List.mem_of_getElem? (i := 5) rfl)) (by decide) (ct1 l Z a0 hw tag h0) (dq hby d0_128) pd_0 (argsL := [(.long tag)]) (rest := []) rfl rfl rfl (W := 0) rfl (by decide) (by decide) (by decide) (by decide) fun T X eT => ?_
            obtain ⟨v11_131, hv11_131⟩ : ∃ z : Int32, z = (Int32.ofInt (cfoI (u64 tag))) := ⟨_, rfl⟩
            refine w_istore X hx (dq hby d0_131) (z := v11_131) hv11_131 (Ls' := #[.val (.long i0), .second, .val (.int i1), .val (.int i2), .val (.int i3), .val (.int v5_4), .val (.long v6_11), .second, .val (.long tag), .second, .val (.int (0 : Int32)), .val (.int v11_131), .unset, .unset, .unset]) rfl ?_
            have er : v11_131.toInt = cfoI (u64 tag) := by rw [hv11_131]; exact q3
            refine w_iload X hx (dq hby d0_133) rfl ?_
            refine w_if_eq X hx (dj hby d0_135) (fun hc135 => ?_) (fun hc135 => (?_ : False).elim)
            rotate_left
            · exact absurd hc135 (by decide)
            refine w_iload X hx (dq hby d0_171) rfl ?_
            refine w_iconst X hx (dq hby d0_173) (z := -1) rfl ?_
            refine w_icmp_ne X hx (dj hby d0_174) (fun hc174 => (?_ : False).elim) (fun hc174 => ?_)
            · refine hc174 (i32_inj ?_)
              rw [er, qc]; rfl
            refine w_iconst X hx (dq hby d0_177) (z := 1) rfl ?_
            refine w_goto X hx (dj hby d0_178) ?_
            refine w_istore X hx (dq hby d0_182) (z := (1 : Int32)) rfl (Ls' := #[.val (.long i0), .second, .val (.int i1), .val (.int i2), .val (.int i3), .val (.int v5_4), .val (.long v6_11), .second, .val (.long tag), .second, .val (.int (0 : Int32)), .val (.int v11_131), .val (.int (1 : Int32)), .unset, .unset]) rfl ?_
            refine w_iloadN X hx (dq hby d0_184) rfl ?_
            refine w_ldc X hx hZ hown (hw _ (List.mem_of_getElem? (i := 8) rfl)) (dq hby d0_185) ?_
            refine w_iand X hx (dq hby d0_187) ?_
            refine w_ldc X hx hZ hown (hw _ (List.mem_of_getElem? (i := 9) rfl)) (dq hby d0_188) ?_
            refine w_irem X hx (dq hby d0_190) (by decide) ?_
            obtain ⟨v13_191, hv13_191⟩ : ∃ z : Int32, z = ((i2 &&& (2147483647 : Int32)) % (65025 : Int32)) := ⟨_, rfl⟩
            refine w_istore X hx (dq hby d0_191) (z := v13_191) hv13_191 (Ls' := #[.val (.long i0), .second, .val (.int i1), .val (.int i2), .val (.int i3), .val (.int v5_4), .val (.long v6_11), .second, .val (.long tag), .second, .val (.int (0 : Int32)), .val (.int v11_131), .val (.int (1 : Int32)), .val (.int v13_191), .unset]) rfl ?_
            have m31 : (i2 &&& 2147483647).toInt = i2.toInt % 2 ^ 31 := Jvm.Kit.i32_mask i2 2147483647 (by decide) (by decide)
            have l6 : (65025 : Int32).toInt = 65025 := rfl
            have r13 : v13_191.toInt = i2.toInt % 2 ^ 31 % 65025 := by rw [hv13_191, Jvm.Kit.i32_rem_nonneg (by omega), m31, l6]
            have hs0 : 0 ≤ v13_191.toInt := by omega
            have hs1 : v13_191.toInt < 65025 := by omega
            refine w_iload X hx (dq hby d0_193) rfl ?_
            refine w_callSP X hx hZ eT hml (by rfl) hown (hw _ (List.mem_of_getElem? (i := 10) rfl)) (hw _ (List.mem_of_getElem? (i := 11) rfl)) (hw _ (List.mem_of_getElem? (i := 4) rfl)) (hw _ (List.mem_of_getElem? (i := 12) rfl)) (by decide) (ct2 l Z a0 hw v13_191 h0 hs0 hs1) (dq hby d0_195) pd_1 (argsL := [(.int v13_191)]) (rest := []) rfl rfl rfl (W := 0) rfl (by decide) (by decide) (by decide) (by decide) fun T X eT => ?_
            refine w_callSP X hx hZ eT hml (by rfl) hown (hw _ (List.mem_of_getElem? (i := 2) rfl)) (hw _ (List.mem_of_getElem? (i := 3) rfl)) (hw _ (List.mem_of_getElem? (i := 4) rfl)) (hw _ (List.mem_of_getElem? (i := 5) rfl)) (by decide) (ct1 l Z a0 hw (Int64.ofInt (cftI v13_191.toInt)) h0) (dq hby d0_198) pd_0 (argsL := [(.long (Int64.ofInt (cftI v13_191.toInt)))]) (rest := []) rfl rfl rfl (W := 0) rfl (by decide) (by decide) (by decide) (by decide) fun T X eT => ?_
            refine w_iload X hx (dq hby d0_201) rfl ?_
            refine w_icmp_ne X hx (dj hby d0_203) (fun hc203 => (?_ : False).elim) (fun hc203 => ?_)
            · refine hc203 (i32_inj ?_)
              rw [cfo_i, own_u hs0 hs1]; exact own_rt hs0 hs1
            refine w_iconst X hx (dq hby d0_206) (z := 1) rfl ?_
            refine w_goto X hx (dj hby d0_207) ?_
            refine w_istore X hx (dq hby d0_211) (z := (1 : Int32)) rfl (Ls' := #[.val (.long i0), .second, .val (.int i1), .val (.int i2), .val (.int i3), .val (.int v5_4), .val (.long v6_11), .second, .val (.long tag), .second, .val (.int (0 : Int32)), .val (.int v11_131), .val (.int (1 : Int32)), .val (.int v13_191), .val (.int (1 : Int32))]) rfl ?_
            refine w_iload X hx (dq hby d0_213) rfl ?_
            refine w_if_eq X hx (dj hby d0_215) (fun hc215 => (?_ : False).elim) (fun hc215 => ?_)
            · exact absurd hc215 (by decide)
            refine w_iload X hx (dq hby d0_218) rfl ?_
            refine w_if_eq X hx (dj hby d0_220) (fun hc220 => (?_ : False).elim) (fun hc220 => ?_)
            · exact absurd hc220 (by decide)
            refine w_iconst X hx (dq hby d0_223) (z := 1) rfl ?_
            refine w_goto X hx (dj hby d0_224) ?_
            refine w_retN X hx hret (by simp) hlk (dq hby d0_228) (by decide) (by decide) ?_
            exact ⟨by simp [nar], N⟩
          · refine w_iconst X hx (dq hby d0_119) (z := 1) rfl ?_
            refine w_goto X hx (dj hby d0_120) ?_
            refine w_istore X hx (dq hby d0_124) (z := (1 : Int32)) rfl (Ls' := #[.val (.long i0), .second, .val (.int i1), .val (.int i2), .val (.int i3), .val (.int v5_4), .val (.long v6_11), .second, .val (.long tag), .second, .val (.int (1 : Int32)), .unset, .unset, .unset, .unset]) rfl ?_
            have q1 := own_lo tag; have q2 := own_hi tag; have q3 := cfo_i (u64 tag); have q4 := u64_i tag; have q5 := i_rng64 tag; have q6 := u64_lt tag; have q7 := cfo_rng (u64 tag)
            have lz : u64 (0 : Int64) = 0 := by decide
            have la : (1668546817 : Int64).toInt = 1668546817 := by decide
            have lb : (1668612095 : Int64).toInt = 1668612095 := by decide
            have hc105' : u64 (tag &&& (255 : Int64)) ≠ 0 := fun q => hc105 (u64_inj (q.trans lz.symm))
            have hc116' : u64 (tag &&& (65280 : Int64)) ≠ 0 := fun q => hc116 (u64_inj (q.trans lz.symm))
            have qc : cfoI (u64 tag) = _ := if_pos ⟨by omega, by omega, by omega⟩
            refine w_lload X hx (dq hby d0_126) rfl ?_
            refine w_callSP X hx hZ eT hml (by rfl) hown (hw _ (List.mem_of_getElem? (i := 2) rfl)) (hw _ (List.mem_of_getElem? (i := 3) rfl)) (hw _ (List.mem_of_getElem? (i := 4) rfl)) (hw _ (List.mem_of_getElem? (i := 5) rfl)) (by decide) (ct1 l Z a0 hw tag h0) (dq hby d0_128) pd_0 (argsL := [(.long tag)]) (rest := []) rfl rfl rfl (W := 0) rfl (by decide) (by decide) (by decide) (by decide) fun T X eT => ?_
            obtain ⟨v11_131, hv11_131⟩ : ∃ z : Int32, z = (Int32.ofInt (cfoI (u64 tag))) := ⟨_, rfl⟩
            refine w_istore X hx (dq hby d0_131) (z := v11_131) hv11_131 (Ls' := #[.val (.long i0), .second, .val (.int i1), .val (.int i2), .val (.int i3), .val (.int v5_4), .val (.long v6_11), .second, .val (.long tag), .second, .val (.int (1 : Int32)), .val (.int v11_131), .unset, .unset, .unset]) rfl ?_
            have er : v11_131.toInt = cfoI (u64 tag) := by rw [hv11_131]; exact q3
            refine w_iload X hx (dq hby d0_133) rfl ?_
            refine w_if_eq X hx (dj hby d0_135) (fun hc135 => (?_ : False).elim) (fun hc135 => ?_)
            · exact absurd hc135 (by decide)
            refine w_iload X hx (dq hby d0_138) rfl ?_
            refine w_if_lt X hx (dj hby d0_140) (fun hc140 => (?_ : False).elim) (fun hc140 => ?_)
            · omega
            refine w_iload X hx (dq hby d0_143) rfl ?_
            refine w_ldc X hx hZ hown (hw _ (List.mem_of_getElem? (i := 9) rfl)) (dq hby d0_145) ?_
            refine w_icmp_ge X hx (dj hby d0_147) (fun hc147 => (?_ : False).elim) (fun hc147 => ?_)
            · have l5 : (65025 : Int32).toInt = 65025 := rfl
              omega
            have l5 : (65025 : Int32).toInt = 65025 := rfl
            have hr0 : 0 ≤ v11_131.toInt := hc140
            have hr1 : v11_131.toInt < 65025 := by omega
            refine w_iload X hx (dq hby d0_150) rfl ?_
            refine w_callSP X hx hZ eT hml (by rfl) hown (hw _ (List.mem_of_getElem? (i := 10) rfl)) (hw _ (List.mem_of_getElem? (i := 11) rfl)) (hw _ (List.mem_of_getElem? (i := 4) rfl)) (hw _ (List.mem_of_getElem? (i := 12) rfl)) (by decide) (ct2 l Z a0 hw v11_131 h0 hr0 hr1) (dq hby d0_152) pd_1 (argsL := [(.int v11_131)]) (rest := []) rfl rfl rfl (W := 0) rfl (by decide) (by decide) (by decide) (by decide) fun T X eT => ?_
            refine w_lload X hx (dq hby d0_155) rfl ?_
            refine w_lcmp_ne X hx (dq hby d0_157) (dj hby d0_158) (fun hc158 => (?_ : False).elim) (fun hc158 => ?_)
            · refine hc158 (i64_inj ?_)
              rw [cft_i hr0 hr1, er, qc]; unfold cftI; omega
            refine w_iconst X hx (dq hby d0_161) (z := 1) rfl ?_
            refine w_goto X hx (dj hby d0_162) ?_
            refine w_istore X hx (dq hby d0_166) (z := (1 : Int32)) rfl (Ls' := #[.val (.long i0), .second, .val (.int i1), .val (.int i2), .val (.int i3), .val (.int v5_4), .val (.long v6_11), .second, .val (.long tag), .second, .val (.int (1 : Int32)), .val (.int v11_131), .val (.int (1 : Int32)), .unset, .unset]) rfl ?_
            refine w_goto X hx (dj hby d0_168) ?_
            refine w_iloadN X hx (dq hby d0_184) rfl ?_
            refine w_ldc X hx hZ hown (hw _ (List.mem_of_getElem? (i := 8) rfl)) (dq hby d0_185) ?_
            refine w_iand X hx (dq hby d0_187) ?_
            refine w_ldc X hx hZ hown (hw _ (List.mem_of_getElem? (i := 9) rfl)) (dq hby d0_188) ?_
            refine w_irem X hx (dq hby d0_190) (by decide) ?_
            obtain ⟨v13_191, hv13_191⟩ : ∃ z : Int32, z = ((i2 &&& (2147483647 : Int32)) % (65025 : Int32)) := ⟨_, rfl⟩
            refine w_istore X hx (dq hby d0_191) (z := v13_191) hv13_191 (Ls' := #[.val (.long i0), .second, .val (.int i1), .val (.int i2), .val (.int i3), .val (.int v5_4), .val (.long v6_11), .second, .val (.long tag), .second, .val (.int (1 : Int32)), .val (.int v11_131), .val (.int (1 : Int32)), .val (.int v13_191), .unset]) rfl ?_
            have m31 : (i2 &&& 2147483647).toInt = i2.toInt % 2 ^ 31 := Jvm.Kit.i32_mask i2 2147483647 (by decide) (by decide)
            have l6 : (65025 : Int32).toInt = 65025 := rfl
            have r13 : v13_191.toInt = i2.toInt % 2 ^ 31 % 65025 := by rw [hv13_191, Jvm.Kit.i32_rem_nonneg (by omega), m31, l6]
            have hs0 : 0 ≤ v13_191.toInt := by omega
            have hs1 : v13_191.toInt < 65025 := by omega
            refine w_iload X hx (dq hby d0_193) rfl ?_
            refine w_callSP X hx hZ eT hml (by rfl) hown (hw _ (List.mem_of_getElem? (i := 10) rfl)) (hw _ (List.mem_of_getElem? (i := 11) rfl)) (hw _ (List.mem_of_getElem? (i := 4) rfl)) (hw _ (List.mem_of_getElem? (i := 12) rfl)) (by decide) (ct2 l Z a0 hw v13_191 h0 hs0 hs1) (dq hby d0_195) pd_1 (argsL := [(.int v13_191)]) (rest := []) rfl rfl rfl (W := 0) rfl (by decide) (by decide) (by decide) (by decide) fun T X eT => ?_
            refine w_callSP X hx hZ eT hml (by rfl) hown (hw _ (List.mem_of_getElem? (i := 2) rfl)) (hw _ (List.mem_of_getElem? (i := 3) rfl)) (hw _ (List.mem_of_getElem? (i := 4) rfl)) (hw _ (List.mem_of_getElem? (i := 5) rfl)) (by decide) (ct1 l Z a0 hw (Int64.ofInt (cftI v13_191.toInt)) h0) (dq hby d0_198) pd_0 (argsL := [(.long (Int64.ofInt (cftI v13_191.toInt)))]) (rest := []) rfl rfl rfl (W := 0) rfl (by decide) (by decide) (by decide) (by decide) fun T X eT => ?_
            refine w_iload X hx (dq hby d0_201) rfl ?_
            refine w_icmp_ne X hx (dj hby d0_203) (fun hc203 => (?_ : False).elim) (fun hc203 => ?_)
            · refine hc203 (i32_inj ?_)
              rw [cfo_i, own_u hs0 hs1]; exact own_rt hs0 hs1
            refine w_iconst X hx (dq hby d0_206) (z := 1) rfl ?_
            refine w_goto X hx (dj hby d0_207) ?_
            refine w_istore X hx (dq hby d0_211) (z := (1 : Int32)) rfl (Ls' := #[.val (.long i0), .second, .val (.int i1), .val (.int i2), .val (.int i3), .val (.int v5_4), .val (.long v6_11), .second, .val (.long tag), .second, .val (.int (1 : Int32)), .val (.int v11_131), .val (.int (1 : Int32)), .val (.int v13_191), .val (.int (1 : Int32))]) rfl ?_
            refine w_iload X hx (dq hby d0_213) rfl ?_
            refine w_if_eq X hx (dj hby d0_215) (fun hc215 => (?_ : False).elim) (fun hc215 => ?_)
            · exact absurd hc215 (by decide)
            refine w_iload X hx (dq hby d0_218) rfl ?_
            refine w_if_eq X hx (dj hby d0_220) (fun hc220 => (?_ : False).elim) (fun hc220 => ?_)
            · exact absurd hc220 (by decide)
            refine w_iconst X hx (dq hby d0_223) (z := 1) rfl ?_
            refine w_goto X hx (dj hby d0_224) ?_
            refine w_retN X hx hret (by simp) hlk (dq hby d0_228) (by decide) (by decide) ?_
            exact ⟨by simp [nar], N⟩
  refine w_iload X hx (dq hby d0_13) rfl ?_
  refine w_if_ne X hx (dj hby d0_15) (fun hc15 => ?_) (fun hc15 => ?_)
  · refine w_iload X hx (dq hby d0_24) rfl ?_
    refine w_iconst X hx (dq hby d0_26) (z := 1) rfl ?_
    refine w_icmp_ne X hx (dj hby d0_27) (fun hc27 => ?_) (fun hc27 => ?_)
    · refine w_iload X hx (dq hby d0_41) rfl ?_
      refine w_iconst X hx (dq hby d0_43) (z := 2) rfl ?_
      refine w_icmp_ne X hx (dj hby d0_44) (fun hc44 => ?_) (fun hc44 => ?_)
      · refine w_ldc2 X hx hZ hown (hw _ (List.mem_of_getElem? (i := 15) rfl)) (dq hby d0_64) ?_
        refine w_lload X hx (dq hby d0_67) rfl ?_
        refine w_lor X hx (dq hby d0_69) ?_
        refine w_lconst X hx (dq hby d0_70) (z := 1) rfl ?_
        refine w_iloadN X hx (dq hby d0_71) rfl ?_
        refine w_bipush X hx (dq hby d0_72) (z := 63) rfl ?_
        refine w_iand X hx (dq hby d0_74) ?_
        refine w_lshl X hx (dq hby d0_75) ?_
        refine w_lxor X hx (dq hby d0_76) ?_
        obtain ⟨v8_77, hv8_77⟩ : ∃ z : Int64, z = (((1668546560 : Int64) ||| v6_11) ^^^ (LShl (1 : Int64) (i1 &&& (63 : Int32)))) := ⟨_, rfl⟩
        refine w_lstore X hx (dq hby d0_77) (z := v8_77) hv8_77 (Ls' := #[.val (.long i0), .second, .val (.int i1), .val (.int i2), .val (.int i3), .val (.int v5_4), .val (.long v6_11), .second, .val (.long v8_77), .second, .unset, .unset, .unset, .unset, .unset]) rfl ?_
        exact J79 _ trivial
      · refine w_ldc2 X hx hZ hown (hw _ (List.mem_of_getElem? (i := 15) rfl)) (dq hby d0_47) ?_
        refine w_lload X hx (dq hby d0_50) rfl ?_
        refine w_lor X hx (dq hby d0_52) ?_
        refine w_iloadN X hx (dq hby d0_53) rfl ?_
        refine w_i2l X hx (dq hby d0_54) ?_
        refine w_bipush X hx (dq hby d0_55) (z := 32) rfl ?_
        refine w_lshl X hx (dq hby d0_57) ?_
        refine w_lor X hx (dq hby d0_58) ?_
        obtain ⟨v8_59, hv8_59⟩ : ∃ z : Int64, z = (((1668546560 : Int64) ||| v6_11) ||| (LShl (i1.toInt64) (32 : Int32))) := ⟨_, rfl⟩
        refine w_lstore X hx (dq hby d0_59) (z := v8_59) hv8_59 (Ls' := #[.val (.long i0), .second, .val (.int i1), .val (.int i2), .val (.int i3), .val (.int v5_4), .val (.long v6_11), .second, .val (.long v8_59), .second, .unset, .unset, .unset, .unset, .unset]) rfl ?_
        refine w_goto X hx (dj hby d0_61) ?_
        exact J79 _ trivial
    · refine w_ldc2 X hx hZ hown (hw _ (List.mem_of_getElem? (i := 15) rfl)) (dq hby d0_30) ?_
      refine w_lload X hx (dq hby d0_33) rfl ?_
      refine w_lor X hx (dq hby d0_35) ?_
      obtain ⟨v8_36, hv8_36⟩ : ∃ z : Int64, z = ((1668546560 : Int64) ||| v6_11) := ⟨_, rfl⟩
      refine w_lstore X hx (dq hby d0_36) (z := v8_36) hv8_36 (Ls' := #[.val (.long i0), .second, .val (.int i1), .val (.int i2), .val (.int i3), .val (.int v5_4), .val (.long v6_11), .second, .val (.long v8_36), .second, .unset, .unset, .unset, .unset, .unset]) rfl ?_
      refine w_goto X hx (dj hby d0_38) ?_
      exact J79 _ trivial
  · refine w_lloadN X hx (dq hby d0_18) rfl ?_
    refine w_lstore X hx (dq hby d0_19) (z := i0) rfl (Ls' := #[.val (.long i0), .second, .val (.int i1), .val (.int i2), .val (.int i3), .val (.int v5_4), .val (.long v6_11), .second, .val (.long i0), .second, .unset, .unset, .unset, .unset, .unset]) rfl ?_
    refine w_goto X hx (dj hby d0_21) ?_
    exact J79 _ trivial
set_option maxRecDepth 65536 in
set_option maxHeartbeats 40000000 in
theorem comes_1 {Post : Tables → Env → Array Value → State → Outcome → State → Prop} (hpost : ∀ tb e args s v u, (limb_1_1.after args s (.returned v) u = true ∧ limb_1_2.after args s (.returned v) u = true) → FrameEnd s (.returned v) u (Jvm.fieldLocs frame_1_writes args s ++ Jvm.arrayLocs frame_1_arrays args s ++ Jvm.staticLocs frame_1_statics s) 0 0 → Post tb e args s (.returned v) u) :
    ArmFor flags0 classFile x code maxLocals ret World_1 tables_1 room_1 Calls_1 rest_1 Pre_1 Post := by
  intro l hfl _ _ p e ha hc hk s m args below hf hA hF happ hP
  obtain ⟨hcalls, hrest, hpre⟩ := hP
  obtain ⟨-, -, -, hnamed, -, -, -, hat⟩ := (Spec.applies_iff hf).mp happ
  obtain ⟨hg, hn⟩ := and_e (Cond.before_iff.mp (show (Jvm.Cond.and given_1 narrow_1).before args s = true from hpre))
  obtain ⟨g0, k0⟩ := and_e hg
  obtain ⟨g1, k1⟩ := and_e k0
  obtain ⟨g2, k2⟩ := and_e k1
  obtain ⟨g3, k3⟩ := and_e k2
  obtain ⟨w0, w1, w2, w3, rfl⟩ : ∃ w0 w1 w2 w3 : Value, args = #[w0, w1, w2, w3] := by
    have hs : args.size = 4 := by simpa [Cond.value, given_1] using g0
    obtain ⟨L⟩ := args
    match L, hs with
    | [w0, w1, w2, w3], _ => exact ⟨w0, w1, w2, w3, rfl⟩
  have hw := fun d (hd : d ∈ tables_1) => atoms_spec (ws := Jvm.Cond.code x code maxLocals ret :: tables_1) hat d (List.mem_cons_of_mem _ hd)
  obtain ⟨i0, ei0⟩ := isL_v g1
  obtain rfl : w0 = (.long i0) := Option.some.inj ei0
  obtain ⟨i1, ei1⟩ := is_v g2
  obtain rfl : w1 = (.int i1) := Option.some.inj ei1
  obtain ⟨i2, ei2⟩ := is_v g3
  obtain rfl : w2 = (.int i2) := Option.some.inj ei2
  obtain ⟨i3, ei3⟩ := is_v k3
  obtain rfl : w3 = (.int i3) := Option.some.inj ei3
  obtain ⟨n, o, h1, h2, h3, _, L, rfl, ⟨rfl, N⟩, hq⟩ := rm0 l s _ hw tables_1 i0 i1 i2 i3 s.heap s.heap.size (Nat.le_refl _) p e ha hc hk s m _ below hf ((Spec.applies_iff_loose hf).mp happ).1 ⟨rfl, State.Warmed39.refl s, rfl⟩ trivial
  exact ⟨n, _, h1, h2, h3, hpost _ _ _ _ _ _ ⟨Cond.after_iff.mpr rfl, Cond.after_iff.mpr (eq_i res_at (Term.int_eval (1)) rfl)⟩ ⟨hq.1, hq.2.1, hq.2.2.sift fun y hy => Or.inr (N y hy)⟩⟩
theorem main_1_1 : Claimed_1_1 := comes_1 fun _ _ _ _ _ _ h hF => ⟨h.1, hF⟩
theorem main_1_2 : Claimed_1_2 := comes_1 fun _ _ _ _ _ _ h hF => ⟨h.2, hF⟩

end Jvm.Pilot.@@N@@
namespace Jvm.Pilot.@@N@@
open Jvm Jvm.ClassFile Sem Op Lib Jvm.Free Jvm.Stand Jvm.Pilot.@@N@@.Jvm.D
/-! MADE BY PROGRAM (witnessworld.py) out of the Statement's table words and the real class files: 12 classes; the members and pool entries that the words name. The judged class is class 1, her method 1. -/
namespace start1
open Jvm.ClassFile
def u (s : String) : CpInfo := .utf8 (stringToUtf16 s)
/-- a pool by its gaps: so many unusable entries, then the entry; so many at the end -/
def gap : Nat → List CpInfo → List CpInfo
  | 0, r => r
  | n + 1, r => .unusable :: gap n r
def poolList (es : List (Nat × CpInfo)) (last : Nat) : List CpInfo := es.foldr (fun e r => gap e.1 (e.2 :: r)) (gap last [])
def pool (es : List (Nat × CpInfo)) (last : Nat) : Array CpInfo := ⟨poolList es last⟩
def fileOf (pool : Array CpInfo) (this : Nat) (attrs : Array Attribute := #[]) (ms : Array MethodInfo := #[]) (fl : Nat := 33) (sup : Nat := 0) (ifs : Array Nat := #[]) (fds : Array FieldInfo := #[]) : ClassFile where
  minorVersion := 0
  majorVersion := 65
  constantPool := pool
  accessFlags := fl
  thisClass := this
  superClass := sup
  interfaces := ifs
  fields := fds
  methods := ms
  attributes := attrs
def plain (name : String) (sup : Option ClassId) : Class where
  name := name
  kind := .ordinary
  loader := none
  accessFlags := 33
  super := sup
  interfaces := #[]
  cf := none
  fields := #[]
  methods := #[]
  instanceTypes := #[]
  staticTypes := #[]
  resolved := #[]
  callSites := []
  init := .initialized
  statics := none
  mirror := none

def pool0 : Array CpInfo := pool [(5, u "<init>"), (0, u "()V"), (1, .class_ 10), (1, u "java/lang/Object")] 113

def k0m0 : Method := { name := "<init>", desc := "()V", sig := { parameters := [], returnType := none }, accessFlags := 1, code := none }
/-- java/lang/Object -/
def k0 : Class := { plain "java/lang/Object" none with
  accessFlags := 33
  interfaces := #[]
  cf := some (fileOf pool0 8 #[] #[{ accessFlags := 1, nameIndex := 5, descriptorIndex := 6, attributes := #[] }] 33 0 #[] #[])
  fields := #[]
  methods := #[k0m0]
  instanceTypes := #[]
  staticTypes := #[]
  resolved := Array.replicate 124 none
  statics := none }

def pool1 : Array CpInfo := pool [(2, .class_ 4), (1, u "java/lang/Object"), (0, u "<init>"), (0, u "()V"), (0, .long 65535), (1, .long 1668546560), (1, .long 1668546817), (1, .long 1668612095), (1, .long 255), (1, .long 65280), (1, .methodref 20 21), (0, .class_ 22), (0, .nameAndType 23 24), (0, u "com/example/bytewright/bytewright/cbor/Envelope"), (0, u "contentFormatOf"), (0, u "(J)I"), (0, .integer 65025), (0, .methodref 20 27), (0, .nameAndType 28 29), (0, u "contentFormatTag"), (0, u "(I)J"), (0, .integer 2147483647), (0, .class_ 32), (0, u "com/example/bytewright/bytewright/cbor/EnvelopeContentFormatOfPinLaw"), (2, u "law"), (0, u "(JIII)Z")] 3

def k1m0 : Method := { name := "<init>", desc := "()V", sig := { parameters := [], returnType := none }, accessFlags := 2, code := none }
def k1c1 : Code := { maxStack := 6, maxLocals := 15, code := code, exceptionTable := #[], attributes := #[] }
def k1m1 : Method := { name := "law", desc := "(JIII)Z", sig := { parameters := [.long, .int, .int, .int], returnType := some .boolean }, accessFlags := 9, code := some k1c1 }
/-- com/example/bytewright/bytewright/cbor/EnvelopeContentFormatOfPinLaw -/
def k1 : Class := { plain "com/example/bytewright/bytewright/cbor/EnvelopeContentFormatOfPinLaw" (some 0) with
  accessFlags := 49
  interfaces := #[]
  cf := some (fileOf pool1 31 #[] #[{ accessFlags := 2, nameIndex := 5, descriptorIndex := 6, attributes := #[] }, { accessFlags := 9, nameIndex := 35, descriptorIndex := 36, attributes := #[] }] 49 2 #[] #[])
  fields := #[]
  methods := #[k1m0, k1m1]
  instanceTypes := #[]
  staticTypes := #[]
  resolved := Array.replicate 40 none
  statics := none }

def pool2 : Array CpInfo := pool [(1, .class_ 2), (0, u "java/lang/constant/Constable"), (0, .class_ 4), (0, u "java/lang/Object")] 6

/-- java/lang/constant/Constable -/
def k2 : Class := { plain "java/lang/constant/Constable" (some 0) with
  accessFlags := 1537
  interfaces := #[]
  cf := some (fileOf pool2 1 #[] #[] 1537 3 #[] #[])
  fields := #[]
  methods := #[]
  instanceTypes := #[]
  staticTypes := #[]
  resolved := Array.replicate 11 none
  statics := none }

def pool3 : Array CpInfo := pool [(1, .class_ 2), (0, u "java/lang/Comparable"), (0, .class_ 4), (0, u "java/lang/Object")] 7

/-- java/lang/Comparable -/
def k3 : Class := { plain "java/lang/Comparable" (some 0) with
  accessFlags := 1537
  interfaces := #[]
  cf := some (fileOf pool3 1 #[] #[] 1537 3 #[] #[])
  fields := #[]
  methods := #[]
  instanceTypes := #[]
  staticTypes := #[]
  resolved := Array.replicate 12 none
  statics := none }

def pool4 : Array CpInfo := pool [(1, .class_ 2), (0, u "java/io/Serializable"), (0, .class_ 4), (0, u "java/lang/Object")] 2

/-- java/io/Serializable -/
def k4 : Class := { plain "java/io/Serializable" (some 0) with
  accessFlags := 1537
  interfaces := #[]
  cf := some (fileOf pool4 1 #[] #[] 1537 3 #[] #[])
  fields := #[]
  methods := #[]
  instanceTypes := #[]
  staticTypes := #[]
  resolved := Array.replicate 7 none
  statics := none }

def pool5 : Array CpInfo := pool [(2, .class_ 4), (1, u "java/lang/Enum"), (0, u "name"), (0, u "Ljava/lang/String;"), (2, u "ordinal"), (0, u "I"), (1, .class_ 14), (1, u "java/lang/Object"), (4, u "hash"), (86, .class_ 108), (1, u "java/lang/Enum$EnumDesc"), (2, .class_ 112), (0, u "java/lang/constant/Constable"), (0, .class_ 114), (0, u "java/lang/Comparable"), (0, .class_ 116), (0, u "java/io/Serializable")] 87

/-- java/lang/Enum -/
def k5 : Class := { plain "java/lang/Enum" (some 0) with
  accessFlags := 1057
  interfaces := #[2, 3, 4]
  cf := some (fileOf pool5 2 #[.nestMembers #[106]] #[] 1057 12 #[111, 113, 115] #[{ accessFlags := 18, nameIndex := 5, descriptorIndex := 6, attributes := #[] }, { accessFlags := 18, nameIndex := 9, descriptorIndex := 10, attributes := #[] }, { accessFlags := 2, nameIndex := 19, descriptorIndex := 10, attributes := #[] }])
  fields := #[{ name := "name", type := (.object "java/lang/String"), accessFlags := 18, slot := 0, constantValue := 0 }, { name := "ordinal", type := .int, accessFlags := 18, slot := 1, constantValue := 0 }, { name := "hash", type := .int, accessFlags := 2, slot := 2, constantValue := 0 }]
  methods := #[]
  instanceTypes := #[(.object "java/lang/String"), .int, .int]
  staticTypes := #[]
  resolved := Array.replicate 204 none
  statics := none }

def pool6 : Array CpInfo := pool [(1, .class_ 2), (0, u "com/example/bytewright/bytewright/cbor/Envelope"), (2, u "WRAPPED"), (0, u "Lcom/example/bytewright/bytewright/cbor/Envelope;"), (2, u "LABELED_SEQUENCE"), (2, u "LABELED_NON_CBOR"), (2, u "$VALUES"), (0, u "[Lcom/example/bytewright/bytewright/cbor/Envelope;"), (6, .class_ 25), (1, u "java/lang/Enum"), (8, u "kind"), (0, u "Ljava/lang/String;"), (2, u "envelopeTag"), (0, u "J"), (2, u "labeled"), (0, u "Z"), (2, u "contents"), (0, u "Lcom/example/bytewright/bytewright/Format;"), (0, .integer 65025), (9, .long 1668546817), (1, .long 255), (1, .long 25460), (94, u "(I)J"), (2, u "contentFormatOf"), (0, u "(J)I"), (76, u "LEAST_TAG"), (1, u "MOST_TAG"), (0, u "CONTENT_FORMATS"), (0, u "I"), (0, u "LABEL"), (0, u "FIRST_CONTENT_FORMAT_TAG"), (0, u "TAG_HEAD_AT"), (1, u "TAG_AT"), (1, u "TAG_OCTETS"), (7, u "contentFormatTag")] 39

def k6c0 : Code := { maxStack := 4, maxLocals := 1, code := prog_24_method_5_code, exceptionTable := #[], attributes := #[] }
def k6m0 : Method := { name := "contentFormatTag", desc := "(I)J", sig := { parameters := [.int], returnType := some .long }, accessFlags := 9, code := some k6c0 }
def k6c1 : Code := { maxStack := 4, maxLocals := 5, code := prog_24_method_6_code, exceptionTable := #[], attributes := #[] }
def k6m1 : Method := { name := "contentFormatOf", desc := "(J)I", sig := { parameters := [.long], returnType := some .int }, accessFlags := 9, code := some k6c1 }
/-- com/example/bytewright/bytewright/cbor/Envelope -/
def k6 : Class := { plain "com/example/bytewright/bytewright/cbor/Envelope" (some 5) with
  accessFlags := 16433
  interfaces := #[]
  cf := some (fileOf pool6 1 #[] #[{ accessFlags := 9, nameIndex := 257, descriptorIndex := 157, attributes := #[] }, { accessFlags := 9, nameIndex := 160, descriptorIndex := 161, attributes := #[] }] 16433 23 #[] #[{ accessFlags := 16409, nameIndex := 5, descriptorIndex := 6, attributes := #[] }, { accessFlags := 16409, nameIndex := 9, descriptorIndex := 6, attributes := #[] }, { accessFlags := 16409, nameIndex := 12, descriptorIndex := 6, attributes := #[] }, { accessFlags := 25, nameIndex := 238, descriptorIndex := 39, attributes := #[] }, { accessFlags := 25, nameIndex := 240, descriptorIndex := 39, attributes := #[] }, { accessFlags := 25, nameIndex := 241, descriptorIndex := 242, attributes := #[] }, { accessFlags := 26, nameIndex := 243, descriptorIndex := 35, attributes := #[] }, { accessFlags := 26, nameIndex := 244, descriptorIndex := 39, attributes := #[] }, { accessFlags := 26, nameIndex := 245, descriptorIndex := 242, attributes := #[] }, { accessFlags := 26, nameIndex := 247, descriptorIndex := 242, attributes := #[] }, { accessFlags := 26, nameIndex := 249, descriptorIndex := 242, attributes := #[] }, { accessFlags := 18, nameIndex := 34, descriptorIndex := 35, attributes := #[] }, { accessFlags := 18, nameIndex := 38, descriptorIndex := 39, attributes := #[] }, { accessFlags := 18, nameIndex := 42, descriptorIndex := 43, attributes := #[] }, { accessFlags := 18, nameIndex := 46, descriptorIndex := 47, attributes := #[] }, { accessFlags := 4122, nameIndex := 15, descriptorIndex := 16, attributes := #[] }])
  fields := #[{ name := "WRAPPED", type := (.object "com/example/bytewright/bytewright/cbor/Envelope"), accessFlags := 16409, slot := 0, constantValue := 0 }, { name := "LABELED_SEQUENCE", type := (.object "com/example/bytewright/bytewright/cbor/Envelope"), accessFlags := 16409, slot := 1, constantValue := 0 }, { name := "LABELED_NON_CBOR", type := (.object "com/example/bytewright/bytewright/cbor/Envelope"), accessFlags := 16409, slot := 2, constantValue := 0 }, { name := "LEAST_TAG", type := .long, accessFlags := 25, slot := 3, constantValue := 0 }, { name := "MOST_TAG", type := .long, accessFlags := 25, slot := 4, constantValue := 0 }, { name := "CONTENT_FORMATS", type := .int, accessFlags := 25, slot := 5, constantValue := 0 }, { name := "LABEL", type := (.object "java/lang/String"), accessFlags := 26, slot := 6, constantValue := 0 }, { name := "FIRST_CONTENT_FORMAT_TAG", type := .long, accessFlags := 26, slot := 7, constantValue := 0 }, { name := "TAG_HEAD_AT", type := .int, accessFlags := 26, slot := 8, constantValue := 0 }, { name := "TAG_AT", type := .int, accessFlags := 26, slot := 9, constantValue := 0 }, { name := "TAG_OCTETS", type := .int, accessFlags := 26, slot := 10, constantValue := 0 }, { name := "kind", type := (.object "java/lang/String"), accessFlags := 18, slot := 3, constantValue := 0 }, { name := "envelopeTag", type := .long, accessFlags := 18, slot := 4, constantValue := 0 }, { name := "labeled", type := .boolean, accessFlags := 18, slot := 5, constantValue := 0 }, { name := "contents", type := (.object "com/example/bytewright/bytewright/Format"), accessFlags := 18, slot := 6, constantValue := 0 }, { name := "$VALUES", type := (.array (.object "com/example/bytewright/bytewright/cbor/Envelope")), accessFlags := 4122, slot := 11, constantValue := 0 }]
  methods := #[k6m0, k6m1]
  instanceTypes := #[(.object "java/lang/String"), .int, .int, (.object "java/lang/String"), .long, .boolean, (.object "com/example/bytewright/bytewright/Format")]
  staticTypes := #[(.object "com/example/bytewright/bytewright/cbor/Envelope"), (.object "com/example/bytewright/bytewright/cbor/Envelope"), (.object "com/example/bytewright/bytewright/cbor/Envelope"), .long, .long, .int, (.object "java/lang/String"), .long, .int, .int, .int, (.array (.object "com/example/bytewright/bytewright/cbor/Envelope"))]
  resolved := Array.replicate 297 none
  statics := none }

def pool7 : Array CpInfo := pool [(1, u "java/lang/Cloneable"), (0, .class_ 1), (0, u "java/lang/Object"), (0, .class_ 3)] 3

/-- java/lang/Cloneable -/
def k7 : Class := { plain "java/lang/Cloneable" (some 0) with
  accessFlags := 1537
  interfaces := #[]
  cf := some (fileOf pool7 2 #[] #[] 1537 4 #[] #[])
  fields := #[]
  methods := #[]
  instanceTypes := #[]
  staticTypes := #[]
  resolved := Array.replicate 8 none
  statics := none }

/-- the primitive byte -/
def k8 : Class := { plain "byte" none with kind := .primitive 'B', accessFlags := 0x411 }
/-- [B -/
def k9 : Class := { plain "[B" (some 0) with kind := .array 8 .byte, interfaces := #[7, 4], accessFlags := 1041 }

/-- the primitive int -/
def k10 : Class := { plain "int" none with kind := .primitive 'I', accessFlags := 0x411 }
/-- [I -/
def k11 : Class := { plain "[I" (some 0) with kind := .array 10 .int, interfaces := #[7, 4], accessFlags := 1041 }

def heap : Heap := #[]
def classes : Array Class := #[k0, k1, k2, k3, k4, k5, k6, k7, k8, k9, k10, k11]
def interned : List (Array UInt16 × Addr) := []
def slotsUsed : Nat := 0
def theMethod : MethodId := ⟨1, 1⟩
def args0 : Array Value := #[.long 5, .int 7, .int 1, .int 2]
def aboutOver (below : List Frame) : State where
  vm := { classes := classes, interned := interned.toArray }
  heap := heap
  slotsUsed := slotsUsed
  threads := #[{ frames := .invoking theMethod args0 :: below }]
def below0 : List Frame := [.native { method := ⟨0, 0⟩, args := #[] }]
def about1 : State := aboutOver below0
def p0 : Program := .bare "" "" ""
def e0 : Env := launch0.env 0 0 0
theorem w_frames : about1.frames = Frame.invoking theMethod args0 :: below0 := rfl
set_option maxRecDepth 65536 in
theorem w_args : argsFit about1.vm theMethod args0 = true := by decide +kernel
set_option maxRecDepth 65536 in
theorem w_heap : heapFits about1 = true := by decide +kernel
set_option maxRecDepth 65536 in
theorem w_runnable : about1.curStatus? = some .runnable := by decide +kernel
set_option maxRecDepth 65536 in
theorem w_alone : about1.alone = true := by decide +kernel
set_option maxRecDepth 65536 in
theorem w_named : about1.methodNamed? x = some theMethod := by decide +kernel
set_option maxRecDepth 65536 in
theorem w_hears : about1.hears theMethod below0 = true := by decide +kernel
set_option maxRecDepth 65536 in
theorem w_ripe : about1.ripe theMethod args0 below0 = true := by decide +kernel
theorem w_running : about1.status = .running := rfl
set_option maxRecDepth 65536 in
theorem w_room : about1.hasRoom e0.platform room_1 = true :=
  launch0.hasRoom_least _ room_1 (by decide +kernel) (by decide +kernel) (by decide +kernel) (by decide +kernel) (by decide +kernel) (by decide +kernel)
theorem allAtoms_all (ts : List Jvm.Cond) (a : Array Jvm.Value) (st : Jvm.State) : (allAtoms ts).before a st = ts.all (fun c => c.before a st) := by
  induction ts with
  | nil => rfl
  | cons c t ih =>
    show (Jvm.Cond.and c (allAtoms t)).before a st = _
    rw [Jvm.Cond.before_and, ih, List.all_cons]
def words1 : List Jvm.Cond := Jvm.Cond.code x code maxLocals ret :: tables_1
/-- a 'code' word, met by the world's own term for the bytes: nothing is compared byte by byte -/
theorem code_word {y : MethodName} {bytes : ByteArray} {mx : Nat} {rt : Option FieldType} {a : Array Value} {s : State} {m : MethodId} {meth : Method} {c : Code} (h1 : s.methodNamed? y = some m) (h2 : s.vm.method? m = some meth) (h3 : meth.code = some c) (h4 : c.code = bytes)
    (h5 : (c.maxLocals == mx && c.exceptionTable.isEmpty && decide (c.maxStack ≤ mostOperands) && decide (meth.sig.returnType = rt) && !meth.locks && decide (parseMethodDescriptor y.desc = some meth.sig)) = true) : (Jvm.Cond.code y bytes mx rt).before a s = true := by
  simp only [Bool.and_eq_true, beq_iff_eq, Bool.not_eq_true', decide_eq_true_eq] at h5
  obtain ⟨⟨⟨⟨⟨g1, g2⟩, g3⟩, g4⟩, g5⟩, g6⟩ := h5
  simp [Cond.before, Cond.holds, Cond.value, h1, h2, h3, h4, g1, g2, g3, g4, g5, g6]
def isCode : Jvm.Cond → Bool
  | .code _ _ _ _ => true
  | _ => false
theorem all_split {L : List Jvm.Cond} {P : Jvm.Cond → Bool} (h1 : L.all (fun c => isCode c || P c) = true) (h2 : ∀ c ∈ L.filter isCode, P c = true) : L.all P = true := by
  refine List.all_eq_true.mpr fun c hc => ?_
  have h := List.all_eq_true.mp h1 c hc
  rcases Bool.eq_false_or_eq_true (isCode c) with hi | hi
  · exact h2 c (List.mem_filter.mpr ⟨hc, hi⟩)
  · simpa [hi] using h
set_option maxRecDepth 65536 in
theorem w_c0 : (Jvm.Cond.code x code maxLocals ret).before args0 about1 = true := code_word (m := ⟨1, 1⟩) (meth := k1m1) (c := k1c1) (by decide +kernel) rfl rfl rfl (by decide +kernel)
set_option maxRecDepth 65536 in
theorem w_c1 : (Jvm.Cond.code ({ cls := "com/example/bytewright/bytewright/cbor/Envelope", name := "contentFormatOf", desc := "(J)I" } : Jvm.MethodName) prog_24_method_6_code (5 : Nat) (Option.some Jvm.ClassFile.FieldType.int)).before args0 about1 = true := code_word (m := ⟨6, 1⟩) (meth := k6m1) (c := k6c1) (by decide +kernel) rfl rfl rfl (by decide +kernel)
set_option maxRecDepth 65536 in
theorem w_c2 : (Jvm.Cond.code ({ cls := "com/example/bytewright/bytewright/cbor/Envelope", name := "contentFormatTag", desc := "(I)J" } : Jvm.MethodName) prog_24_method_5_code (1 : Nat) (Option.some Jvm.ClassFile.FieldType.long)).before args0 about1 = true := code_word (m := ⟨6, 0⟩) (meth := k6m0) (c := k6c0) (by decide +kernel) rfl rfl rfl (by decide +kernel)
def codes1 : List Jvm.Cond := [Jvm.Cond.code x code maxLocals ret, Jvm.Cond.code ({ cls := "com/example/bytewright/bytewright/cbor/Envelope", name := "contentFormatOf", desc := "(J)I" } : Jvm.MethodName) prog_24_method_6_code (5 : Nat) (Option.some Jvm.ClassFile.FieldType.int), Jvm.Cond.code ({ cls := "com/example/bytewright/bytewright/cbor/Envelope", name := "contentFormatTag", desc := "(I)J" } : Jvm.MethodName) prog_24_method_5_code (1 : Nat) (Option.some Jvm.ClassFile.FieldType.long)]
set_option maxRecDepth 65536 in
theorem codes_eq : words1.filter isCode = codes1 := rfl
theorem w_codes : ∀ c ∈ words1.filter isCode, c.before args0 about1 = true := by
  rw [codes_eq]
  intro c hc
  simp only [codes1, List.mem_cons, List.not_mem_nil, or_false] at hc
  rcases hc with rfl | rfl | rfl
  · exact w_c0
  · exact w_c1
  · exact w_c2
set_option maxRecDepth 65536 in
theorem w_t1 : words1.all (fun c => isCode c || c.before args0 about1) = true := by decide +kernel
theorem w_tables : (allAtoms (Jvm.Cond.code x code maxLocals ret :: tables_1)).before args0 about1 = true := by
  rw [allAtoms_all]
  show words1.all (fun c => c.before args0 about1) = true
  refine all_split ?_ w_codes
  rw [w_t1]
set_option maxRecDepth 65536 in
theorem w_case : (Jvm.Cond.and given_1 narrow_1).before args0 about1 = true := by decide +kernel
theorem w_applies : (headSpec (Jvm.Cond.code x code maxLocals ret :: tables_1) room_1).applies x e0.platform about1 = true :=
  (Spec.applies_iff w_frames).mpr ⟨w_running, w_runnable, w_alone, w_named, w_hears, w_ripe, w_room, w_tables⟩
theorem atStart : AtStart classFile x code maxLocals ret World_1 tables_1 room_1 Calls_1 rest_1 Pre_1 launch0 p0 e0 about1 theMethod args0 below0 :=
  ⟨lists_1, trivial, launch0.admits_env _ _ _, launch0.least_env, fairChoices_fair.cas, fairChoices_fair.clock, w_frames, w_args, w_heap, w_applies, trivial, trivial, w_case⟩
end start1
theorem witness_1 : WitnessClaimed_1 := ⟨start1.p0, start1.e0, start1.about1, start1.theMethod, start1.args0, start1.below0, start1.atStart⟩
end Jvm.Pilot.@@N@@
