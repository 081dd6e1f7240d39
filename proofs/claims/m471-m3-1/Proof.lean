import JvmDerived
import JvmDerived.Pilot.@@N@@Statement
import JvmDerived.Pilot.@@N@@Code
set_option linter.unusedVariables false
set_option linter.unusedSimpArgs false
@@BLOCK:NumsL.lean.txt@@
namespace Jvm.Pilot.@@N@@
open Jvm Jvm.ClassFile Sem Op Lib Jvm.Free Jvm.Stand Jvm.LawKit Jvm.RoadKit Bundle Jvm.Pilot.@@N@@.Jvm.D
section Kit
variable {p : Program} {l : Launch} {e : Env} {R : Room} {s : State} {m : MethodId} {args : Array Value} {below : List Frame} {meth : Method} {c : Code} {T : State} {locs : List Loc} {cells slots : Nat} {Z : State} {a0 : Array Value} {h : Heap}
variable {Q : Option Value → Heap → List Loc → Prop} {C S : Nat} {pc pc' : Nat} {Ls Ls' : Array Slot} {rest : List Value}
/-- the goal of a walk: from the state σ the run comes to its end, which is as Q says -/
def Go (p : Program) (e : Env) (below : List Frame) (s : State) (Q : Option Value → Heap → List Loc → Prop) (C S : Nat) (σ : State) : Prop :=
  ∃ s₂ o, Steps p.tables e below σ s₂ ∧ s₂.status = .running ∧ Ended s₂ below o ∧ ∃ v L, o = .returned v ∧ Q v s₂.heap L ∧ FrameEnd s o s₂ L C S
theorem Go.step {σ τ : State} (st : ∀ t, Steps p.tables e below τ t → Steps p.tables e below σ t) (k : Go p e below s Q C S τ) : Go p e below s Q C S σ := by
  obtain ⟨s₂, o, h1, h2⟩ := k
  exact ⟨s₂, o, st _ h1, h2⟩
theorem Go.mono {Q' : Option Value → Heap → List Loc → Prop} {σ : State} (k : Go p e below s Q C S σ) (hq : ∀ v h L, Q v h L → Q' v h L) : Go p e below s Q' C S σ := by
  obtain ⟨s₂, o, h1, h2, h3, v, L, h4, h5, h6⟩ := k
  exact ⟨s₂, o, h1, h2, h3, v, L, h4, hq _ _ _ h5, h6⟩
/-- a join: the road behind it is walked once -/
theorem w_j1 {A0 : Type} {σ : State} (F : A0 → State) (P : A0 → Prop) (hJ : ∀ a0, P a0 → Go p e below s Q C S (F a0)) (hB : (∀ a0, P a0 → Go p e below s Q C S (F a0)) → Go p e below s Q C S σ) : Go p e below s Q C S σ := hB hJ
theorem w_j2 {A0 A1 : Type} {σ : State} (F : A0 → A1 → State) (P : A0 → A1 → Prop) (hJ : ∀ a0 a1, P a0 a1 → Go p e below s Q C S (F a0 a1)) (hB : (∀ a0 a1, P a0 a1 → Go p e below s Q C S (F a0 a1)) → Go p e below s Q C S σ) : Go p e below s Q C S σ := hB hJ
theorem w_j3 {A0 A1 A2 : Type} {σ : State} (F : A0 → A1 → A2 → State) (P : A0 → A1 → A2 → Prop) (hJ : ∀ a0 a1 a2, P a0 a1 a2 → Go p e below s Q C S (F a0 a1 a2)) (hB : (∀ a0 a1 a2, P a0 a1 a2 → Go p e below s Q C S (F a0 a1 a2)) → Go p e below s Q C S σ) : Go p e below s Q C S σ := hB hJ
theorem w_j4 {A0 A1 A2 A3 : Type} {σ : State} (F : A0 → A1 → A2 → A3 → State) (P : A0 → A1 → A2 → A3 → Prop) (hJ : ∀ a0 a1 a2 a3, P a0 a1 a2 a3 → Go p e below s Q C S (F a0 a1 a2 a3)) (hB : (∀ a0 a1 a2 a3, P a0 a1 a2 a3 → Go p e below s Q C S (F a0 a1 a2 a3)) → Go p e below s Q C S σ) : Go p e below s Q C S σ := hB hJ
theorem w_j5 {A0 A1 A2 A3 A4 : Type} {σ : State} (F : A0 → A1 → A2 → A3 → A4 → State) (P : A0 → A1 → A2 → A3 → A4 → Prop) (hJ : ∀ a0 a1 a2 a3 a4, P a0 a1 a2 a3 a4 → Go p e below s Q C S (F a0 a1 a2 a3 a4)) (hB : (∀ a0 a1 a2 a3 a4, P a0 a1 a2 a3 a4 → Go p e below s Q C S (F a0 a1 a2 a3 a4)) → Go p e below s Q C S σ) : Go p e below s Q C S σ := hB hJ
theorem w_j6 {A0 A1 A2 A3 A4 A5 : Type} {σ : State} (F : A0 → A1 → A2 → A3 → A4 → A5 → State) (P : A0 → A1 → A2 → A3 → A4 → A5 → Prop) (hJ : ∀ a0 a1 a2 a3 a4 a5, P a0 a1 a2 a3 a4 a5 → Go p e below s Q C S (F a0 a1 a2 a3 a4 a5)) (hB : (∀ a0 a1 a2 a3 a4 a5, P a0 a1 a2 a3 a4 a5 → Go p e below s Q C S (F a0 a1 a2 a3 a4 a5)) → Go p e below s Q C S σ) : Go p e below s Q C S σ := hB hJ
theorem w_j7 {A0 A1 A2 A3 A4 A5 A6 : Type} {σ : State} (F : A0 → A1 → A2 → A3 → A4 → A5 → A6 → State) (P : A0 → A1 → A2 → A3 → A4 → A5 → A6 → Prop) (hJ : ∀ a0 a1 a2 a3 a4 a5 a6, P a0 a1 a2 a3 a4 a5 a6 → Go p e below s Q C S (F a0 a1 a2 a3 a4 a5 a6)) (hB : (∀ a0 a1 a2 a3 a4 a5 a6, P a0 a1 a2 a3 a4 a5 a6 → Go p e below s Q C S (F a0 a1 a2 a3 a4 a5 a6)) → Go p e below s Q C S σ) : Go p e below s Q C S σ := hB hJ
theorem w_eqI {x z : Int32} (hz : x = z) (k : Go p e below s Q C S (T.setTop (mkF m pc Ls (.int z :: rest)))) : Go p e below s Q C S (T.setTop (mkF m pc Ls (.int x :: rest))) := hz ▸ k
theorem w_eqJ {x z : Int64} (hz : x = z) (k : Go p e below s Q C S (T.setTop (mkF m pc Ls (.long z :: rest)))) : Go p e below s Q C S (T.setTop (mkF m pc Ls (.long x :: rest))) := hz ▸ k
def Dc (code : ByteArray) (pc : Nat) (i : Instr) (n pc' : Nat) : Prop := decode code pc = .ok (i, n) ∧ pc + n = pc'
def Dj (code : ByteArray) (pc : Nat) (i : Instr) (o : Int) (pcT pcF : Nat) : Prop := decode code pc = .ok (i, 3) ∧ 0 ≤ (pc : Int) + o ∧ ((pc : Int) + o).toNat = pcT ∧ pc + 3 = pcF
theorem dq {code : ByteArray} {i : Instr} {n : Nat} (hq : c.code = code) (d : Dc code pc i n pc') : Dc c.code pc i n pc' := hq ▸ d
theorem dj {code : ByteArray} {i : Instr} {o : Int} {pcT pcF : Nat} (hq : c.code = code) (d : Dj code pc i o pcT pcF) : Dj c.code pc i o pcT pcF := hq ▸ d
abbrev St (p : Program) (l : Launch) (e : Env) (R : Room) (s : State) (m : MethodId) (args : Array Value) (below : List Frame) (meth : Method) (c : Code) (T : State) (locs : List Loc) (cells slots : Nat) : Prop := Stand p l e R s m args below meth c T locs cells slots
/-! loads, stores, constants -/
theorem w_iload (X : Stand p l e R s m args below meth c T locs cells slots) (hx : p.tables.exec = Jvm.exec) {n : Nat} {z : Int32} (hd : Dc c.code pc (.iload n) 2 pc') (hl : Ls[n]? = some (.val (.int z))) (k : Go p e below s Q C S (T.setTop (mkF m pc' Ls (.int z :: rest)))) : Go p e below s Q C S (T.setTop (mkF m pc Ls (rest))) := by
  obtain ⟨hd, rfl⟩ := hd; exact k.step fun _ t => XS.iload X.here hx rfl hd hl t
theorem w_iloadN (X : Stand p l e R s m args below meth c T locs cells slots) (hx : p.tables.exec = Jvm.exec) {n : Fin 4} {z : Int32} (hd : Dc c.code pc (.iload_n n) 1 pc') (hl : Ls[n.val]? = some (.val (.int z))) (k : Go p e below s Q C S (T.setTop (mkF m pc' Ls (.int z :: rest)))) : Go p e below s Q C S (T.setTop (mkF m pc Ls (rest))) := by
  obtain ⟨hd, rfl⟩ := hd; exact k.step fun _ t => XS.iloadN X.here hx rfl hd hl t
theorem w_istore (X : Stand p l e R s m args below meth c T locs cells slots) (hx : p.tables.exec = Jvm.exec) {n : Nat} {x z : Int32} (hd : Dc c.code pc (.istore n) 2 pc') (hz : z = x) (hs : storeLocals Ls n (.int z) = some Ls') (k : Go p e below s Q C S (T.setTop (mkF m pc' Ls' (rest)))) : Go p e below s Q C S (T.setTop (mkF m pc Ls (.int x :: rest))) := by
  obtain ⟨hd, rfl⟩ := hd; subst hz; exact k.step fun _ t => XS.istore X.here hx rfl hd rfl hs t
theorem w_istoreN (X : Stand p l e R s m args below meth c T locs cells slots) (hx : p.tables.exec = Jvm.exec) {n : Fin 4} {x z : Int32} (hd : Dc c.code pc (.istore_n n) 1 pc') (hz : z = x) (hs : storeLocals Ls n.val (.int z) = some Ls') (k : Go p e below s Q C S (T.setTop (mkF m pc' Ls' (rest)))) : Go p e below s Q C S (T.setTop (mkF m pc Ls (.int x :: rest))) := by
  obtain ⟨hd, rfl⟩ := hd; subst hz; exact k.step fun _ t => XS.istoreN X.here hx rfl hd rfl hs t
theorem w_lload (X : Stand p l e R s m args below meth c T locs cells slots) (hx : p.tables.exec = Jvm.exec) {n : Nat} {z : Int64} (hd : Dc c.code pc (.lload n) 2 pc') (hl : Ls[n]? = some (.val (.long z))) (k : Go p e below s Q C S (T.setTop (mkF m pc' Ls (.long z :: rest)))) : Go p e below s Q C S (T.setTop (mkF m pc Ls (rest))) := by
  obtain ⟨hd, rfl⟩ := hd; exact k.step fun _ t => XS.lload X.here hx rfl hd hl t
theorem w_lloadN (X : Stand p l e R s m args below meth c T locs cells slots) (hx : p.tables.exec = Jvm.exec) {n : Fin 4} {z : Int64} (hd : Dc c.code pc (.lload_n n) 1 pc') (hl : Ls[n.val]? = some (.val (.long z))) (k : Go p e below s Q C S (T.setTop (mkF m pc' Ls (.long z :: rest)))) : Go p e below s Q C S (T.setTop (mkF m pc Ls (rest))) := by
  obtain ⟨hd, rfl⟩ := hd; exact k.step fun _ t => XS.lloadN X.here hx rfl hd hl t
theorem w_lstore (X : Stand p l e R s m args below meth c T locs cells slots) (hx : p.tables.exec = Jvm.exec) {n : Nat} {x z : Int64} (hd : Dc c.code pc (.lstore n) 2 pc') (hz : z = x) (hs : storeLocals Ls n (.long z) = some Ls') (k : Go p e below s Q C S (T.setTop (mkF m pc' Ls' (rest)))) : Go p e below s Q C S (T.setTop (mkF m pc Ls (.long x :: rest))) := by
  obtain ⟨hd, rfl⟩ := hd; subst hz; exact k.step fun _ t => XS.lstore X.here hx rfl hd rfl hs t
theorem w_lstoreN (X : Stand p l e R s m args below meth c T locs cells slots) (hx : p.tables.exec = Jvm.exec) {n : Fin 4} {x z : Int64} (hd : Dc c.code pc (.lstore_n n) 1 pc') (hz : z = x) (hs : storeLocals Ls n.val (.long z) = some Ls') (k : Go p e below s Q C S (T.setTop (mkF m pc' Ls' (rest)))) : Go p e below s Q C S (T.setTop (mkF m pc Ls (.long x :: rest))) := by
  obtain ⟨hd, rfl⟩ := hd; subst hz; exact k.step fun _ t => XS.lstoreN X.here hx rfl hd rfl hs t
theorem w_aload (X : Stand p l e R s m args below meth c T locs cells slots) (hx : p.tables.exec = Jvm.exec) {n : Nat} {v : Value} (hd : Dc c.code pc (.aload n) 2 pc') (hl : Ls[n]? = some (.val v)) (hv : v.isRef = true) (k : Go p e below s Q C S (T.setTop (mkF m pc' Ls (v :: rest)))) : Go p e below s Q C S (T.setTop (mkF m pc Ls (rest))) := by
  obtain ⟨hd, rfl⟩ := hd; exact k.step fun _ t => XS.aload X.here hx rfl hd hl hv t
theorem w_aloadN (X : Stand p l e R s m args below meth c T locs cells slots) (hx : p.tables.exec = Jvm.exec) {n : Fin 4} {v : Value} (hd : Dc c.code pc (.aload_n n) 1 pc') (hl : Ls[n.val]? = some (.val v)) (hv : v.isRef = true) (k : Go p e below s Q C S (T.setTop (mkF m pc' Ls (v :: rest)))) : Go p e below s Q C S (T.setTop (mkF m pc Ls (rest))) := by
  obtain ⟨hd, rfl⟩ := hd; exact k.step fun _ t => XS.aloadN X.here hx rfl hd hl hv t
theorem w_astore (X : Stand p l e R s m args below meth c T locs cells slots) (hx : p.tables.exec = Jvm.exec) {n : Nat} {v : Value} (hd : Dc c.code pc (.astore n) 2 pc') (hv : v.isRef = true) (hs : storeLocals Ls n v = some Ls') (k : Go p e below s Q C S (T.setTop (mkF m pc' Ls' (rest)))) : Go p e below s Q C S (T.setTop (mkF m pc Ls (v :: rest))) := by
  obtain ⟨hd, rfl⟩ := hd; exact k.step fun _ t => XS.astore X.here hx rfl hd rfl hv hs t
theorem w_astoreN (X : Stand p l e R s m args below meth c T locs cells slots) (hx : p.tables.exec = Jvm.exec) {n : Fin 4} {v : Value} (hd : Dc c.code pc (.astore_n n) 1 pc') (hv : v.isRef = true) (hs : storeLocals Ls n.val v = some Ls') (k : Go p e below s Q C S (T.setTop (mkF m pc' Ls' (rest)))) : Go p e below s Q C S (T.setTop (mkF m pc Ls (v :: rest))) := by
  obtain ⟨hd, rfl⟩ := hd; exact k.step fun _ t => XS.astoreN X.here hx rfl hd rfl hv hs t
theorem w_iconst (X : Stand p l e R s m args below meth c T locs cells slots) (hx : p.tables.exec = Jvm.exec) {i : Int} {z : Int32} (hd : Dc c.code pc (.iconst i) 1 pc') (hz : Int32.ofInt i = z) (k : Go p e below s Q C S (T.setTop (mkF m pc' Ls (.int z :: rest)))) : Go p e below s Q C S (T.setTop (mkF m pc Ls rest)) := by
  obtain ⟨hd, rfl⟩ := hd; subst hz; exact k.step fun _ t => XS.iconst X.here hx rfl hd t
theorem w_bipush (X : Stand p l e R s m args below meth c T locs cells slots) (hx : p.tables.exec = Jvm.exec) {i : Int} {z : Int32} (hd : Dc c.code pc (.bipush i) 2 pc') (hz : (Int8.ofInt i).toInt32 = z) (k : Go p e below s Q C S (T.setTop (mkF m pc' Ls (.int z :: rest)))) : Go p e below s Q C S (T.setTop (mkF m pc Ls rest)) := by
  obtain ⟨hd, rfl⟩ := hd; subst hz; exact k.step fun _ t => XS.bipush X.here hx rfl hd t
theorem w_sipush (X : Stand p l e R s m args below meth c T locs cells slots) (hx : p.tables.exec = Jvm.exec) {i : Int} {z : Int32} (hd : Dc c.code pc (.sipush i) 3 pc') (hz : (Int16.ofInt i).toInt32 = z) (k : Go p e below s Q C S (T.setTop (mkF m pc' Ls (.int z :: rest)))) : Go p e below s Q C S (T.setTop (mkF m pc Ls rest)) := by
  obtain ⟨hd, rfl⟩ := hd; subst hz; exact k.step fun _ t => XS.sipush X.here hx rfl hd t
theorem w_lconst (X : Stand p l e R s m args below meth c T locs cells slots) (hx : p.tables.exec = Jvm.exec) {i : Fin 2} {z : Int64} (hd : Dc c.code pc (.lconst i) 1 pc') (hz : Int64.ofNat i = z) (k : Go p e below s Q C S (T.setTop (mkF m pc' Ls (.long z :: rest)))) : Go p e below s Q C S (T.setTop (mkF m pc Ls rest)) := by
  obtain ⟨hd, rfl⟩ := hd; subst hz; exact k.step fun _ t => XS.lconst X.here hx rfl hd t
theorem w_null (X : Stand p l e R s m args below meth c T locs cells slots) (hx : p.tables.exec = Jvm.exec) (hd : Dc c.code pc .aconst_null 1 pc') (k : Go p e below s Q C S (T.setTop (mkF m pc' Ls (.null :: rest)))) : Go p e below s Q C S (T.setTop (mkF m pc Ls rest)) := by
  obtain ⟨hd, rfl⟩ := hd; exact k.step fun _ t => XS.aconstNull X.here hx rfl hd t
theorem w_ldc (X : Stand p l e R s m args below meth c T locs cells slots) (hx : p.tables.exec = Jvm.exec) (hZ : Z.Warmed39 s.vm) {own : String} {index : Nat} {z : Int32} (hown : s.vm.findClass own = some m.cls) (w : (Jvm.Cond.constant own index z).before a0 Z = true) (hd : Dc c.code pc (.ldc index) 2 pc') (k : Go p e below s Q C S (T.setTop (mkF m pc' Ls (.int z :: rest)))) : Go p e below s Q C S (T.setTop (mkF m pc Ls rest)) := by
  obtain ⟨hd, rfl⟩ := hd; exact k.step fun t q => X.ldcInt hx hown (mvT hZ w) (g := mkF m pc Ls rest) rfl hd t q
theorem w_ldcw (X : Stand p l e R s m args below meth c T locs cells slots) (hx : p.tables.exec = Jvm.exec) (hZ : Z.Warmed39 s.vm) {own : String} {index : Nat} {z : Int32} (hown : s.vm.findClass own = some m.cls) (w : (Jvm.Cond.constant own index z).before a0 Z = true) (hd : Dc c.code pc (.ldc_w index) 3 pc') (k : Go p e below s Q C S (T.setTop (mkF m pc' Ls (.int z :: rest)))) : Go p e below s Q C S (T.setTop (mkF m pc Ls rest)) := by
  obtain ⟨hd, rfl⟩ := hd; exact k.step fun t q => X.ldcwInt hx hown (mvT hZ w) (g := mkF m pc Ls rest) rfl hd t q
theorem w_ldc2 (X : Stand p l e R s m args below meth c T locs cells slots) (hx : p.tables.exec = Jvm.exec) (hZ : Z.Warmed39 s.vm) {own : String} {index : Nat} {z : Int64} (hown : s.vm.findClass own = some m.cls) (w : (Jvm.Cond.constantLong own index z).before a0 Z = true) (hd : Dc c.code pc (.ldc2_w index) 3 pc') (k : Go p e below s Q C S (T.setTop (mkF m pc' Ls (.long z :: rest)))) : Go p e below s Q C S (T.setTop (mkF m pc Ls rest)) := by
  obtain ⟨hd, rfl⟩ := hd; exact k.step fun t q => X.ldc2Long hx hown (mvT hZ w) (g := mkF m pc Ls rest) rfl hd t q
theorem w_iinc (X : Stand p l e R s m args below meth c T locs cells slots) (hx : p.tables.exec = Jvm.exec) {n : Nat} {i : Int} {x z : Int32} (hd : Dc c.code pc (.iinc n i) 3 pc') (hl : Ls[n]? = some (.val (.int x))) (hz : x + Int32.ofInt i = z) (hs : storeLocals Ls n (.int z) = some Ls') (k : Go p e below s Q C S (T.setTop (mkF m pc' Ls' rest))) : Go p e below s Q C S (T.setTop (mkF m pc Ls rest)) := by
  obtain ⟨hd, rfl⟩ := hd; subst hz; exact k.step fun _ t => XS.iinc X.here hx rfl hd hl hs t
/-! arithmetic -/
def IShl (x y : Int32) : Int32 := x <<< (y &&& 31)
def IShr (x y : Int32) : Int32 := x >>> (y &&& 31)
def IUshr (x y : Int32) : Int32 := (x.toUInt32 >>> (y &&& 31).toUInt32).toInt32
def LShl (x : Int64) (y : Int32) : Int64 := x <<< (y &&& 0x3f).toInt64
def LShr (x : Int64) (y : Int32) : Int64 := x >>> (y &&& 0x3f).toInt64
def LUshr (x : Int64) (y : Int32) : Int64 := (x.toUInt64 >>> (y &&& 0x3f).toInt64.toUInt64).toInt64
theorem w_iadd (X : Stand p l e R s m args below meth c T locs cells slots) (hx : p.tables.exec = Jvm.exec) {x y : Int32} (hd : Dc c.code pc .iadd 1 pc') (k : Go p e below s Q C S (T.setTop (mkF m pc' Ls (.int (x + y) :: rest)))) : Go p e below s Q C S (T.setTop (mkF m pc Ls (.int y :: .int x :: rest))) := by
  obtain ⟨hd, rfl⟩ := hd; exact k.step fun _ t => XS.iadd X.here hx rfl hd rfl t
theorem w_isub (X : Stand p l e R s m args below meth c T locs cells slots) (hx : p.tables.exec = Jvm.exec) {x y : Int32} (hd : Dc c.code pc .isub 1 pc') (k : Go p e below s Q C S (T.setTop (mkF m pc' Ls (.int (x - y) :: rest)))) : Go p e below s Q C S (T.setTop (mkF m pc Ls (.int y :: .int x :: rest))) := by
  obtain ⟨hd, rfl⟩ := hd; exact k.step fun _ t => XS.isub X.here hx rfl hd rfl t
theorem w_imul (X : Stand p l e R s m args below meth c T locs cells slots) (hx : p.tables.exec = Jvm.exec) {x y : Int32} (hd : Dc c.code pc .imul 1 pc') (k : Go p e below s Q C S (T.setTop (mkF m pc' Ls (.int (x * y) :: rest)))) : Go p e below s Q C S (T.setTop (mkF m pc Ls (.int y :: .int x :: rest))) := by
  obtain ⟨hd, rfl⟩ := hd; exact k.step fun _ t => XS.imul X.here hx rfl hd rfl t
theorem w_iand (X : Stand p l e R s m args below meth c T locs cells slots) (hx : p.tables.exec = Jvm.exec) {x y : Int32} (hd : Dc c.code pc .iand 1 pc') (k : Go p e below s Q C S (T.setTop (mkF m pc' Ls (.int (x &&& y) :: rest)))) : Go p e below s Q C S (T.setTop (mkF m pc Ls (.int y :: .int x :: rest))) := by
  obtain ⟨hd, rfl⟩ := hd; exact k.step fun _ t => XS.iand X.here hx rfl hd rfl t
theorem w_ior (X : Stand p l e R s m args below meth c T locs cells slots) (hx : p.tables.exec = Jvm.exec) {x y : Int32} (hd : Dc c.code pc .ior 1 pc') (k : Go p e below s Q C S (T.setTop (mkF m pc' Ls (.int (x ||| y) :: rest)))) : Go p e below s Q C S (T.setTop (mkF m pc Ls (.int y :: .int x :: rest))) := by
  obtain ⟨hd, rfl⟩ := hd; exact k.step fun _ t => XS.ior X.here hx rfl hd rfl t
theorem w_ixor (X : Stand p l e R s m args below meth c T locs cells slots) (hx : p.tables.exec = Jvm.exec) {x y : Int32} (hd : Dc c.code pc .ixor 1 pc') (k : Go p e below s Q C S (T.setTop (mkF m pc' Ls (.int (x ^^^ y) :: rest)))) : Go p e below s Q C S (T.setTop (mkF m pc Ls (.int y :: .int x :: rest))) := by
  obtain ⟨hd, rfl⟩ := hd; exact k.step fun _ t => XS.ixor X.here hx rfl hd rfl t
theorem w_ishl (X : Stand p l e R s m args below meth c T locs cells slots) (hx : p.tables.exec = Jvm.exec) {x : Int32} {y : Int32} (hd : Dc c.code pc .ishl 1 pc') (k : Go p e below s Q C S (T.setTop (mkF m pc' Ls (.int (IShl x y) :: rest)))) : Go p e below s Q C S (T.setTop (mkF m pc Ls (.int y :: .int x :: rest))) := by
  obtain ⟨hd, rfl⟩ := hd; exact k.step fun _ t => XS.ishl X.here hx rfl hd rfl t
theorem w_ishr (X : Stand p l e R s m args below meth c T locs cells slots) (hx : p.tables.exec = Jvm.exec) {x : Int32} {y : Int32} (hd : Dc c.code pc .ishr 1 pc') (k : Go p e below s Q C S (T.setTop (mkF m pc' Ls (.int (IShr x y) :: rest)))) : Go p e below s Q C S (T.setTop (mkF m pc Ls (.int y :: .int x :: rest))) := by
  obtain ⟨hd, rfl⟩ := hd; exact k.step fun _ t => XS.ishr X.here hx rfl hd rfl t
theorem w_iushr (X : Stand p l e R s m args below meth c T locs cells slots) (hx : p.tables.exec = Jvm.exec) {x : Int32} {y : Int32} (hd : Dc c.code pc .iushr 1 pc') (k : Go p e below s Q C S (T.setTop (mkF m pc' Ls (.int (IUshr x y) :: rest)))) : Go p e below s Q C S (T.setTop (mkF m pc Ls (.int y :: .int x :: rest))) := by
  obtain ⟨hd, rfl⟩ := hd; exact k.step fun _ t => XS.iushr X.here hx rfl hd rfl t
theorem w_ladd (X : Stand p l e R s m args below meth c T locs cells slots) (hx : p.tables.exec = Jvm.exec) {x y : Int64} (hd : Dc c.code pc .ladd 1 pc') (k : Go p e below s Q C S (T.setTop (mkF m pc' Ls (.long (x + y) :: rest)))) : Go p e below s Q C S (T.setTop (mkF m pc Ls (.long y :: .long x :: rest))) := by
  obtain ⟨hd, rfl⟩ := hd; exact k.step fun _ t => XS.ladd X.here hx rfl hd rfl t
theorem w_lsub (X : Stand p l e R s m args below meth c T locs cells slots) (hx : p.tables.exec = Jvm.exec) {x y : Int64} (hd : Dc c.code pc .lsub 1 pc') (k : Go p e below s Q C S (T.setTop (mkF m pc' Ls (.long (x - y) :: rest)))) : Go p e below s Q C S (T.setTop (mkF m pc Ls (.long y :: .long x :: rest))) := by
  obtain ⟨hd, rfl⟩ := hd; exact k.step fun _ t => XS.lsub X.here hx rfl hd rfl t
theorem w_lmul (X : Stand p l e R s m args below meth c T locs cells slots) (hx : p.tables.exec = Jvm.exec) {x y : Int64} (hd : Dc c.code pc .lmul 1 pc') (k : Go p e below s Q C S (T.setTop (mkF m pc' Ls (.long (x * y) :: rest)))) : Go p e below s Q C S (T.setTop (mkF m pc Ls (.long y :: .long x :: rest))) := by
  obtain ⟨hd, rfl⟩ := hd; exact k.step fun _ t => XS.lmul X.here hx rfl hd rfl t
theorem w_land (X : Stand p l e R s m args below meth c T locs cells slots) (hx : p.tables.exec = Jvm.exec) {x y : Int64} (hd : Dc c.code pc .land 1 pc') (k : Go p e below s Q C S (T.setTop (mkF m pc' Ls (.long (x &&& y) :: rest)))) : Go p e below s Q C S (T.setTop (mkF m pc Ls (.long y :: .long x :: rest))) := by
  obtain ⟨hd, rfl⟩ := hd; exact k.step fun _ t => XS.land X.here hx rfl hd rfl t
theorem w_lor (X : Stand p l e R s m args below meth c T locs cells slots) (hx : p.tables.exec = Jvm.exec) {x y : Int64} (hd : Dc c.code pc .lor 1 pc') (k : Go p e below s Q C S (T.setTop (mkF m pc' Ls (.long (x ||| y) :: rest)))) : Go p e below s Q C S (T.setTop (mkF m pc Ls (.long y :: .long x :: rest))) := by
  obtain ⟨hd, rfl⟩ := hd; exact k.step fun _ t => XS.lor X.here hx rfl hd rfl t
theorem w_lxor (X : Stand p l e R s m args below meth c T locs cells slots) (hx : p.tables.exec = Jvm.exec) {x y : Int64} (hd : Dc c.code pc .lxor 1 pc') (k : Go p e below s Q C S (T.setTop (mkF m pc' Ls (.long (x ^^^ y) :: rest)))) : Go p e below s Q C S (T.setTop (mkF m pc Ls (.long y :: .long x :: rest))) := by
  obtain ⟨hd, rfl⟩ := hd; exact k.step fun _ t => XS.lxor X.here hx rfl hd rfl t
theorem w_lshl (X : Stand p l e R s m args below meth c T locs cells slots) (hx : p.tables.exec = Jvm.exec) {x : Int64} {y : Int32} (hd : Dc c.code pc .lshl 1 pc') (k : Go p e below s Q C S (T.setTop (mkF m pc' Ls (.long (LShl x y) :: rest)))) : Go p e below s Q C S (T.setTop (mkF m pc Ls (.int y :: .long x :: rest))) := by
  obtain ⟨hd, rfl⟩ := hd; exact k.step fun _ t => XS.lshl X.here hx rfl hd rfl t
theorem w_lshr (X : Stand p l e R s m args below meth c T locs cells slots) (hx : p.tables.exec = Jvm.exec) {x : Int64} {y : Int32} (hd : Dc c.code pc .lshr 1 pc') (k : Go p e below s Q C S (T.setTop (mkF m pc' Ls (.long (LShr x y) :: rest)))) : Go p e below s Q C S (T.setTop (mkF m pc Ls (.int y :: .long x :: rest))) := by
  obtain ⟨hd, rfl⟩ := hd; exact k.step fun _ t => XS.lshr X.here hx rfl hd rfl t
theorem w_lushr (X : Stand p l e R s m args below meth c T locs cells slots) (hx : p.tables.exec = Jvm.exec) {x : Int64} {y : Int32} (hd : Dc c.code pc .lushr 1 pc') (k : Go p e below s Q C S (T.setTop (mkF m pc' Ls (.long (LUshr x y) :: rest)))) : Go p e below s Q C S (T.setTop (mkF m pc Ls (.int y :: .long x :: rest))) := by
  obtain ⟨hd, rfl⟩ := hd; exact k.step fun _ t => XS.lushr X.here hx rfl hd rfl t
theorem w_ineg (X : Stand p l e R s m args below meth c T locs cells slots) (hx : p.tables.exec = Jvm.exec) {x : Int32} (hd : Dc c.code pc .ineg 1 pc') (k : Go p e below s Q C S (T.setTop (mkF m pc' Ls (.int (-x) :: rest)))) : Go p e below s Q C S (T.setTop (mkF m pc Ls (.int x :: rest))) := by
  obtain ⟨hd, rfl⟩ := hd; exact k.step fun _ t => XS.ineg X.here hx rfl hd rfl t
theorem w_lneg (X : Stand p l e R s m args below meth c T locs cells slots) (hx : p.tables.exec = Jvm.exec) {x : Int64} (hd : Dc c.code pc .lneg 1 pc') (k : Go p e below s Q C S (T.setTop (mkF m pc' Ls (.long (-x) :: rest)))) : Go p e below s Q C S (T.setTop (mkF m pc Ls (.long x :: rest))) := by
  obtain ⟨hd, rfl⟩ := hd; exact k.step fun _ t => XS.lneg X.here hx rfl hd rfl t
theorem w_i2l (X : Stand p l e R s m args below meth c T locs cells slots) (hx : p.tables.exec = Jvm.exec) {x : Int32} (hd : Dc c.code pc .i2l 1 pc') (k : Go p e below s Q C S (T.setTop (mkF m pc' Ls (.long (x.toInt64) :: rest)))) : Go p e below s Q C S (T.setTop (mkF m pc Ls (.int x :: rest))) := by
  obtain ⟨hd, rfl⟩ := hd; exact k.step fun _ t => XS.i2l X.here hx rfl hd rfl t
theorem w_l2i (X : Stand p l e R s m args below meth c T locs cells slots) (hx : p.tables.exec = Jvm.exec) {x : Int64} (hd : Dc c.code pc .l2i 1 pc') (k : Go p e below s Q C S (T.setTop (mkF m pc' Ls (.int (x.toInt32) :: rest)))) : Go p e below s Q C S (T.setTop (mkF m pc Ls (.long x :: rest))) := by
  obtain ⟨hd, rfl⟩ := hd; exact k.step fun _ t => XS.l2i X.here hx rfl hd rfl t
theorem w_i2b (X : Stand p l e R s m args below meth c T locs cells slots) (hx : p.tables.exec = Jvm.exec) {x : Int32} (hd : Dc c.code pc .i2b 1 pc') (k : Go p e below s Q C S (T.setTop (mkF m pc' Ls (.int (x.toInt8.toInt32) :: rest)))) : Go p e below s Q C S (T.setTop (mkF m pc Ls (.int x :: rest))) := by
  obtain ⟨hd, rfl⟩ := hd; exact k.step fun _ t => XS.i2b X.here hx rfl hd rfl t
theorem w_i2c (X : Stand p l e R s m args below meth c T locs cells slots) (hx : p.tables.exec = Jvm.exec) {x : Int32} (hd : Dc c.code pc .i2c 1 pc') (k : Go p e below s Q C S (T.setTop (mkF m pc' Ls (.int (x.toUInt32.toUInt16.toUInt32.toInt32) :: rest)))) : Go p e below s Q C S (T.setTop (mkF m pc Ls (.int x :: rest))) := by
  obtain ⟨hd, rfl⟩ := hd; exact k.step fun _ t => XS.i2c X.here hx rfl hd rfl t
theorem w_i2s (X : Stand p l e R s m args below meth c T locs cells slots) (hx : p.tables.exec = Jvm.exec) {x : Int32} (hd : Dc c.code pc .i2s 1 pc') (k : Go p e below s Q C S (T.setTop (mkF m pc' Ls (.int (x.toInt16.toInt32) :: rest)))) : Go p e below s Q C S (T.setTop (mkF m pc Ls (.int x :: rest))) := by
  obtain ⟨hd, rfl⟩ := hd; exact k.step fun _ t => XS.i2s X.here hx rfl hd rfl t
theorem w_idiv (X : Stand p l e R s m args below meth c T locs cells slots) (hx : p.tables.exec = Jvm.exec) {x y : Int32} (hd : Dc c.code pc .idiv 1 pc') (hy : y ≠ 0) (k : Go p e below s Q C S (T.setTop (mkF m pc' Ls (.int (x / y) :: rest)))) : Go p e below s Q C S (T.setTop (mkF m pc Ls (.int y :: .int x :: rest))) := by
  obtain ⟨hd, rfl⟩ := hd; exact k.step fun _ t => XS.idiv X.here hx rfl hd rfl hy t
theorem w_irem (X : Stand p l e R s m args below meth c T locs cells slots) (hx : p.tables.exec = Jvm.exec) {x y : Int32} (hd : Dc c.code pc .irem 1 pc') (hy : y ≠ 0) (k : Go p e below s Q C S (T.setTop (mkF m pc' Ls (.int (x % y) :: rest)))) : Go p e below s Q C S (T.setTop (mkF m pc Ls (.int y :: .int x :: rest))) := by
  obtain ⟨hd, rfl⟩ := hd; exact k.step fun _ t => iremM X hx rfl hd rfl hy t
theorem w_ldiv (X : Stand p l e R s m args below meth c T locs cells slots) (hx : p.tables.exec = Jvm.exec) {x y : Int64} (hd : Dc c.code pc .ldiv 1 pc') (hy : y ≠ 0) (k : Go p e below s Q C S (T.setTop (mkF m pc' Ls (.long (x / y) :: rest)))) : Go p e below s Q C S (T.setTop (mkF m pc Ls (.long y :: .long x :: rest))) := by
  obtain ⟨hd, rfl⟩ := hd; exact k.step fun _ t => XS.ldiv X.here hx rfl hd rfl hy t
theorem w_dup (X : Stand p l e R s m args below meth c T locs cells slots) (hx : p.tables.exec = Jvm.exec) {v : Value} (hd : Dc c.code pc .dup 1 pc') (hc : v.category = 1) (k : Go p e below s Q C S (T.setTop (mkF m pc' Ls (v :: v :: rest)))) : Go p e below s Q C S (T.setTop (mkF m pc Ls (v :: rest))) := by
  obtain ⟨hd, rfl⟩ := hd; exact k.step fun _ t => XS.dup X.here hx rfl hd rfl hc t
theorem w_dupx1 (X : Stand p l e R s m args below meth c T locs cells slots) (hx : p.tables.exec = Jvm.exec) {v w : Value} (hd : Dc c.code pc .dup_x1 1 pc') (hc : v.category = 1) (hc' : w.category = 1) (k : Go p e below s Q C S (T.setTop (mkF m pc' Ls (v :: w :: v :: rest)))) : Go p e below s Q C S (T.setTop (mkF m pc Ls (v :: w :: rest))) := by
  obtain ⟨hd, rfl⟩ := hd; exact k.step fun _ t => XS.dupX1 X.here hx rfl hd rfl hc hc' t
theorem w_dup2 (X : Stand p l e R s m args below meth c T locs cells slots) (hx : p.tables.exec = Jvm.exec) {v w : Value} (hd : Dc c.code pc .dup2 1 pc') (hc : v.category = 1) (hc' : w.category = 1) (k : Go p e below s Q C S (T.setTop (mkF m pc' Ls (v :: w :: v :: w :: rest)))) : Go p e below s Q C S (T.setTop (mkF m pc Ls (v :: w :: rest))) := by
  obtain ⟨hd, rfl⟩ := hd; exact k.step fun _ t => XT.dup2 X.here hx rfl hd rfl hc hc' t
theorem w_dup2L (X : Stand p l e R s m args below meth c T locs cells slots) (hx : p.tables.exec = Jvm.exec) {x : Int64} (hd : Dc c.code pc .dup2 1 pc') (k : Go p e below s Q C S (T.setTop (mkF m pc' Ls (.long x :: .long x :: rest)))) : Go p e below s Q C S (T.setTop (mkF m pc Ls (.long x :: rest))) := by
  obtain ⟨hd, rfl⟩ := hd; exact k.step fun _ t => XT.dup2L X.here hx rfl hd rfl t
theorem w_pop (X : Stand p l e R s m args below meth c T locs cells slots) (hx : p.tables.exec = Jvm.exec) {v : Value} (hd : Dc c.code pc .pop 1 pc') (hc : v.category = 1) (k : Go p e below s Q C S (T.setTop (mkF m pc' Ls rest))) : Go p e below s Q C S (T.setTop (mkF m pc Ls (v :: rest))) := by
  obtain ⟨hd, rfl⟩ := hd; exact k.step fun _ t => XS.pop X.here hx rfl hd rfl hc t
/-! branches -/
theorem w_goto (X : Stand p l e R s m args below meth c T locs cells slots) (hx : p.tables.exec = Jvm.exec) {o : Int} {pcT pcF : Nat} (hd : Dj c.code pc (.goto o) o pcT pcF) (k : Go p e below s Q C S (T.setTop (mkF m pcT Ls rest))) : Go p e below s Q C S (T.setTop (mkF m pc Ls rest)) := by
  obtain ⟨hd, ho, rfl, -⟩ := hd; exact k.step fun _ t => XS.goto X.here hx rfl rfl hd ho rfl t
theorem w_icmp_eq (X : Stand p l e R s m args below meth c T locs cells slots) (hx : p.tables.exec = Jvm.exec) {o : Int} {x y : Int32} {pcT pcF : Nat} (hd : Dj c.code pc (.if_icmp .eq o) o pcT pcF) (kt : x = y → Go p e below s Q C S (T.setTop (mkF m pcT Ls (rest)))) (kf : x ≠ y → Go p e below s Q C S (T.setTop (mkF m pcF Ls (rest)))) : Go p e below s Q C S (T.setTop (mkF m pc Ls (.int y :: .int x :: rest))) := by
  obtain ⟨hd, ho, rfl, rfl⟩ := hd
  by_cases hb : x = y
  · exact (kt hb).step fun _ t => XS.icmpYes X.here hx rfl rfl hd rfl (teq hb).1 ho rfl t
  · exact (kf hb).step fun _ t => XS.icmpNo X.here hx rfl hd rfl (feq hb).1 t
theorem w_if_eq (X : Stand p l e R s m args below meth c T locs cells slots) (hx : p.tables.exec = Jvm.exec) {o : Int} {x : Int32} {pcT pcF : Nat} (hd : Dj c.code pc (.ifCond .eq o) o pcT pcF) (kt : x = 0 → Go p e below s Q C S (T.setTop (mkF m pcT Ls (rest)))) (kf : x ≠ 0 → Go p e below s Q C S (T.setTop (mkF m pcF Ls (rest)))) : Go p e below s Q C S (T.setTop (mkF m pc Ls (.int x :: rest))) := by
  obtain ⟨hd, ho, rfl, rfl⟩ := hd
  have e0 : (0 : Int32).toInt = 0 := rfl
  by_cases hb : x = (0 : Int32)
  · exact (kt hb).step fun _ t => XS.ifYes X.here hx rfl rfl hd rfl ((if0 _ _).trans (teq hb).1) ho rfl t
  · exact (kf hb).step fun _ t => XS.ifNo X.here hx rfl hd rfl ((if0 _ _).trans (feq hb).1) t
theorem w_lcmp_eq (X : Stand p l e R s m args below meth c T locs cells slots) (hx : p.tables.exec = Jvm.exec) {o : Int} {x y : Int64} {pc1 pcT pcF : Nat} (hd1 : Dc c.code pc .lcmp 1 pc1) (hd : Dj c.code pc1 (.ifCond .eq o) o pcT pcF) (kt : x = y → Go p e below s Q C S (T.setTop (mkF m pcT Ls (rest)))) (kf : x ≠ y → Go p e below s Q C S (T.setTop (mkF m pcF Ls (rest)))) : Go p e below s Q C S (T.setTop (mkF m pc Ls (.long y :: .long x :: rest))) := by
  obtain ⟨hd1, rfl⟩ := hd1
  refine Go.step (fun _ t => XS.lcmp X.here hx rfl hd1 rfl t) ?_
  exact w_if_eq X hx hd (fun q => kt ((lw_eq x y).mp q)) (fun q => kf (fun r => q ((lw_eq x y).mpr r)))
theorem w_icmp_ne (X : Stand p l e R s m args below meth c T locs cells slots) (hx : p.tables.exec = Jvm.exec) {o : Int} {x y : Int32} {pcT pcF : Nat} (hd : Dj c.code pc (.if_icmp .ne o) o pcT pcF) (kt : x ≠ y → Go p e below s Q C S (T.setTop (mkF m pcT Ls (rest)))) (kf : x = y → Go p e below s Q C S (T.setTop (mkF m pcF Ls (rest)))) : Go p e below s Q C S (T.setTop (mkF m pc Ls (.int y :: .int x :: rest))) := by
  obtain ⟨hd, ho, rfl, rfl⟩ := hd
  by_cases hb : x = y
  · exact (kf hb).step fun _ t => XS.icmpNo X.here hx rfl hd rfl (teq hb).2 t
  · exact (kt hb).step fun _ t => XS.icmpYes X.here hx rfl rfl hd rfl (feq hb).2 ho rfl t
theorem w_if_ne (X : Stand p l e R s m args below meth c T locs cells slots) (hx : p.tables.exec = Jvm.exec) {o : Int} {x : Int32} {pcT pcF : Nat} (hd : Dj c.code pc (.ifCond .ne o) o pcT pcF) (kt : x ≠ 0 → Go p e below s Q C S (T.setTop (mkF m pcT Ls (rest)))) (kf : x = 0 → Go p e below s Q C S (T.setTop (mkF m pcF Ls (rest)))) : Go p e below s Q C S (T.setTop (mkF m pc Ls (.int x :: rest))) := by
  obtain ⟨hd, ho, rfl, rfl⟩ := hd
  have e0 : (0 : Int32).toInt = 0 := rfl
  by_cases hb : x = (0 : Int32)
  · exact (kf hb).step fun _ t => XS.ifNo X.here hx rfl hd rfl ((if0 _ _).trans (teq hb).2) t
  · exact (kt hb).step fun _ t => XS.ifYes X.here hx rfl rfl hd rfl ((if0 _ _).trans (feq hb).2) ho rfl t
theorem w_lcmp_ne (X : Stand p l e R s m args below meth c T locs cells slots) (hx : p.tables.exec = Jvm.exec) {o : Int} {x y : Int64} {pc1 pcT pcF : Nat} (hd1 : Dc c.code pc .lcmp 1 pc1) (hd : Dj c.code pc1 (.ifCond .ne o) o pcT pcF) (kt : x ≠ y → Go p e below s Q C S (T.setTop (mkF m pcT Ls (rest)))) (kf : x = y → Go p e below s Q C S (T.setTop (mkF m pcF Ls (rest)))) : Go p e below s Q C S (T.setTop (mkF m pc Ls (.long y :: .long x :: rest))) := by
  obtain ⟨hd1, rfl⟩ := hd1
  refine Go.step (fun _ t => XS.lcmp X.here hx rfl hd1 rfl t) ?_
  exact w_if_ne X hx hd (fun q => kt (fun r => q ((lw_eq x y).mpr r))) (fun q => kf ((lw_eq x y).mp q))
theorem w_icmp_lt (X : Stand p l e R s m args below meth c T locs cells slots) (hx : p.tables.exec = Jvm.exec) {o : Int} {x y : Int32} {pcT pcF : Nat} (hd : Dj c.code pc (.if_icmp .lt o) o pcT pcF) (kt : x.toInt < y.toInt → Go p e below s Q C S (T.setTop (mkF m pcT Ls (rest)))) (kf : y.toInt ≤ x.toInt → Go p e below s Q C S (T.setTop (mkF m pcF Ls (rest)))) : Go p e below s Q C S (T.setTop (mkF m pc Ls (.int y :: .int x :: rest))) := by
  obtain ⟨hd, ho, rfl, rfl⟩ := hd
  by_cases hb : x < y
  · exact (kt (Int32.lt_iff_toInt_lt.mp hb)).step fun _ t => XS.icmpYes X.here hx rfl rfl hd rfl (tlt hb).1 ho rfl t
  · exact (kf (by rw [Int32.lt_iff_toInt_lt] at hb; omega)).step fun _ t => XS.icmpNo X.here hx rfl hd rfl (flt hb).1 t
theorem w_if_lt (X : Stand p l e R s m args below meth c T locs cells slots) (hx : p.tables.exec = Jvm.exec) {o : Int} {x : Int32} {pcT pcF : Nat} (hd : Dj c.code pc (.ifCond .lt o) o pcT pcF) (kt : x.toInt < 0 → Go p e below s Q C S (T.setTop (mkF m pcT Ls (rest)))) (kf : 0 ≤ x.toInt → Go p e below s Q C S (T.setTop (mkF m pcF Ls (rest)))) : Go p e below s Q C S (T.setTop (mkF m pc Ls (.int x :: rest))) := by
  obtain ⟨hd, ho, rfl, rfl⟩ := hd
  have e0 : (0 : Int32).toInt = 0 := rfl
  by_cases hb : x < (0 : Int32)
  · exact (kt (by rw [Int32.lt_iff_toInt_lt] at hb; omega)).step fun _ t => XS.ifYes X.here hx rfl rfl hd rfl ((if0 _ _).trans (tlt hb).1) ho rfl t
  · exact (kf (by rw [Int32.lt_iff_toInt_lt] at hb; omega)).step fun _ t => XS.ifNo X.here hx rfl hd rfl ((if0 _ _).trans (flt hb).1) t
theorem w_lcmp_lt (X : Stand p l e R s m args below meth c T locs cells slots) (hx : p.tables.exec = Jvm.exec) {o : Int} {x y : Int64} {pc1 pcT pcF : Nat} (hd1 : Dc c.code pc .lcmp 1 pc1) (hd : Dj c.code pc1 (.ifCond .lt o) o pcT pcF) (kt : x.toInt < y.toInt → Go p e below s Q C S (T.setTop (mkF m pcT Ls (rest)))) (kf : y.toInt ≤ x.toInt → Go p e below s Q C S (T.setTop (mkF m pcF Ls (rest)))) : Go p e below s Q C S (T.setTop (mkF m pc Ls (.long y :: .long x :: rest))) := by
  obtain ⟨hd1, rfl⟩ := hd1
  have e0 : (0 : Int32).toInt = 0 := rfl
  have L : (lcmpW x y).toInt < 0 → x.toInt < y.toInt := fun q => by have := (lw_lt x y).mp (by rw [Int32.lt_iff_toInt_lt]; omega); rwa [Int64.lt_iff_toInt_lt] at this
  have N : 0 ≤ (lcmpW x y).toInt → y.toInt ≤ x.toInt := fun q => by
    have h1 : ¬ x < y := fun r => by have := (lw_lt x y).mpr r; rw [Int32.lt_iff_toInt_lt] at this; omega
    rw [Int64.lt_iff_toInt_lt] at h1; omega
  have M : 0 < (lcmpW x y).toInt → y.toInt < x.toInt := fun q => by have := (lw_gt x y).mp (by rw [Int32.lt_iff_toInt_lt]; omega); rwa [Int64.lt_iff_toInt_lt] at this
  have P : (lcmpW x y).toInt ≤ 0 → x.toInt ≤ y.toInt := fun q => by
    have h1 : ¬ y < x := fun r => by have := (lw_gt x y).mpr r; rw [Int32.lt_iff_toInt_lt] at this; omega
    rw [Int64.lt_iff_toInt_lt] at h1; omega
  refine Go.step (fun _ t => XS.lcmp X.here hx rfl hd1 rfl t) ?_
  exact w_if_lt X hx hd (fun q => kt (L q)) (fun q => kf (N q))
theorem w_icmp_ge (X : Stand p l e R s m args below meth c T locs cells slots) (hx : p.tables.exec = Jvm.exec) {o : Int} {x y : Int32} {pcT pcF : Nat} (hd : Dj c.code pc (.if_icmp .ge o) o pcT pcF) (kt : y.toInt ≤ x.toInt → Go p e below s Q C S (T.setTop (mkF m pcT Ls (rest)))) (kf : x.toInt < y.toInt → Go p e below s Q C S (T.setTop (mkF m pcF Ls (rest)))) : Go p e below s Q C S (T.setTop (mkF m pc Ls (.int y :: .int x :: rest))) := by
  obtain ⟨hd, ho, rfl, rfl⟩ := hd
  by_cases hb : x < y
  · exact (kf (Int32.lt_iff_toInt_lt.mp hb)).step fun _ t => XS.icmpNo X.here hx rfl hd rfl (tlt hb).2.1 t
  · exact (kt (by rw [Int32.lt_iff_toInt_lt] at hb; omega)).step fun _ t => XS.icmpYes X.here hx rfl rfl hd rfl (flt hb).2.1 ho rfl t
theorem w_if_ge (X : Stand p l e R s m args below meth c T locs cells slots) (hx : p.tables.exec = Jvm.exec) {o : Int} {x : Int32} {pcT pcF : Nat} (hd : Dj c.code pc (.ifCond .ge o) o pcT pcF) (kt : 0 ≤ x.toInt → Go p e below s Q C S (T.setTop (mkF m pcT Ls (rest)))) (kf : x.toInt < 0 → Go p e below s Q C S (T.setTop (mkF m pcF Ls (rest)))) : Go p e below s Q C S (T.setTop (mkF m pc Ls (.int x :: rest))) := by
  obtain ⟨hd, ho, rfl, rfl⟩ := hd
  have e0 : (0 : Int32).toInt = 0 := rfl
  by_cases hb : x < (0 : Int32)
  · exact (kf (by rw [Int32.lt_iff_toInt_lt] at hb; omega)).step fun _ t => XS.ifNo X.here hx rfl hd rfl ((if0 _ _).trans (tlt hb).2.1) t
  · exact (kt (by rw [Int32.lt_iff_toInt_lt] at hb; omega)).step fun _ t => XS.ifYes X.here hx rfl rfl hd rfl ((if0 _ _).trans (flt hb).2.1) ho rfl t
theorem w_lcmp_ge (X : Stand p l e R s m args below meth c T locs cells slots) (hx : p.tables.exec = Jvm.exec) {o : Int} {x y : Int64} {pc1 pcT pcF : Nat} (hd1 : Dc c.code pc .lcmp 1 pc1) (hd : Dj c.code pc1 (.ifCond .ge o) o pcT pcF) (kt : y.toInt ≤ x.toInt → Go p e below s Q C S (T.setTop (mkF m pcT Ls (rest)))) (kf : x.toInt < y.toInt → Go p e below s Q C S (T.setTop (mkF m pcF Ls (rest)))) : Go p e below s Q C S (T.setTop (mkF m pc Ls (.long y :: .long x :: rest))) := by
  obtain ⟨hd1, rfl⟩ := hd1
  have e0 : (0 : Int32).toInt = 0 := rfl
  have L : (lcmpW x y).toInt < 0 → x.toInt < y.toInt := fun q => by have := (lw_lt x y).mp (by rw [Int32.lt_iff_toInt_lt]; omega); rwa [Int64.lt_iff_toInt_lt] at this
  have N : 0 ≤ (lcmpW x y).toInt → y.toInt ≤ x.toInt := fun q => by
    have h1 : ¬ x < y := fun r => by have := (lw_lt x y).mpr r; rw [Int32.lt_iff_toInt_lt] at this; omega
    rw [Int64.lt_iff_toInt_lt] at h1; omega
  have M : 0 < (lcmpW x y).toInt → y.toInt < x.toInt := fun q => by have := (lw_gt x y).mp (by rw [Int32.lt_iff_toInt_lt]; omega); rwa [Int64.lt_iff_toInt_lt] at this
  have P : (lcmpW x y).toInt ≤ 0 → x.toInt ≤ y.toInt := fun q => by
    have h1 : ¬ y < x := fun r => by have := (lw_gt x y).mpr r; rw [Int32.lt_iff_toInt_lt] at this; omega
    rw [Int64.lt_iff_toInt_lt] at h1; omega
  refine Go.step (fun _ t => XS.lcmp X.here hx rfl hd1 rfl t) ?_
  exact w_if_ge X hx hd (fun q => kt (N q)) (fun q => kf (L q))
theorem w_icmp_gt (X : Stand p l e R s m args below meth c T locs cells slots) (hx : p.tables.exec = Jvm.exec) {o : Int} {x y : Int32} {pcT pcF : Nat} (hd : Dj c.code pc (.if_icmp .gt o) o pcT pcF) (kt : y.toInt < x.toInt → Go p e below s Q C S (T.setTop (mkF m pcT Ls (rest)))) (kf : x.toInt ≤ y.toInt → Go p e below s Q C S (T.setTop (mkF m pcF Ls (rest)))) : Go p e below s Q C S (T.setTop (mkF m pc Ls (.int y :: .int x :: rest))) := by
  obtain ⟨hd, ho, rfl, rfl⟩ := hd
  by_cases hb : y < x
  · exact (kt (Int32.lt_iff_toInt_lt.mp hb)).step fun _ t => XS.icmpYes X.here hx rfl rfl hd rfl (tlt hb).2.2.1 ho rfl t
  · exact (kf (by rw [Int32.lt_iff_toInt_lt] at hb; omega)).step fun _ t => XS.icmpNo X.here hx rfl hd rfl (flt hb).2.2.1 t
theorem w_if_gt (X : Stand p l e R s m args below meth c T locs cells slots) (hx : p.tables.exec = Jvm.exec) {o : Int} {x : Int32} {pcT pcF : Nat} (hd : Dj c.code pc (.ifCond .gt o) o pcT pcF) (kt : 0 < x.toInt → Go p e below s Q C S (T.setTop (mkF m pcT Ls (rest)))) (kf : x.toInt ≤ 0 → Go p e below s Q C S (T.setTop (mkF m pcF Ls (rest)))) : Go p e below s Q C S (T.setTop (mkF m pc Ls (.int x :: rest))) := by
  obtain ⟨hd, ho, rfl, rfl⟩ := hd
  have e0 : (0 : Int32).toInt = 0 := rfl
  by_cases hb : (0 : Int32) < x
  · exact (kt (by rw [Int32.lt_iff_toInt_lt] at hb; omega)).step fun _ t => XS.ifYes X.here hx rfl rfl hd rfl ((if0 _ _).trans (tlt hb).2.2.1) ho rfl t
  · exact (kf (by rw [Int32.lt_iff_toInt_lt] at hb; omega)).step fun _ t => XS.ifNo X.here hx rfl hd rfl ((if0 _ _).trans (flt hb).2.2.1) t
theorem w_lcmp_gt (X : Stand p l e R s m args below meth c T locs cells slots) (hx : p.tables.exec = Jvm.exec) {o : Int} {x y : Int64} {pc1 pcT pcF : Nat} (hd1 : Dc c.code pc .lcmp 1 pc1) (hd : Dj c.code pc1 (.ifCond .gt o) o pcT pcF) (kt : y.toInt < x.toInt → Go p e below s Q C S (T.setTop (mkF m pcT Ls (rest)))) (kf : x.toInt ≤ y.toInt → Go p e below s Q C S (T.setTop (mkF m pcF Ls (rest)))) : Go p e below s Q C S (T.setTop (mkF m pc Ls (.long y :: .long x :: rest))) := by
  obtain ⟨hd1, rfl⟩ := hd1
  have e0 : (0 : Int32).toInt = 0 := rfl
  have L : (lcmpW x y).toInt < 0 → x.toInt < y.toInt := fun q => by have := (lw_lt x y).mp (by rw [Int32.lt_iff_toInt_lt]; omega); rwa [Int64.lt_iff_toInt_lt] at this
  have N : 0 ≤ (lcmpW x y).toInt → y.toInt ≤ x.toInt := fun q => by
    have h1 : ¬ x < y := fun r => by have := (lw_lt x y).mpr r; rw [Int32.lt_iff_toInt_lt] at this; omega
    rw [Int64.lt_iff_toInt_lt] at h1; omega
  have M : 0 < (lcmpW x y).toInt → y.toInt < x.toInt := fun q => by have := (lw_gt x y).mp (by rw [Int32.lt_iff_toInt_lt]; omega); rwa [Int64.lt_iff_toInt_lt] at this
  have P : (lcmpW x y).toInt ≤ 0 → x.toInt ≤ y.toInt := fun q => by
    have h1 : ¬ y < x := fun r => by have := (lw_gt x y).mpr r; rw [Int32.lt_iff_toInt_lt] at this; omega
    rw [Int64.lt_iff_toInt_lt] at h1; omega
  refine Go.step (fun _ t => XS.lcmp X.here hx rfl hd1 rfl t) ?_
  exact w_if_gt X hx hd (fun q => kt (M q)) (fun q => kf (P q))
theorem w_icmp_le (X : Stand p l e R s m args below meth c T locs cells slots) (hx : p.tables.exec = Jvm.exec) {o : Int} {x y : Int32} {pcT pcF : Nat} (hd : Dj c.code pc (.if_icmp .le o) o pcT pcF) (kt : x.toInt ≤ y.toInt → Go p e below s Q C S (T.setTop (mkF m pcT Ls (rest)))) (kf : y.toInt < x.toInt → Go p e below s Q C S (T.setTop (mkF m pcF Ls (rest)))) : Go p e below s Q C S (T.setTop (mkF m pc Ls (.int y :: .int x :: rest))) := by
  obtain ⟨hd, ho, rfl, rfl⟩ := hd
  by_cases hb : y < x
  · exact (kf (Int32.lt_iff_toInt_lt.mp hb)).step fun _ t => XS.icmpNo X.here hx rfl hd rfl (tlt hb).2.2.2 t
  · exact (kt (by rw [Int32.lt_iff_toInt_lt] at hb; omega)).step fun _ t => XS.icmpYes X.here hx rfl rfl hd rfl (flt hb).2.2.2 ho rfl t
theorem w_if_le (X : Stand p l e R s m args below meth c T locs cells slots) (hx : p.tables.exec = Jvm.exec) {o : Int} {x : Int32} {pcT pcF : Nat} (hd : Dj c.code pc (.ifCond .le o) o pcT pcF) (kt : x.toInt ≤ 0 → Go p e below s Q C S (T.setTop (mkF m pcT Ls (rest)))) (kf : 0 < x.toInt → Go p e below s Q C S (T.setTop (mkF m pcF Ls (rest)))) : Go p e below s Q C S (T.setTop (mkF m pc Ls (.int x :: rest))) := by
  obtain ⟨hd, ho, rfl, rfl⟩ := hd
  have e0 : (0 : Int32).toInt = 0 := rfl
  by_cases hb : (0 : Int32) < x
  · exact (kf (by rw [Int32.lt_iff_toInt_lt] at hb; omega)).step fun _ t => XS.ifNo X.here hx rfl hd rfl ((if0 _ _).trans (tlt hb).2.2.2) t
  · exact (kt (by rw [Int32.lt_iff_toInt_lt] at hb; omega)).step fun _ t => XS.ifYes X.here hx rfl rfl hd rfl ((if0 _ _).trans (flt hb).2.2.2) ho rfl t
theorem w_lcmp_le (X : Stand p l e R s m args below meth c T locs cells slots) (hx : p.tables.exec = Jvm.exec) {o : Int} {x y : Int64} {pc1 pcT pcF : Nat} (hd1 : Dc c.code pc .lcmp 1 pc1) (hd : Dj c.code pc1 (.ifCond .le o) o pcT pcF) (kt : x.toInt ≤ y.toInt → Go p e below s Q C S (T.setTop (mkF m pcT Ls (rest)))) (kf : y.toInt < x.toInt → Go p e below s Q C S (T.setTop (mkF m pcF Ls (rest)))) : Go p e below s Q C S (T.setTop (mkF m pc Ls (.long y :: .long x :: rest))) := by
  obtain ⟨hd1, rfl⟩ := hd1
  have e0 : (0 : Int32).toInt = 0 := rfl
  have L : (lcmpW x y).toInt < 0 → x.toInt < y.toInt := fun q => by have := (lw_lt x y).mp (by rw [Int32.lt_iff_toInt_lt]; omega); rwa [Int64.lt_iff_toInt_lt] at this
  have N : 0 ≤ (lcmpW x y).toInt → y.toInt ≤ x.toInt := fun q => by
    have h1 : ¬ x < y := fun r => by have := (lw_lt x y).mpr r; rw [Int32.lt_iff_toInt_lt] at this; omega
    rw [Int64.lt_iff_toInt_lt] at h1; omega
  have M : 0 < (lcmpW x y).toInt → y.toInt < x.toInt := fun q => by have := (lw_gt x y).mp (by rw [Int32.lt_iff_toInt_lt]; omega); rwa [Int64.lt_iff_toInt_lt] at this
  have P : (lcmpW x y).toInt ≤ 0 → x.toInt ≤ y.toInt := fun q => by
    have h1 : ¬ y < x := fun r => by have := (lw_gt x y).mpr r; rw [Int32.lt_iff_toInt_lt] at this; omega
    rw [Int64.lt_iff_toInt_lt] at h1; omega
  refine Go.step (fun _ t => XS.lcmp X.here hx rfl hd1 rfl t) ?_
  exact w_if_le X hx hd (fun q => kt (P q)) (fun q => kf (M q))
theorem w_acmp (X : Stand p l e R s m args below meth c T locs cells slots) (hx : p.tables.exec = Jvm.exec) {o : Int} {cd : ClassFile.ACond} {x y : Value} {pcT pcF : Nat} (hd : Dj c.code pc (.if_acmp cd o) o pcT pcF) (h1 : x.isRef = true) (h2 : y.isRef = true) {b : Bool} (hb : acV cd (decide (x = y)) = b) (k : Go p e below s Q C S (T.setTop (mkF m (if b = true then pcT else pcF) Ls rest))) : Go p e below s Q C S (T.setTop (mkF m pc Ls (y :: x :: rest))) := by
  obtain ⟨hd, ho, rfl, rfl⟩ := hd; subst hb; exact k.step fun _ t => Jvm.RoadKit.acmp X hx rfl h1 h2 rfl hd rfl rfl ho rfl t
theorem w_ifnullR (X : Stand p l e R s m args below meth c T locs cells slots) (hx : p.tables.exec = Jvm.exec) {o : Int} {b : Addr} {pcT pcF : Nat} (hd : Dj c.code pc (.ifnull o) o pcT pcF) (k : Go p e below s Q C S (T.setTop (mkF m pcF Ls rest))) : Go p e below s Q C S (T.setTop (mkF m pc Ls (.ref b :: rest))) := by
  obtain ⟨hd, -, -, rfl⟩ := hd; exact k.step fun _ t => XS.ifnullNo X.here hx rfl hd rfl t
/-! returns -/
theorem w_ret (X : Stand p l e R s m args below meth c T locs cells slots) (hx : p.tables.exec = Jvm.exec) (hret : meth.sig.returnType = none) (hlk : meth.locks = false) (hd : Dc c.code pc .return_ 1 pc') (hC : cells ≤ C) (hS : slots ≤ S) (hQ : Q none T.heap locs) : Go p e below s Q C S (T.setTop (mkF m pc Ls [])) := by
  obtain ⟨fs, hr, hrun, hended, hW, hsame⟩ := X.leave (v := none) (fun _ => rfl) hlk
  exact ⟨_, _, X.returnOut hx hret hd.1 hr, hrun, hended, _, _, rfl, hQ, ⟨_, rfl⟩, hW, hsame.mono hC hS⟩
theorem w_retI (X : Stand p l e R s m args below meth c T locs cells slots) (hx : p.tables.exec = Jvm.exec) (hret : meth.sig.returnType = some .int) (hlk : meth.locks = false) {z : Int32} (hd : Dc c.code pc .ireturn 1 pc') (hC : cells ≤ C) (hS : slots ≤ S) (hQ : Q (some (.int z)) T.heap locs) : Go p e below s Q C S (T.setTop (mkF m pc Ls (.int z :: rest))) := by
  obtain ⟨fs, hr, hrun, hended, hW, hsame⟩ := X.leave (v := some (.int z)) (fun h => by rw [hret] at h; cases h) hlk
  exact ⟨_, _, retOut X hx hret rfl (Or.inl ⟨rfl, Or.inl rfl, _, rfl⟩) hd.1 hr, hrun, hended, _, _, rfl, hQ, ⟨_, rfl⟩, hW, hsame.mono hC hS⟩
theorem w_retN (X : Stand p l e R s m args below meth c T locs cells slots) (hx : p.tables.exec = Jvm.exec) {t : FieldType} (hret : meth.sig.returnType = some t) (ht : t = .boolean ∨ t = .byte ∨ t = .char ∨ t = .short) (hlk : meth.locks = false) {z : Int32} (hd : Dc c.code pc .ireturn 1 pc') (hC : cells ≤ C) (hS : slots ≤ S) (hQ : Q (some (.int (nar t z))) T.heap locs) : Go p e below s Q C S (T.setTop (mkF m pc Ls (.int z :: rest))) := by
  obtain ⟨fs, hr, hrun, hended, hW, hsame⟩ := X.leave (v := some (.int (nar t z))) (fun h => by rw [hret] at h; cases h) hlk
  exact ⟨_, _, retN X hx hret ht hd.1 hr, hrun, hended, _, _, rfl, hQ, ⟨_, rfl⟩, hW, hsame.mono hC hS⟩
theorem w_retJ (X : Stand p l e R s m args below meth c T locs cells slots) (hx : p.tables.exec = Jvm.exec) (hret : meth.sig.returnType = some .long) (hlk : meth.locks = false) {z : Int64} (hd : Dc c.code pc .lreturn 1 pc') (hC : cells ≤ C) (hS : slots ≤ S) (hQ : Q (some (.long z)) T.heap locs) : Go p e below s Q C S (T.setTop (mkF m pc Ls (.long z :: rest))) := by
  obtain ⟨fs, hr, hrun, hended, hW, hsame⟩ := X.leave (v := some (.long z)) (fun h => by rw [hret] at h; cases h) hlk
  exact ⟨_, _, retOut X hx hret rfl (Or.inr (Or.inl ⟨rfl, rfl, _, rfl⟩)) hd.1 hr, hrun, hended, _, _, rfl, hQ, ⟨_, rfl⟩, hW, hsame.mono hC hS⟩
theorem w_retA (X : Stand p l e R s m args below meth c T locs cells slots) (hx : p.tables.exec = Jvm.exec) {t : FieldType} {a : Addr} (hret : meth.sig.returnType = some t) (ht : t.isReference = true) (hn : narrow t (.ref a) = .ref a) (hlk : meth.locks = false) (hd : Dc c.code pc .areturn 1 pc') (hC : cells ≤ C) (hS : slots ≤ S) (hQ : Q (some (.ref a)) T.heap locs) : Go p e below s Q C S (T.setTop (mkF m pc Ls (.ref a :: rest))) := by
  obtain ⟨fs, hr, hrun, hended, hW, hsame⟩ := X.leave (v := some (.ref a)) (fun h => by rw [hret] at h; cases h) hlk
  exact ⟨_, _, retOut X hx hret hn (Or.inr (Or.inr (Or.inr (Or.inr ⟨rfl, ht, rfl⟩)))) hd.1 hr, hrun, hended, _, _, rfl, hQ, ⟨_, rfl⟩, hW, hsame.mono hC hS⟩
/-! contracts -/
def Ct (l : Launch) (Z : State) (y : MethodName) (bytes : ByteArray) (maxL : Nat) (ret : Option FieldType) (rm : Room) (as' : Array Value) (h : Heap) (Q : Option Value → Heap → List Loc → Prop) : Prop :=
  MetFree l y (head1 [Jvm.Cond.code y bytes maxL ret] rm) (fun a U => a = as' ∧ Z.Warmed39 U.vm ∧ U.heap = h) (fun _ _ _ _ _ => True) (fun _ U o U' => ∃ v L, o = .returned v ∧ Q v U'.heap L ∧ FrameEnd U o U' L rm.cells rm.slots)
theorem w_body {y : MethodName} {bytes : ByteArray} {maxL : Nat} {ret : Option FieldType} {rm : Room} {as' : Array Value} {ws : List Jvm.Cond} (hp : plainFor y = true)
    (body : ∀ (p : Program) (e : Env) (s : State) (m : MethodId) (below : List Frame) (meth : Method) (c : Code) (T : State), Stand p l e rm s m as' below meth c T [] 0 0 → p.tables.exec = Jvm.exec → c.code = bytes → c.maxLocals = maxL → s.vm.findClass y.cls = some m.cls → meth.name = y.name → meth.sig.returnType = ret → meth.locks = false → Z.Warmed39 s.vm → T.heap = h → Go p e below s Q C S (T.setTop (entryFrame m as' maxL))) :
    MetFree l y (head1 (Jvm.Cond.code y bytes maxL ret :: ws) rm) (fun a U => a = as' ∧ Z.Warmed39 U.vm ∧ U.heap = h) (fun _ _ _ _ _ => True) (fun _ U o U' => ∃ v L, o = .returned v ∧ Q v U'.heap L ∧ FrameEnd U o U' L C S) := by
  refine MetFree.of_bodySF hp hisR ?_
  intro p e s m args below meth c s₁ Bd hml0 hP hK
  obtain ⟨rfl, hZ, hh⟩ := hP
  exact body p e s m below meth c s₁ (Stand.of_body Bd) Bd.exec Bd.bytes hml0 (findClass_of_methodNamed Bd.named) (name_of_methodNamed Bd.named Bd.method).1 Bd.returns Bd.notSynchronized hZ (by rw [← hh, Bd.state]; rfl)
theorem Ct.body {y : MethodName} {bytes : ByteArray} {maxL : Nat} {ret : Option FieldType} {rm : Room} {as' : Array Value} (hp : plainFor y = true)
    (body : ∀ (p : Program) (e : Env) (s : State) (m : MethodId) (below : List Frame) (meth : Method) (c : Code) (T : State), Stand p l e rm s m as' below meth c T [] 0 0 → p.tables.exec = Jvm.exec → c.code = bytes → c.maxLocals = maxL → s.vm.findClass y.cls = some m.cls → meth.name = y.name → meth.sig.returnType = ret → meth.locks = false → Z.Warmed39 s.vm → T.heap = h → Go p e below s Q rm.cells rm.slots (T.setTop (entryFrame m as' maxL))) :
    Ct l Z y bytes maxL ret rm as' h Q := w_body hp body
/-! calls -/
theorem w_callS (X : Stand p l e R s m args below meth c T locs cells slots) (hx : p.tables.exec = Jvm.exec) (hZ : Z.Warmed39 s.vm) (eT : T.heap = h) {kk : Nat} (hml : c.maxLocals = kk) (hkk : Ls.size = kk) {own : String} (hown : s.vm.findClass own = some m.cls) {index : Nat} {y : MethodName} {bytes : ByteArray} {maxL : Nat} {ret : Option FieldType} {rm : Room} {as' : Array Value} {Qc : Option Value → Heap → List Loc → Prop}
    (w1 : (Jvm.Cond.methodLink own index y).before a0 Z = true) (w2 : (Jvm.Cond.static y).before a0 Z = true) (w3 : (Jvm.Cond.initialized y.cls).before a0 Z = true) (w4 : (Jvm.Cond.code y bytes maxL ret).before a0 Z = true) (hy : y.cls ≠ "java/lang/invoke/MethodHandle" ∧ y.cls ≠ "java/lang/invoke/VarHandle")
    (hM : Ct l Z y bytes maxL ret rm as' h Qc) (hd : Dc c.code pc (.invokestatic index) 3 pc') {ps : List FieldType} {r : Option FieldType} (hpd : parseMethodDescriptor y.desc = some ⟨ps, r⟩) {argsL st rest : List Value} (has : argsL.toArray = as') (hst : st = argsL.reverse ++ rest) (hlen : argsL.length = ps.length) {W : Nat} (hW : (rest.map fun v => v.category).sum = W)
    (hf : rm.frames + 1 ≤ R.frames) (hl : W + (maxL + 11) + rm.locals ≤ R.locals) (hcl : cells + rm.cells ≤ R.cells) (hsl : slots + rm.slots ≤ R.slots)
    (k : ∀ (v : Option Value) (T' : State) (L : List Loc), Stand p l e R s m args below meth c T' (locs ++ L) (cells + rm.cells) (slots + rm.slots) → Qc v T'.heap L → Go p e below s Q C S (T'.setTop (mkF m pc' Ls (v.toList ++ rest)))) :
    Go p e below s Q C S (T.setTop (mkF m pc Ls st)) := by
  subst hst has hW
  obtain ⟨hd, rfl⟩ := hd
  obtain ⟨v, _, ⟨T', L', k', n'⟩, -, X', ⟨Lc, hQ, e1, e2, e3⟩, st⟩ := Jvm.LawKit.callS X hx (y := y) hown (mvT hZ w1) (mvT hZ w2) (mvT hZ w3) (mvT hZ w4) hy (backOf (W := (rest.map fun v => v.category).sum) hM hZ w4 w3 hf hl) (g := mkF m pc Ls (argsL.reverse ++ rest)) rfl (hkk.trans hml.symm) (argsL := argsL) (rest := rest) (lenOf hpd hlen) rfl (by show 2 * 0 + _ ≤ _; omega) hd (fun _ _ => ⟨rfl, eT, hcl, hsl⟩)
  dsimp only [Pt.U, Pt.locs, Pt.cells, Pt.slots] at X' e1 e2 e3 st hQ
  subst e1 e2 e3
  exact (k v T' Lc X' hQ).step st
theorem w_callV (X : Stand p l e R s m args below meth c T locs cells slots) (hx : p.tables.exec = Jvm.exec) (hZ : Z.Warmed39 s.vm) (eT : T.heap = h) {kk : Nat} (hml : c.maxLocals = kk) (hkk : Ls.size = kk) {own : String} (hown : s.vm.findClass own = some m.cls) {index : Nat} {y : MethodName} {bytes : ByteArray} {maxL : Nat} {ret : Option FieldType} {rm : Room} {as' : Array Value} {Qc : Option Value → Heap → List Loc → Prop}
    (w1 : (Jvm.Cond.methodLink own index y).before a0 Z = true) (w2 : (Jvm.Cond.declares y).before a0 Z = true) (w5 : (Jvm.Cond.selects y.cls y y).before a0 Z = true) (w6 : (Jvm.Cond.instanceMethod y).before a0 Z = true) (w3 : (Jvm.Cond.initialized y.cls).before a0 Z = true) (w4 : (Jvm.Cond.code y bytes maxL ret).before a0 Z = true) (hy : y.cls ≠ "java/lang/invoke/MethodHandle" ∧ y.cls ≠ "java/lang/invoke/VarHandle")
    (hM : Ct l Z y bytes maxL ret rm as' h Qc) {b : Addr} (E : Exa Z h b y.cls) (hd : Dc c.code pc (.invokevirtual index) 3 pc') {ps : List FieldType} {r : Option FieldType} (hpd : parseMethodDescriptor y.desc = some ⟨ps, r⟩) {argsL st rest : List Value} (has : (.ref b :: argsL).toArray = as') (hst : st = argsL.reverse ++ .ref b :: rest) (hlen : argsL.length = ps.length) {W : Nat} (hW : (rest.map fun v => v.category).sum = W)
    (hf : rm.frames + 1 ≤ R.frames) (hl : W + (maxL + 11) + rm.locals ≤ R.locals) (hcl : cells + rm.cells ≤ R.cells) (hsl : slots + rm.slots ≤ R.slots)
    (k : ∀ (v : Option Value) (T' : State) (L : List Loc), Stand p l e R s m args below meth c T' (locs ++ L) (cells + rm.cells) (slots + rm.slots) → Qc v T'.heap L → Go p e below s Q C S (T'.setTop (mkF m pc' Ls (v.toList ++ rest)))) :
    Go p e below s Q C S (T.setTop (mkF m pc Ls st)) := by
  subst hst has hW
  obtain ⟨hd, rfl⟩ := hd
  obtain ⟨cq, kq, qa, qb, qc⟩ := isOf hZ eT E
  obtain ⟨v, _, ⟨T', L', k', n'⟩, -, X', ⟨Lc, hQ, e1, e2, e3⟩, st⟩ := X.virtualBack hx (y := y) (z := y) hown (mvT hZ w1) (mvT hZ w2) (notFace_of_selects (args := #[]) (mvT hZ w5)) (mvT hZ w5) (mvT hZ w6) hy (backOf (W := (rest.map fun v => v.category).sum) hM hZ w4 w3 hf hl) qa qc (g := mkF m pc Ls (argsL.reverse ++ .ref b :: rest)) rfl (hkk.trans hml.symm) (Steps.refl _) (argsL := argsL) (rest := rest) (lenOf hpd hlen) rfl (by show 2 * 0 + _ ≤ _; omega) hd (fun _ _ => ⟨rfl, eT, hcl, hsl⟩)
  dsimp only [Pt.U, Pt.locs, Pt.cells, Pt.slots] at X' e1 e2 e3 st hQ
  subst e1 e2 e3
  exact (k v T' Lc X' hQ).step fun _ q => st.trans q
theorem w_callSP (X : Stand p l e R s m args below meth c T locs cells slots) (hx : p.tables.exec = Jvm.exec) (hZ : Z.Warmed39 s.vm) (eT : T.heap = h) {kk : Nat} (hml : c.maxLocals = kk) (hkk : Ls.size = kk) {own : String} (hown : s.vm.findClass own = some m.cls) {index : Nat} {y : MethodName} {bytes : ByteArray} {maxL : Nat} {ret : Option FieldType} {f lo : Nat} {as' : Array Value} {rv : Value}
    (w1 : (Jvm.Cond.methodLink own index y).before a0 Z = true) (w2 : (Jvm.Cond.static y).before a0 Z = true) (w3 : (Jvm.Cond.initialized y.cls).before a0 Z = true) (w4 : (Jvm.Cond.code y bytes maxL ret).before a0 Z = true) (hy : y.cls ≠ "java/lang/invoke/MethodHandle" ∧ y.cls ≠ "java/lang/invoke/VarHandle")
    (hM : Ct l Z y bytes maxL ret ({ frames := f, cells := 0, slots := 0, locals := lo } : Room) as' h (fun v h' L => v = some rv ∧ h' = h ∧ L = [])) (hd : Dc c.code pc (.invokestatic index) 3 pc') {ps : List FieldType} {r : Option FieldType} (hpd : parseMethodDescriptor y.desc = some ⟨ps, r⟩) {argsL st rest : List Value} (has : argsL.toArray = as') (hst : st = argsL.reverse ++ rest) (hlen : argsL.length = ps.length) {W : Nat} (hW : (rest.map fun v => v.category).sum = W)
    (hf : f + 1 ≤ R.frames) (hl : W + (maxL + 11) + lo ≤ R.locals) (hcl : cells ≤ R.cells) (hsl : slots ≤ R.slots)
    (k : ∀ T', Stand p l e R s m args below meth c T' locs cells slots → T'.heap = h → Go p e below s Q C S (T'.setTop (mkF m pc' Ls (rv :: rest)))) :
    Go p e below s Q C S (T.setTop (mkF m pc Ls st)) := by
  refine w_callS X hx hZ eT hml hkk hown w1 w2 w3 w4 hy hM hd hpd has hst hlen hW hf hl hcl hsl fun v T' L X' hQ => ?_
  obtain ⟨rfl, e', rfl⟩ := hQ
  rw [List.append_nil] at X'
  exact k T' X' e'
theorem w_callVP (X : Stand p l e R s m args below meth c T locs cells slots) (hx : p.tables.exec = Jvm.exec) (hZ : Z.Warmed39 s.vm) (eT : T.heap = h) {kk : Nat} (hml : c.maxLocals = kk) (hkk : Ls.size = kk) {own : String} (hown : s.vm.findClass own = some m.cls) {index : Nat} {y : MethodName} {bytes : ByteArray} {maxL : Nat} {ret : Option FieldType} {f lo : Nat} {as' : Array Value} {rv : Value}
    (w1 : (Jvm.Cond.methodLink own index y).before a0 Z = true) (w2 : (Jvm.Cond.declares y).before a0 Z = true) (w5 : (Jvm.Cond.selects y.cls y y).before a0 Z = true) (w6 : (Jvm.Cond.instanceMethod y).before a0 Z = true) (w3 : (Jvm.Cond.initialized y.cls).before a0 Z = true) (w4 : (Jvm.Cond.code y bytes maxL ret).before a0 Z = true) (hy : y.cls ≠ "java/lang/invoke/MethodHandle" ∧ y.cls ≠ "java/lang/invoke/VarHandle")
    (hM : Ct l Z y bytes maxL ret ({ frames := f, cells := 0, slots := 0, locals := lo } : Room) as' h (fun v h' L => v = some rv ∧ h' = h ∧ L = [])) {b : Addr} (E : Exa Z h b y.cls) (hd : Dc c.code pc (.invokevirtual index) 3 pc') {ps : List FieldType} {r : Option FieldType} (hpd : parseMethodDescriptor y.desc = some ⟨ps, r⟩) {argsL st rest : List Value} (has : (.ref b :: argsL).toArray = as') (hst : st = argsL.reverse ++ .ref b :: rest) (hlen : argsL.length = ps.length) {W : Nat} (hW : (rest.map fun v => v.category).sum = W)
    (hf : f + 1 ≤ R.frames) (hl : W + (maxL + 11) + lo ≤ R.locals) (hcl : cells ≤ R.cells) (hsl : slots ≤ R.slots)
    (k : ∀ T', Stand p l e R s m args below meth c T' locs cells slots → T'.heap = h → Go p e below s Q C S (T'.setTop (mkF m pc' Ls (rv :: rest)))) :
    Go p e below s Q C S (T.setTop (mkF m pc Ls st)) := by
  refine w_callV X hx hZ eT hml hkk hown w1 w2 w5 w6 w3 w4 hy hM E hd hpd has hst hlen hW hf hl hcl hsl fun v T' L X' hQ => ?_
  obtain ⟨rfl, e', rfl⟩ := hQ
  rw [List.append_nil] at X'
  exact k T' X' e'
theorem w_callI (X : Stand p l e R s m args below meth c T locs cells slots) (hx : p.tables.exec = Jvm.exec) (hZ : Z.Warmed39 s.vm) (eT : T.heap = h) {kk : Nat} (hml : c.maxLocals = kk) (hkk : Ls.size = kk) {own : String} (hown : s.vm.findClass own = some m.cls) {index : Nat} {y : MethodName} {bytes : ByteArray} {maxL : Nat} {rm : Room} {as' : Array Value} {Qc : Option Value → Heap → List Loc → Prop} (hy1 : y.name = "<init>")
    (w1 : (Jvm.Cond.methodLink own index y).before a0 Z = true) (w6 : (Jvm.Cond.instanceMethod y).before a0 Z = true) (w3 : (Jvm.Cond.initialized y.cls).before a0 Z = true) (w4 : (Jvm.Cond.code y bytes maxL none).before a0 Z = true) (hy : y.cls ≠ "java/lang/invoke/MethodHandle" ∧ y.cls ≠ "java/lang/invoke/VarHandle")
    (hM : Ct l Z y bytes maxL none rm as' h Qc) {b : Addr} (hd : Dc c.code pc (.invokespecial index) 3 pc') {ps : List FieldType} {r : Option FieldType} (hpd : parseMethodDescriptor y.desc = some ⟨ps, r⟩) {argsL st rest : List Value} (has : (.ref b :: argsL).toArray = as') (hst : st = argsL.reverse ++ .ref b :: rest) (hlen : argsL.length = ps.length) {W : Nat} (hW : (rest.map fun v => v.category).sum = W)
    (hf : rm.frames + 1 ≤ R.frames) (hl : W + (maxL + 11) + rm.locals ≤ R.locals) (hcl : cells + rm.cells ≤ R.cells) (hsl : slots + rm.slots ≤ R.slots)
    (k : ∀ (v : Option Value) (T' : State) (L : List Loc), Stand p l e R s m args below meth c T' (locs ++ L) (cells + rm.cells) (slots + rm.slots) → Qc v T'.heap L → Go p e below s Q C S (T'.setTop (mkF m pc' Ls (v.toList ++ rest)))) :
    Go p e below s Q C S (T.setTop (mkF m pc Ls st)) := by
  subst hst has hW
  obtain ⟨hd, rfl⟩ := hd
  obtain ⟨v, _, ⟨T', L', k', n'⟩, -, X', ⟨Lc, hQ, e1, e2, e3⟩, st⟩ := X.specialBack hx (y := y) hy1 hown (mvT hZ w1) (mvT hZ w6) (mvT hZ w4) hy (backOf (W := (rest.map fun v => v.category).sum) hM hZ w4 w3 hf hl) (g := mkF m pc Ls (argsL.reverse ++ .ref b :: rest)) rfl (hkk.trans hml.symm) (Steps.refl _) (a := b) (argsL := argsL) (rest := rest) (lenOf hpd hlen) rfl (by show 2 * 0 + _ ≤ _; omega) hd (fun _ _ => ⟨rfl, eT, hcl, hsl⟩)
  dsimp only [Pt.U, Pt.locs, Pt.cells, Pt.slots] at X' e1 e2 e3 st hQ
  subst e1 e2 e3
  exact (k v T' Lc X' hQ).step fun _ q => st.trans q
theorem w_objinit (X : Stand p l e R s m args below meth c T locs cells slots) (hx : p.tables.exec = Jvm.exec) (hZ : Z.Warmed39 s.vm) (eT : T.heap = h) {kk : Nat} (hml : c.maxLocals = kk) (hkk : Ls.size = kk) {own : String} (hown : s.vm.findClass own = some m.cls) {index : Nat}
    (w1 : (Jvm.Cond.methodLink own index Lib.objectInit).before a0 Z = true) (w2 : (Jvm.Cond.instanceMethod Lib.objectInit).before a0 Z = true) (w3 : (Jvm.Cond.code Lib.objectInit ⟨#[0xb1]⟩ 1 none).before a0 Z = true) (hd : Dc c.code pc (.invokespecial index) 3 pc') {a : Addr} (hf : 1 ≤ R.frames) {W : Nat} (hW : (rest.map fun v => v.category).sum = W) (hl : W + 12 ≤ R.locals)
    (k : ∀ T', Stand p l e R s m args below meth c T' locs cells slots → T'.heap = h → Go p e below s Q C S (T'.setTop (mkF m pc' Ls rest))) : Go p e below s Q C S (T.setTop (mkF m pc Ls (.ref a :: rest))) := by
  obtain ⟨hd, rfl⟩ := hd
  obtain ⟨T', X', e', st⟩ := initO X hx hZ hown w1 w2 w3 eT (g := mkF m pc Ls (.ref a :: rest)) rfl (hkk.trans hml.symm) rfl hd hf (W := W) (by show 2 * 0 + _ ≤ _; omega) hl
  exact (k T' X' e').step st
/-! fields -/
theorem w_getf (X : Stand p l e R s m args below meth c T locs cells slots) (hx : p.tables.exec = Jvm.exec) (hZ : Z.Warmed39 s.vm) (eT : T.heap = h) {own O n d : String} {index : Nat} (hown : s.vm.findClass own = some m.cls) (w : (Jvm.Cond.fieldLink own index O n d).before a0 Z = true) {a : Addr} {v : Value} (F : Fld Z h a O n d v) (hd : Dc c.code pc (.getfield index) 3 pc')
    (k : ∀ T', Stand p l e R s m args below meth c T' locs cells slots → T'.heap = h → Go p e below s Q C S (T'.setTop (mkF m pc' Ls (v :: rest)))) : Go p e below s Q C S (T.setTop (mkF m pc Ls (.ref a :: rest))) := by
  obtain ⟨hd, rfl⟩ := hd
  obtain ⟨T', X', e', st⟩ := getF X hx hZ hown (host := "") (Or.inl w) Via.refl eT F (g := mkF m pc Ls (.ref a :: rest)) rfl rfl hd
  exact (k T' X' e').step st
theorem w_putf (X : Stand p l e R s m args below meth c T locs cells slots) (hx : p.tables.exec = Jvm.exec) (hZ : Z.Warmed39 s.vm) (eT : T.heap = h) {own O n d : String} {index kk : Nat} {ty : FieldType} (hown : s.vm.findClass own = some m.cls) (w : (Jvm.Cond.fieldLink own index O n d).before a0 Z = true) {a : Addr} {v old : Value} (F : Fld Z h a O n d old) (E : Exa Z h a O) (L : (Jvm.Cond.lays O O n d).before a0 Z = true ∨ ((Jvm.Cond.laysFinal O O n d).before a0 Z = true ∧ own = O ∧ meth.name = "<init>")) (wi : (Jvm.Cond.instantiable O kk).before a0 Z = true)
    (hty : parseFieldDescriptor d = some ty) (hn : narrow ty v = v) (hf : fits ty v = true) (hd : Dc c.code pc (.putfield index) 3 pc')
    (k : ∀ T' h', Stand p l e R s m args below meth c T' (locs ++ [⟨a, Jvm.RoadKit.slotOf Z O n d⟩]) cells slots → T'.heap = h' → Wr h h' a (Jvm.RoadKit.slotOf Z O n d) v → Go p e below s Q C S (T'.setTop (mkF m pc' Ls rest))) : Go p e below s Q C S (T.setTop (mkF m pc Ls (v :: .ref a :: rest))) := by
  obtain ⟨hd, rfl⟩ := hd
  obtain ⟨T', h', X', e', W, st⟩ := putF X hx hZ hown (host := "") (Or.inl w) Via.refl eT F E L wi hty hn hf (g := mkF m pc Ls (v :: .ref a :: rest)) rfl rfl hd
  exact (k T' h' X' e' W).step st
theorem w_new (X : Stand p l e R s m args below meth c T locs cells slots) (hx : p.tables.exec = Jvm.exec) (hZ : Z.Warmed39 s.vm) (eT : T.heap = h) {own K : String} {index n : Nat} (hown : s.vm.findClass own = some m.cls) (w : (Jvm.Cond.classLink own index K).before a0 Z = true) (wi : (Jvm.Cond.instantiable K n).before a0 Z = true) (wz : (Jvm.Cond.initialized K).before a0 Z = true) (hd : Dc c.code pc (.new index) 3 pc') (hcl : cells + 1 ≤ R.cells) (hsl : slots + n ≤ R.slots)
    (k : ∀ T' h' b, b = h.size → Stand p l e R s m args below meth c T' locs (cells + 1) (slots + n) → T'.heap = h' → Ext h h' → Exa Z h' b K → (∀ {O nm d : String} {ty : FieldType}, Laid Z a0 K O nm d → parseFieldDescriptor d = some ty → Fld Z h' b O nm d (defaultValue ty)) → Go p e below s Q C S (T'.setTop (mkF m pc' Ls (.ref b :: rest)))) : Go p e below s Q C S (T.setTop (mkF m pc Ls rest)) := by
  obtain ⟨hd, rfl⟩ := hd
  obtain ⟨T', h', X', e', E, A, D, -, st⟩ := newO X hx hZ hown w wi wz eT (g := mkF m pc Ls rest) rfl hd hcl hsl
  exact (k T' h' _ rfl X' e' E A D).step st
/-! arrays: n places, place i holds f i -/
def AV (Z : State) (h : Heap) (a : Addr) (ty : FieldType) (n : Nat) (f : Nat → Value) : Prop := n < 2 ^ 31 ∧ ∃ cl : Cell, Arr Z h a cl ty ∧ cl.slots.size = n ∧ ∀ i, i < n → cl.slots[i]? = some (f i)
theorem AV.lt {a : Addr} {ty : FieldType} {n : Nat} {f : Nat → Value} (A : AV Z h a ty n f) : a < h.size := by obtain ⟨-, c, A, -⟩ := A; exact A.lt
theorem AV.ext {a : Addr} {ty : FieldType} {n : Nat} {f : Nat → Value} {h' : Heap} (A : AV Z h a ty n f) (E : Ext h h') : AV Z h' a ty n f := by obtain ⟨h1, c, A, r⟩ := A; exact ⟨h1, c, A.ext E, r⟩
theorem AV.other {a b : Addr} {ty : FieldType} {n sl : Nat} {v : Value} {f : Nat → Value} {h' : Heap} (A : AV Z h a ty n f) (W : Wr h h' b sl v) (q : a ≠ b) : AV Z h' a ty n f := by obtain ⟨h1, c, A, r⟩ := A; exact ⟨h1, c, A.other W q, r⟩
theorem AV.keep {a : Addr} {ty : FieldType} {n : Nat} {ws : List Addr} {f : Nat → Value} {h' : Heap} (A : AV Z h a ty n f) (K : Keep h h' ws) (q : a ∉ ws) : AV Z h' a ty n f := by obtain ⟨h1, c, A, r⟩ := A; exact ⟨h1, c, ⟨K.2.1 a c A.1 q, A.2⟩, r⟩
theorem AV.congr {a : Addr} {ty : FieldType} {n : Nat} {f g : Nat → Value} (A : AV Z h a ty n f) (q : ∀ i, i < n → f i = g i) : AV Z h a ty n g := by obtain ⟨h1, c, A, r1, r2⟩ := A; exact ⟨h1, c, A, r1, fun i hi => by rw [r2 i hi, q i hi]⟩
theorem av_idx {j : Int32} {i n : Nat} {cl : Cell} (hj : j.toInt = (i : Int)) (hi : i < n) (hc : cl.slots.size = n) : ¬ (j < 0 ∨ cl.slots.size ≤ j.toNatClampNeg) ∧ j.toNatClampNeg = i := by
  have e0 : (0 : Int32).toInt = 0 := rfl
  simp only [Int32.lt_iff_toInt_lt, Int32.toNatClampNeg, e0, hj, hc]; omega
def put (f : Nat → Value) (i : Nat) (v : Value) : Nat → Value := fun k => if k = i then v else f k
theorem put_at (f : Nat → Value) (i : Nat) (v : Value) : put f i v i = v := by simp [put]
theorem put_ne (f : Nat → Value) {i k : Nat} (v : Value) (q : k ≠ i) : put f i v k = f k := by simp [put, q]
theorem AV.same {a : Addr} {ty : FieldType} {n : Nat} {v : Value} {f : Nat → Value} {h' : Heap} {i : Nat} (A : AV Z h a ty n f) (hi : i < n) (W : Wr h h' a i v) : AV Z h' a ty n (put f i v) := by
  obtain ⟨h1, c, A, r1, r2⟩ := A
  refine ⟨h1, _, A.same W, by rw [sz_set]; exact r1, fun k hk => ?_⟩
  by_cases u : k = i
  · subst u; rw [put_at]; simp [Cell.setSlot, r1, hk]
  · rw [put_ne _ _ u]; simp only [Cell.setSlot]; rw [Array.getElem?_setIfInBounds_ne (Ne.symm u)]; exact r2 k hk
theorem w_newarr (X : Stand p l e R s m args below meth c T locs cells slots) (hx : p.tables.exec = Jvm.exec) (hZ : Z.Warmed39 s.vm) (eT : T.heap = h) {aty : ArrayType} (w : (Jvm.Cond.arrayClass (newarray.typeOf aty)).before a0 Z = true) (hd : Dc c.code pc (.newarray aty) 2 pc') {z : Int32} {n cap : Nat} (hz : z.toInt = (n : Int)) (hcap : n ≤ cap) (hb : cap * 8 ≤ 536870912) (hcl : cells + 1 ≤ R.cells) (hsl : slots + cap ≤ R.slots)
    (k : ∀ T' h' b, b = h.size → Stand p l e R s m args below meth c T' locs (cells + 1) (slots + cap) → T'.heap = h' → Ext h h' → AV Z h' b (newarray.typeOf aty) n (fun _ => defaultValue (newarray.typeOf aty)) → Go p e below s Q C S (T'.setTop (mkF m pc' Ls (.ref b :: rest)))) : Go p e below s Q C S (T.setTop (mkF m pc Ls (.int z :: rest))) := by
  obtain ⟨hd, rfl⟩ := hd
  have e0 : (0 : Int32).toInt = 0 := rfl
  have hn : ¬ z < 0 := by rw [Int32.lt_iff_toInt_lt]; omega
  have en : z.toNatClampNeg = n := by simp only [Int32.toNatClampNeg]; omega
  have hlt := Int32.toInt_lt z
  obtain ⟨T', h', cA, X', e', E, A, st⟩ := newP X hx hZ w eT (g := mkF m pc Ls (.int z :: rest)) rfl hd rfl hn (cap := cap) (by omega) hb hcl hsl
  refine (k T' h' _ rfl X' e' E ⟨by omega, _, A, by rw [sz_new]; exact en, fun i hi => ?_⟩).step st
  simp [newA, en, hi]
theorem w_arrlen (X : Stand p l e R s m args below meth c T locs cells slots) (hx : p.tables.exec = Jvm.exec) (hZ : Z.Warmed39 s.vm) (eT : T.heap = h) {a : Addr} {ty : FieldType} {n : Nat} {f : Nat → Value} (A : AV Z h a ty n f) {z : Int32} (hz : z.toInt = (n : Int)) (hd : Dc c.code pc .arraylength 1 pc') (k : Go p e below s Q C S (T.setTop (mkF m pc' Ls (.int z :: rest)))) : Go p e below s Q C S (T.setTop (mkF m pc Ls (.ref a :: rest))) := by
  obtain ⟨hd, rfl⟩ := hd
  obtain ⟨h1, c, A, r1, -⟩ := A
  have ez : z = c.slots.size.toInt32 := Int32.toInt_inj.mp (by rw [len_toInt (by omega), hz, r1])
  subst ez
  exact k.step fun t q => X.arraylength hx (by rw [eT]; exact A.1) (State.isArrayOf_alike hZ.alike A.2.1) (g := mkF m pc Ls (.ref a :: rest)) rfl rfl hd t q
def iF (g : Nat → Int32) : Nat → Value := fun k => .int (g k)
def lF (g : Nat → Int64) : Nat → Value := fun k => .long (g k)
def upd {α : Type} (g : Nat → α) (i : Nat) (v : α) : Nat → α := fun k => if k = i then v else g k
theorem upd_at {α : Type} (g : Nat → α) (i : Nat) (v : α) : upd g i v i = v := by simp [upd]
theorem upd_ne {α : Type} (g : Nat → α) {i k : Nat} (v : α) (q : k ≠ i) : upd g i v k = g k := by simp [upd, q]
theorem put_iF (g : Nat → Int32) (i : Nat) (v : Int32) : put (iF g) i (.int v) = iF (upd g i v) := by funext k; simp only [put, iF, upd]; split <;> rfl
theorem put_lF (g : Nat → Int64) (i : Nat) (v : Int64) : put (lF g) i (.long v) = lF (upd g i v) := by funext k; simp only [put, lF, upd]; split <;> rfl
theorem w_baload (X : Stand p l e R s m args below meth c T locs cells slots) (hx : p.tables.exec = Jvm.exec) (hZ : Z.Warmed39 s.vm) (eT : T.heap = h) {a : Addr} {n : Nat} {g : Nat → Int32} (A : AV Z h a .byte n (iF g)) {j : Int32} {i : Nat} (hj : j.toInt = (i : Int)) (hi : i < n) {z : Int32} (hv : g i = z) (hd : Dc c.code pc .baload 1 pc') (k : Go p e below s Q C S (T.setTop (mkF m pc' Ls (.int z :: rest)))) : Go p e below s Q C S (T.setTop (mkF m pc Ls (.int j :: .ref a :: rest))) := by
  obtain ⟨hd, rfl⟩ := hd
  subst hv
  obtain ⟨h1, cl, A, r1, r2⟩ := A
  obtain ⟨q1, q2⟩ := av_idx hj hi r1
  exact k.step fun t q => X.baloadBytes hx (by rw [eT]; exact A.1) (State.isArrayOf_alike hZ.alike A.2.1) A.2.2 q1 (by rw [q2, r2 i hi]; rfl) (g := mkF m pc Ls (.int j :: .ref a :: rest)) rfl rfl hd t q
theorem w_iaload (X : Stand p l e R s m args below meth c T locs cells slots) (hx : p.tables.exec = Jvm.exec) (hZ : Z.Warmed39 s.vm) (eT : T.heap = h) {a : Addr} {n : Nat} {g : Nat → Int32} (A : AV Z h a .int n (iF g)) {j : Int32} {i : Nat} (hj : j.toInt = (i : Int)) (hi : i < n) {z : Int32} (hv : g i = z) (hd : Dc c.code pc .iaload 1 pc') (k : Go p e below s Q C S (T.setTop (mkF m pc' Ls (.int z :: rest)))) : Go p e below s Q C S (T.setTop (mkF m pc Ls (.int j :: .ref a :: rest))) := by
  obtain ⟨hd, rfl⟩ := hd
  subst hv
  obtain ⟨h1, cl, A, r1, r2⟩ := A
  obtain ⟨q1, q2⟩ := av_idx hj hi r1
  exact k.step fun t q => X.iaload hx (by rw [eT]; exact A.1) (State.isArrayOf_alike hZ.alike A.2.1) A.2.2 q1 (by rw [q2, r2 i hi]; rfl) (g := mkF m pc Ls (.int j :: .ref a :: rest)) rfl rfl hd t q
theorem w_laload (X : Stand p l e R s m args below meth c T locs cells slots) (hx : p.tables.exec = Jvm.exec) (hZ : Z.Warmed39 s.vm) (eT : T.heap = h) {a : Addr} {n : Nat} {g : Nat → Int64} (A : AV Z h a .long n (lF g)) {j : Int32} {i : Nat} (hj : j.toInt = (i : Int)) (hi : i < n) {z : Int64} (hv : g i = z) (hd : Dc c.code pc .laload 1 pc') (k : Go p e below s Q C S (T.setTop (mkF m pc' Ls (.long z :: rest)))) : Go p e below s Q C S (T.setTop (mkF m pc Ls (.int j :: .ref a :: rest))) := by
  obtain ⟨hd, rfl⟩ := hd
  subst hv
  obtain ⟨h1, cl, A, r1, r2⟩ := A
  obtain ⟨q1, q2⟩ := av_idx hj hi r1
  exact k.step fun t q => X.laload hx (by rw [eT]; exact A.1) (State.isArrayOf_alike hZ.alike A.2.1) A.2.2 q1 (by rw [q2, r2 i hi]; rfl) (g := mkF m pc Ls (.int j :: .ref a :: rest)) rfl rfl hd t q
theorem w_zaload (X : Stand p l e R s m args below meth c T locs cells slots) (hx : p.tables.exec = Jvm.exec) (hZ : Z.Warmed39 s.vm) (eT : T.heap = h) {a : Addr} {n : Nat} {g : Nat → Int32} (A : AV Z h a .boolean n (iF g)) {j : Int32} {i : Nat} (hj : j.toInt = (i : Int)) (hi : i < n) {z : Int32} (hv : g i = z) (hd : Dc c.code pc .baload 1 pc') (k : Go p e below s Q C S (T.setTop (mkF m pc' Ls (.int z :: rest)))) : Go p e below s Q C S (T.setTop (mkF m pc Ls (.int j :: .ref a :: rest))) := by
  obtain ⟨hd, rfl⟩ := hd
  subst hv
  obtain ⟨h1, cl, A, r1, r2⟩ := A
  obtain ⟨q1, q2⟩ := av_idx hj hi r1
  exact k.step fun t q => X.baloadBooleans hx (by rw [eT]; exact A.1) (State.isArrayOf_alike hZ.alike A.2.1) A.2.2 q1 (by rw [q2, r2 i hi]; rfl) (g := mkF m pc Ls (.int j :: .ref a :: rest)) rfl rfl hd t q
theorem w_bastore (X : Stand p l e R s m args below meth c T locs cells slots) (hx : p.tables.exec = Jvm.exec) (hZ : Z.Warmed39 s.vm) (eT : T.heap = h) {a : Addr} {n : Nat} {g : Nat → Int32} (A : AV Z h a .byte n (iF g)) {j : Int32} {x : Int32} {i : Nat} (hj : j.toInt = (i : Int)) (hi : i < n) (hd : Dc c.code pc .bastore 1 pc')
    (k : ∀ T' h', Stand p l e R s m args below meth c T' (locs ++ [⟨a, i⟩]) cells slots → T'.heap = h' → Wr h h' a i (.int (x.toInt8.toInt32)) → AV Z h' a .byte n (iF (upd g i (x.toInt8.toInt32))) → Go p e below s Q C S (T'.setTop (mkF m pc' Ls rest))) : Go p e below s Q C S (T.setTop (mkF m pc Ls (.int x :: .int j :: .ref a :: rest))) := by
  obtain ⟨hd, rfl⟩ := hd
  have A' := A
  obtain ⟨h1, cl, A, r1, r2⟩ := A
  obtain ⟨q1, q2⟩ := av_idx hj hi r1
  obtain ⟨T', h', X', e', W, st⟩ := stB X hx hZ eT A (j := j) q1 (g := mkF m pc Ls (.int x :: .int j :: .ref a :: rest)) rfl rfl hd
  rw [q2] at X' W
  exact (k T' h' X' e' W (put_iF g i _ ▸ A'.same hi W)).step st
theorem w_zastore (X : Stand p l e R s m args below meth c T locs cells slots) (hx : p.tables.exec = Jvm.exec) (hZ : Z.Warmed39 s.vm) (eT : T.heap = h) {a : Addr} {n : Nat} {g : Nat → Int32} (A : AV Z h a .boolean n (iF g)) {j : Int32} {x : Int32} {i : Nat} (hj : j.toInt = (i : Int)) (hi : i < n) (hd : Dc c.code pc .bastore 1 pc')
    (k : ∀ T' h', Stand p l e R s m args below meth c T' (locs ++ [⟨a, i⟩]) cells slots → T'.heap = h' → Wr h h' a i (.int (x &&& 1)) → AV Z h' a .boolean n (iF (upd g i (x &&& 1))) → Go p e below s Q C S (T'.setTop (mkF m pc' Ls rest))) : Go p e below s Q C S (T.setTop (mkF m pc Ls (.int x :: .int j :: .ref a :: rest))) := by
  obtain ⟨hd, rfl⟩ := hd
  have A' := A
  obtain ⟨h1, cl, A, r1, r2⟩ := A
  obtain ⟨q1, q2⟩ := av_idx hj hi r1
  obtain ⟨T', h', X', e', W, st⟩ := stZ X hx hZ eT A (j := j) q1 (g := mkF m pc Ls (.int x :: .int j :: .ref a :: rest)) rfl rfl hd
  rw [q2] at X' W
  exact (k T' h' X' e' W (put_iF g i _ ▸ A'.same hi W)).step st
theorem w_iastore (X : Stand p l e R s m args below meth c T locs cells slots) (hx : p.tables.exec = Jvm.exec) (hZ : Z.Warmed39 s.vm) (eT : T.heap = h) {a : Addr} {n : Nat} {g : Nat → Int32} (A : AV Z h a .int n (iF g)) {j : Int32} {x : Int32} {i : Nat} (hj : j.toInt = (i : Int)) (hi : i < n) (hd : Dc c.code pc .iastore 1 pc')
    (k : ∀ T' h', Stand p l e R s m args below meth c T' (locs ++ [⟨a, i⟩]) cells slots → T'.heap = h' → Wr h h' a i (.int (x)) → AV Z h' a .int n (iF (upd g i (x))) → Go p e below s Q C S (T'.setTop (mkF m pc' Ls rest))) : Go p e below s Q C S (T.setTop (mkF m pc Ls (.int x :: .int j :: .ref a :: rest))) := by
  obtain ⟨hd, rfl⟩ := hd
  have A' := A
  obtain ⟨h1, cl, A, r1, r2⟩ := A
  obtain ⟨q1, q2⟩ := av_idx hj hi r1
  obtain ⟨T', h', X', e', W, st⟩ := stI X hx hZ eT A (j := j) q1 (g := mkF m pc Ls (.int x :: .int j :: .ref a :: rest)) rfl rfl hd
  rw [q2] at X' W
  exact (k T' h' X' e' W (put_iF g i _ ▸ A'.same hi W)).step st
theorem w_lastore (X : Stand p l e R s m args below meth c T locs cells slots) (hx : p.tables.exec = Jvm.exec) (hZ : Z.Warmed39 s.vm) (eT : T.heap = h) {a : Addr} {n : Nat} {g : Nat → Int64} (A : AV Z h a .long n (lF g)) {j : Int32} {x : Int64} {i : Nat} (hj : j.toInt = (i : Int)) (hi : i < n) (hd : Dc c.code pc .lastore 1 pc')
    (k : ∀ T' h', Stand p l e R s m args below meth c T' (locs ++ [⟨a, i⟩]) cells slots → T'.heap = h' → Wr h h' a i (.long (x)) → AV Z h' a .long n (lF (upd g i (x))) → Go p e below s Q C S (T'.setTop (mkF m pc' Ls rest))) : Go p e below s Q C S (T.setTop (mkF m pc Ls (.long x :: .int j :: .ref a :: rest))) := by
  obtain ⟨hd, rfl⟩ := hd
  have A' := A
  obtain ⟨h1, cl, A, r1, r2⟩ := A
  obtain ⟨q1, q2⟩ := av_idx hj hi r1
  obtain ⟨T', h', X', e', W, st⟩ := stJ X hx hZ eT A (j := j) q1 (g := mkF m pc Ls (.long x :: .int j :: .ref a :: rest)) rfl rfl hd
  rw [q2] at X' W
  exact (k T' h' X' e' W (put_lF g i _ ▸ A'.same hi W)).step st
end Kit
section Num
/-! numbers: an int's or a long's unsigned worth -/
def u32 (x : Int32) : Nat := x.toBitVec.toNat
def u64 (x : Int64) : Nat := x.toBitVec.toNat
theorem u32_lt (x : Int32) : u32 x < 4294967296 := x.toBitVec.isLt
theorem u64_lt (x : Int64) : u64 x < 18446744073709551616 := x.toBitVec.isLt
theorem i_u32 (x : Int32) : x.toInt = if u32 x < 2147483648 then (u32 x : Int) else (u32 x : Int) - 4294967296 := by
  show x.toBitVec.toInt = _
  rw [BitVec.toInt_eq_toNat_cond]; unfold u32; split <;> split <;> omega
theorem i_u64 (x : Int64) : x.toInt = if u64 x < 9223372036854775808 then (u64 x : Int) else (u64 x : Int) - 18446744073709551616 := by
  show x.toBitVec.toInt = _
  rw [BitVec.toInt_eq_toNat_cond]; unfold u64; split <;> split <;> omega
theorem u32_i (x : Int32) : (u32 x : Int) = x.toInt % 4294967296 := by have := u32_lt x; rw [i_u32]; split <;> omega
theorem u64_i (x : Int64) : (u64 x : Int) = x.toInt % 18446744073709551616 := by have := u64_lt x; rw [i_u64]; split <;> omega
theorem u32_inj {x y : Int32} (q : u32 x = u32 y) : x = y := Int32.toBitVec_inj.mp (BitVec.eq_of_toNat_eq q)
theorem u64_inj {x y : Int64} (q : u64 x = u64 y) : x = y := Int64.toBitVec_inj.mp (BitVec.eq_of_toNat_eq q)
theorem i32_inj {x y : Int32} (q : x.toInt = y.toInt) : x = y := Int32.toInt_inj.mp q
theorem i64_inj {x y : Int64} (q : x.toInt = y.toInt) : x = y := Int64.toInt_inj.mp q
theorem i32_ne {x y : Int32} (q : x ≠ y) : x.toInt ≠ y.toInt := fun e => q (Int32.toInt_inj.mp e)
theorem i64_ne {x y : Int64} (q : x ≠ y) : x.toInt ≠ y.toInt := fun e => q (Int64.toInt_inj.mp e)
theorem i_rng32 (x : Int32) : -2147483648 ≤ x.toInt ∧ x.toInt ≤ 2147483647 := by have := u32_lt x; rw [i_u32]; split <;> omega
theorem i_rng64 (x : Int64) : -9223372036854775808 ≤ x.toInt ∧ x.toInt ≤ 9223372036854775807 := by have := u64_lt x; rw [i_u64]; split <;> omega
theorem u32_and (x m : Int32) {k : Nat} (hm : u32 m = 2 ^ k - 1) : u32 (x &&& m) = u32 x % 2 ^ k := by
  unfold u32 at *; rw [Int32.toBitVec_and, BitVec.toNat_and, hm, Nat.and_two_pow_sub_one_eq_mod]
theorem u64_and (x m : Int64) {k : Nat} (hm : u64 m = 2 ^ k - 1) : u64 (x &&& m) = u64 x % 2 ^ k := by
  unfold u64 at *; rw [Int64.toBitVec_and, BitVec.toNat_and, hm, Nat.and_two_pow_sub_one_eq_mod]
theorem and_or64 (x y z : Int64) : x &&& (y ||| z) = (x &&& y) ||| (x &&& z) := by
  apply Int64.toBitVec_inj.mp
  simp only [Int64.toBitVec_and, Int64.toBitVec_or]
  exact BitVec.and_or_distrib_left
theorem or_add {a b : Nat} (k : Nat) (ha : a % 2 ^ k = 0) (hb : b < 2 ^ k) : a ||| b = a + b := by
  obtain ⟨q, rfl⟩ := Nat.dvd_of_mod_eq_zero ha
  exact (Nat.two_pow_add_eq_or_of_lt hb q).symm
theorem u32_or {x y : Int32} (k : Nat) (ha : u32 x % 2 ^ k = 0) (hb : u32 y < 2 ^ k) : u32 (x ||| y) = u32 x + u32 y := by
  unfold u32 at *; rw [Int32.toBitVec_or, BitVec.toNat_or, or_add k ha hb]
theorem u64_or {x y : Int64} (k : Nat) (ha : u64 x % 2 ^ k = 0) (hb : u64 y < 2 ^ k) : u64 (x ||| y) = u64 x + u64 y := by
  unfold u64 at *; rw [Int64.toBitVec_or, BitVec.toNat_or, or_add k ha hb]
theorem u32_add (x y : Int32) : u32 (x + y) = (u32 x + u32 y) % 4294967296 := by unfold u32; rw [Int32.toBitVec_add, BitVec.toNat_add]
theorem u64_add (x y : Int64) : u64 (x + y) = (u64 x + u64 y) % 18446744073709551616 := by unfold u64; rw [Int64.toBitVec_add, BitVec.toNat_add]
theorem i_ofNat {k : Nat} (hk : k < 2147483648) : (Int32.ofNat k).toInt = (k : Int) := Int32.toInt_ofNat_of_lt (by omega)
theorem of_i {y : Int32} {k : Nat} (q : y.toInt = (k : Int)) : y = Int32.ofNat k := by
  have := i_rng32 y
  exact Int32.toInt_inj.mp (by rw [i_ofNat (by omega)]; exact q)
theorem sh64a : ∀ k : Fin 64, (((Int32.ofNat k.val &&& 0x3f).toInt64).toBitVec.smod 64).toNat = k.val := by decide +kernel
theorem sh64b : ∀ k : Fin 64, ((Int32.ofNat k.val &&& 0x3f).toInt64.toUInt64.toBitVec % 64).toNat = k.val := by decide +kernel
theorem sh32a : ∀ k : Fin 32, ((Int32.ofNat k.val &&& 31).toBitVec.smod 32).toNat = k.val := by decide +kernel
theorem sh32b : ∀ k : Fin 32, ((Int32.ofNat k.val &&& 31).toUInt32.toBitVec % 32).toNat = k.val := by decide +kernel
theorem u_lshl (x : Int64) {y : Int32} {k : Nat} (q : y.toInt = (k : Int)) (hk : k < 64) : u64 (LShl x y) = u64 x * 2 ^ k % 18446744073709551616 := by
  have e := sh64a ⟨k, hk⟩
  rw [of_i q]; unfold u64 LShl
  rw [Int64.toBitVec_shiftLeft, BitVec.shiftLeft_eq', e, BitVec.toNat_shiftLeft, Nat.shiftLeft_eq]
theorem i_lshr (x : Int64) {y : Int32} {k : Nat} (q : y.toInt = (k : Int)) (hk : k < 64) : (LShr x y).toInt = x.toInt / 2 ^ k := by
  have e := sh64a ⟨k, hk⟩
  rw [of_i q]; unfold LShr
  exact Jvm.Kit.i64_shr x _ e
theorem u_lushr (x : Int64) {y : Int32} {k : Nat} (q : y.toInt = (k : Int)) (hk : k < 64) : u64 (LUshr x y) = u64 x / 2 ^ k := by
  have e := sh64b ⟨k, hk⟩
  rw [of_i q]; unfold u64 LUshr
  show (x.toUInt64 >>> (Int32.ofNat k &&& 0x3f).toInt64.toUInt64).toBitVec.toNat = _
  rw [UInt64.toBitVec_shiftRight, BitVec.ushiftRight_eq', e, BitVec.toNat_ushiftRight, Nat.shiftRight_eq_div_pow]; rfl
theorem u_ishl (x : Int32) {y : Int32} {k : Nat} (q : y.toInt = (k : Int)) (hk : k < 32) : u32 (IShl x y) = u32 x * 2 ^ k % 4294967296 := by
  have e := sh32a ⟨k, hk⟩
  rw [of_i q]; unfold u32 IShl
  rw [Int32.toBitVec_shiftLeft, BitVec.shiftLeft_eq', e, BitVec.toNat_shiftLeft, Nat.shiftLeft_eq]
theorem i_ishr (x : Int32) {y : Int32} {k : Nat} (q : y.toInt = (k : Int)) (hk : k < 32) : (IShr x y).toInt = x.toInt / 2 ^ k := by
  have e := sh32a ⟨k, hk⟩
  rw [of_i q]; unfold IShr
  exact Jvm.Kit.i32_shr x _ e
theorem u_iushr (x : Int32) {y : Int32} {k : Nat} (q : y.toInt = (k : Int)) (hk : k < 32) : u32 (IUshr x y) = u32 x / 2 ^ k := by
  have e := sh32b ⟨k, hk⟩
  rw [of_i q]; unfold u32 IUshr
  show (x.toUInt32 >>> (Int32.ofNat k &&& 31).toUInt32).toBitVec.toNat = _
  rw [UInt32.toBitVec_shiftRight, BitVec.ushiftRight_eq', e, BitVec.toNat_ushiftRight, Nat.shiftRight_eq_div_pow]; rfl
theorem i_i2l (x : Int32) : x.toInt64.toInt = x.toInt := Int32.toInt_toInt64 x
theorem u_l2i (x : Int64) : u32 x.toInt32 = u64 x % 4294967296 := by
  have h1 := u32_i x.toInt32; have h2 := u64_i x
  have e : x.toInt.bmod (2 ^ 32) % 4294967296 = x.toInt % 4294967296 := Int.bmod_emod
  rw [Int64.toInt_toInt32, e] at h1
  omega
theorem i_i2b (x : Int32) : x.toInt8.toInt32.toInt = if x.toInt % 256 < 128 then x.toInt % 256 else x.toInt % 256 - 256 := by
  rw [Int8.toInt_toInt32, Int32.toInt_toInt8, Int.bmod_def]; split <;> split <;> omega
theorem u_i2b (x : Int32) : u32 x.toInt8.toInt32 % 256 = u32 x % 256 := by
  have h1 := u32_i x.toInt8.toInt32; have h2 := u32_i x; rw [i_i2b] at h1; split at h1 <;> omega
end Num
theorem d0_0 : Dc code 0 (.iload 4) 2 2 := ⟨at_0, rfl⟩
theorem d0_2 : Dc code 2 (.ldc 7) 2 4 := ⟨at_2, rfl⟩
theorem d0_4 : Dc code 4 (.iand) 1 5 := ⟨at_4, rfl⟩
theorem d0_5 : Dc code 5 (.bipush 10) 2 7 := ⟨at_5, rfl⟩
theorem d0_7 : Dc code 7 (.irem) 1 8 := ⟨at_7, rfl⟩
theorem d0_8 : Dc code 8 (.istore 5) 2 10 := ⟨at_8, rfl⟩
theorem d0_10 : Dc code 10 (.bipush 10) 2 12 := ⟨at_10, rfl⟩
theorem d0_12 : Dc code 12 (.newarray .byte) 2 14 := ⟨at_12, rfl⟩
theorem d0_14 : Dc code 14 (.astore 6) 2 16 := ⟨at_14, rfl⟩
theorem d0_16 : Dc code 16 (.aload 6) 2 18 := ⟨at_16, rfl⟩
theorem d0_18 : Dc code 18 (.iconst 0) 1 19 := ⟨at_18, rfl⟩
theorem d0_19 : Dc code 19 (.lload_n 0) 1 20 := ⟨at_19, rfl⟩
theorem d0_20 : Dc code 20 (.lload_n 2) 1 21 := ⟨at_20, rfl⟩
theorem d0_21 : Dc code 21 (.iconst 0) 1 22 := ⟨at_21, rfl⟩
theorem d0_22 : Dc code 22 (.invokestatic 8) 3 25 := ⟨at_22, rfl⟩
theorem d0_25 : Dc code 25 (.bastore) 1 26 := ⟨at_25, rfl⟩
theorem d0_26 : Dc code 26 (.aload 6) 2 28 := ⟨at_26, rfl⟩
theorem d0_28 : Dc code 28 (.iconst 1) 1 29 := ⟨at_28, rfl⟩
theorem d0_29 : Dc code 29 (.lload_n 0) 1 30 := ⟨at_29, rfl⟩
theorem d0_30 : Dc code 30 (.lload_n 2) 1 31 := ⟨at_30, rfl⟩
theorem d0_31 : Dc code 31 (.iconst 1) 1 32 := ⟨at_31, rfl⟩
theorem d0_32 : Dc code 32 (.invokestatic 8) 3 35 := ⟨at_32, rfl⟩
theorem d0_35 : Dc code 35 (.bastore) 1 36 := ⟨at_35, rfl⟩
theorem d0_36 : Dc code 36 (.aload 6) 2 38 := ⟨at_36, rfl⟩
theorem d0_38 : Dc code 38 (.iconst 2) 1 39 := ⟨at_38, rfl⟩
theorem d0_39 : Dc code 39 (.lload_n 0) 1 40 := ⟨at_39, rfl⟩
theorem d0_40 : Dc code 40 (.lload_n 2) 1 41 := ⟨at_40, rfl⟩
theorem d0_41 : Dc code 41 (.iconst 2) 1 42 := ⟨at_41, rfl⟩
theorem d0_42 : Dc code 42 (.invokestatic 8) 3 45 := ⟨at_42, rfl⟩
theorem d0_45 : Dc code 45 (.bastore) 1 46 := ⟨at_45, rfl⟩
theorem d0_46 : Dc code 46 (.aload 6) 2 48 := ⟨at_46, rfl⟩
theorem d0_48 : Dc code 48 (.iconst 3) 1 49 := ⟨at_48, rfl⟩
theorem d0_49 : Dc code 49 (.lload_n 0) 1 50 := ⟨at_49, rfl⟩
theorem d0_50 : Dc code 50 (.lload_n 2) 1 51 := ⟨at_50, rfl⟩
theorem d0_51 : Dc code 51 (.iconst 3) 1 52 := ⟨at_51, rfl⟩
theorem d0_52 : Dc code 52 (.invokestatic 8) 3 55 := ⟨at_52, rfl⟩
theorem d0_55 : Dc code 55 (.bastore) 1 56 := ⟨at_55, rfl⟩
theorem d0_56 : Dc code 56 (.aload 6) 2 58 := ⟨at_56, rfl⟩
theorem d0_58 : Dc code 58 (.iconst 4) 1 59 := ⟨at_58, rfl⟩
theorem d0_59 : Dc code 59 (.lload_n 0) 1 60 := ⟨at_59, rfl⟩
theorem d0_60 : Dc code 60 (.lload_n 2) 1 61 := ⟨at_60, rfl⟩
theorem d0_61 : Dc code 61 (.iconst 4) 1 62 := ⟨at_61, rfl⟩
theorem d0_62 : Dc code 62 (.invokestatic 8) 3 65 := ⟨at_62, rfl⟩
theorem d0_65 : Dc code 65 (.bastore) 1 66 := ⟨at_65, rfl⟩
theorem d0_66 : Dc code 66 (.aload 6) 2 68 := ⟨at_66, rfl⟩
theorem d0_68 : Dc code 68 (.iconst 5) 1 69 := ⟨at_68, rfl⟩
theorem d0_69 : Dc code 69 (.lload_n 0) 1 70 := ⟨at_69, rfl⟩
theorem d0_70 : Dc code 70 (.lload_n 2) 1 71 := ⟨at_70, rfl⟩
theorem d0_71 : Dc code 71 (.iconst 5) 1 72 := ⟨at_71, rfl⟩
theorem d0_72 : Dc code 72 (.invokestatic 8) 3 75 := ⟨at_72, rfl⟩
theorem d0_75 : Dc code 75 (.bastore) 1 76 := ⟨at_75, rfl⟩
theorem d0_76 : Dc code 76 (.aload 6) 2 78 := ⟨at_76, rfl⟩
theorem d0_78 : Dc code 78 (.bipush 6) 2 80 := ⟨at_78, rfl⟩
theorem d0_80 : Dc code 80 (.lload_n 0) 1 81 := ⟨at_80, rfl⟩
theorem d0_81 : Dc code 81 (.lload_n 2) 1 82 := ⟨at_81, rfl⟩
theorem d0_82 : Dc code 82 (.bipush 6) 2 84 := ⟨at_82, rfl⟩
theorem d0_84 : Dc code 84 (.invokestatic 8) 3 87 := ⟨at_84, rfl⟩
theorem d0_87 : Dc code 87 (.bastore) 1 88 := ⟨at_87, rfl⟩
theorem d0_88 : Dc code 88 (.aload 6) 2 90 := ⟨at_88, rfl⟩
theorem d0_90 : Dc code 90 (.bipush 7) 2 92 := ⟨at_90, rfl⟩
theorem d0_92 : Dc code 92 (.lload_n 0) 1 93 := ⟨at_92, rfl⟩
theorem d0_93 : Dc code 93 (.lload_n 2) 1 94 := ⟨at_93, rfl⟩
theorem d0_94 : Dc code 94 (.bipush 7) 2 96 := ⟨at_94, rfl⟩
theorem d0_96 : Dc code 96 (.invokestatic 8) 3 99 := ⟨at_96, rfl⟩
theorem d0_99 : Dc code 99 (.bastore) 1 100 := ⟨at_99, rfl⟩
theorem d0_100 : Dc code 100 (.aload 6) 2 102 := ⟨at_100, rfl⟩
theorem d0_102 : Dc code 102 (.bipush 8) 2 104 := ⟨at_102, rfl⟩
theorem d0_104 : Dc code 104 (.lload_n 0) 1 105 := ⟨at_104, rfl⟩
theorem d0_105 : Dc code 105 (.lload_n 2) 1 106 := ⟨at_105, rfl⟩
theorem d0_106 : Dc code 106 (.bipush 8) 2 108 := ⟨at_106, rfl⟩
theorem d0_108 : Dc code 108 (.invokestatic 8) 3 111 := ⟨at_108, rfl⟩
theorem d0_111 : Dc code 111 (.bastore) 1 112 := ⟨at_111, rfl⟩
theorem d0_112 : Dc code 112 (.aload 6) 2 114 := ⟨at_112, rfl⟩
theorem d0_114 : Dc code 114 (.bipush 9) 2 116 := ⟨at_114, rfl⟩
theorem d0_116 : Dc code 116 (.lload_n 0) 1 117 := ⟨at_116, rfl⟩
theorem d0_117 : Dc code 117 (.lload_n 2) 1 118 := ⟨at_117, rfl⟩
theorem d0_118 : Dc code 118 (.bipush 9) 2 120 := ⟨at_118, rfl⟩
theorem d0_120 : Dc code 120 (.invokestatic 8) 3 123 := ⟨at_120, rfl⟩
theorem d0_123 : Dc code 123 (.bastore) 1 124 := ⟨at_123, rfl⟩
theorem d0_124 : Dc code 124 (.iload 5) 2 126 := ⟨at_124, rfl⟩
theorem d0_126 : Dc code 126 (.newarray .byte) 2 128 := ⟨at_126, rfl⟩
theorem d0_128 : Dc code 128 (.astore 7) 2 130 := ⟨at_128, rfl⟩
theorem d0_130 : Dc code 130 (.iload 5) 2 132 := ⟨at_130, rfl⟩
theorem d0_132 : Dj code 132 (.ifCond .le 11) 11 143 135 := ⟨at_132, by decide, by decide, rfl⟩
theorem d0_135 : Dc code 135 (.aload 7) 2 137 := ⟨at_135, rfl⟩
theorem d0_137 : Dc code 137 (.iconst 0) 1 138 := ⟨at_137, rfl⟩
theorem d0_138 : Dc code 138 (.aload 6) 2 140 := ⟨at_138, rfl⟩
theorem d0_140 : Dc code 140 (.iconst 0) 1 141 := ⟨at_140, rfl⟩
theorem d0_141 : Dc code 141 (.baload) 1 142 := ⟨at_141, rfl⟩
theorem d0_142 : Dc code 142 (.bastore) 1 143 := ⟨at_142, rfl⟩
theorem d0_143 : Dc code 143 (.iload 5) 2 145 := ⟨at_143, rfl⟩
theorem d0_145 : Dc code 145 (.iconst 1) 1 146 := ⟨at_145, rfl⟩
theorem d0_146 : Dj code 146 (.if_icmp .le 11) 11 157 149 := ⟨at_146, by decide, by decide, rfl⟩
theorem d0_149 : Dc code 149 (.aload 7) 2 151 := ⟨at_149, rfl⟩
theorem d0_151 : Dc code 151 (.iconst 1) 1 152 := ⟨at_151, rfl⟩
theorem d0_152 : Dc code 152 (.aload 6) 2 154 := ⟨at_152, rfl⟩
theorem d0_154 : Dc code 154 (.iconst 1) 1 155 := ⟨at_154, rfl⟩
theorem d0_155 : Dc code 155 (.baload) 1 156 := ⟨at_155, rfl⟩
theorem d0_156 : Dc code 156 (.bastore) 1 157 := ⟨at_156, rfl⟩
theorem d0_157 : Dc code 157 (.iload 5) 2 159 := ⟨at_157, rfl⟩
theorem d0_159 : Dc code 159 (.iconst 2) 1 160 := ⟨at_159, rfl⟩
theorem d0_160 : Dj code 160 (.if_icmp .le 11) 11 171 163 := ⟨at_160, by decide, by decide, rfl⟩
theorem d0_163 : Dc code 163 (.aload 7) 2 165 := ⟨at_163, rfl⟩
theorem d0_165 : Dc code 165 (.iconst 2) 1 166 := ⟨at_165, rfl⟩
theorem d0_166 : Dc code 166 (.aload 6) 2 168 := ⟨at_166, rfl⟩
theorem d0_168 : Dc code 168 (.iconst 2) 1 169 := ⟨at_168, rfl⟩
theorem d0_169 : Dc code 169 (.baload) 1 170 := ⟨at_169, rfl⟩
theorem d0_170 : Dc code 170 (.bastore) 1 171 := ⟨at_170, rfl⟩
theorem d0_171 : Dc code 171 (.iload 5) 2 173 := ⟨at_171, rfl⟩
theorem d0_173 : Dc code 173 (.iconst 3) 1 174 := ⟨at_173, rfl⟩
theorem d0_174 : Dj code 174 (.if_icmp .le 11) 11 185 177 := ⟨at_174, by decide, by decide, rfl⟩
theorem d0_177 : Dc code 177 (.aload 7) 2 179 := ⟨at_177, rfl⟩
theorem d0_179 : Dc code 179 (.iconst 3) 1 180 := ⟨at_179, rfl⟩
theorem d0_180 : Dc code 180 (.aload 6) 2 182 := ⟨at_180, rfl⟩
theorem d0_182 : Dc code 182 (.iconst 3) 1 183 := ⟨at_182, rfl⟩
theorem d0_183 : Dc code 183 (.baload) 1 184 := ⟨at_183, rfl⟩
theorem d0_184 : Dc code 184 (.bastore) 1 185 := ⟨at_184, rfl⟩
theorem d0_185 : Dc code 185 (.iload 5) 2 187 := ⟨at_185, rfl⟩
theorem d0_187 : Dc code 187 (.iconst 4) 1 188 := ⟨at_187, rfl⟩
theorem d0_188 : Dj code 188 (.if_icmp .le 11) 11 199 191 := ⟨at_188, by decide, by decide, rfl⟩
theorem d0_191 : Dc code 191 (.aload 7) 2 193 := ⟨at_191, rfl⟩
theorem d0_193 : Dc code 193 (.iconst 4) 1 194 := ⟨at_193, rfl⟩
theorem d0_194 : Dc code 194 (.aload 6) 2 196 := ⟨at_194, rfl⟩
theorem d0_196 : Dc code 196 (.iconst 4) 1 197 := ⟨at_196, rfl⟩
theorem d0_197 : Dc code 197 (.baload) 1 198 := ⟨at_197, rfl⟩
theorem d0_198 : Dc code 198 (.bastore) 1 199 := ⟨at_198, rfl⟩
theorem d0_199 : Dc code 199 (.iload 5) 2 201 := ⟨at_199, rfl⟩
theorem d0_201 : Dc code 201 (.iconst 5) 1 202 := ⟨at_201, rfl⟩
theorem d0_202 : Dj code 202 (.if_icmp .le 11) 11 213 205 := ⟨at_202, by decide, by decide, rfl⟩
theorem d0_205 : Dc code 205 (.aload 7) 2 207 := ⟨at_205, rfl⟩
theorem d0_207 : Dc code 207 (.iconst 5) 1 208 := ⟨at_207, rfl⟩
theorem d0_208 : Dc code 208 (.aload 6) 2 210 := ⟨at_208, rfl⟩
theorem d0_210 : Dc code 210 (.iconst 5) 1 211 := ⟨at_210, rfl⟩
theorem d0_211 : Dc code 211 (.baload) 1 212 := ⟨at_211, rfl⟩
theorem d0_212 : Dc code 212 (.bastore) 1 213 := ⟨at_212, rfl⟩
theorem d0_213 : Dc code 213 (.iload 5) 2 215 := ⟨at_213, rfl⟩
theorem d0_215 : Dc code 215 (.bipush 6) 2 217 := ⟨at_215, rfl⟩
theorem d0_217 : Dj code 217 (.if_icmp .le 13) 13 230 220 := ⟨at_217, by decide, by decide, rfl⟩
theorem d0_220 : Dc code 220 (.aload 7) 2 222 := ⟨at_220, rfl⟩
theorem d0_222 : Dc code 222 (.bipush 6) 2 224 := ⟨at_222, rfl⟩
theorem d0_224 : Dc code 224 (.aload 6) 2 226 := ⟨at_224, rfl⟩
theorem d0_226 : Dc code 226 (.bipush 6) 2 228 := ⟨at_226, rfl⟩
theorem d0_228 : Dc code 228 (.baload) 1 229 := ⟨at_228, rfl⟩
theorem d0_229 : Dc code 229 (.bastore) 1 230 := ⟨at_229, rfl⟩
theorem d0_230 : Dc code 230 (.iload 5) 2 232 := ⟨at_230, rfl⟩
theorem d0_232 : Dc code 232 (.bipush 7) 2 234 := ⟨at_232, rfl⟩
theorem d0_234 : Dj code 234 (.if_icmp .le 13) 13 247 237 := ⟨at_234, by decide, by decide, rfl⟩
theorem d0_237 : Dc code 237 (.aload 7) 2 239 := ⟨at_237, rfl⟩
theorem d0_239 : Dc code 239 (.bipush 7) 2 241 := ⟨at_239, rfl⟩
theorem d0_241 : Dc code 241 (.aload 6) 2 243 := ⟨at_241, rfl⟩
theorem d0_243 : Dc code 243 (.bipush 7) 2 245 := ⟨at_243, rfl⟩
theorem d0_245 : Dc code 245 (.baload) 1 246 := ⟨at_245, rfl⟩
theorem d0_246 : Dc code 246 (.bastore) 1 247 := ⟨at_246, rfl⟩
theorem d0_247 : Dc code 247 (.iload 5) 2 249 := ⟨at_247, rfl⟩
theorem d0_249 : Dc code 249 (.bipush 8) 2 251 := ⟨at_249, rfl⟩
theorem d0_251 : Dj code 251 (.if_icmp .le 13) 13 264 254 := ⟨at_251, by decide, by decide, rfl⟩
theorem d0_254 : Dc code 254 (.aload 7) 2 256 := ⟨at_254, rfl⟩
theorem d0_256 : Dc code 256 (.bipush 8) 2 258 := ⟨at_256, rfl⟩
theorem d0_258 : Dc code 258 (.aload 6) 2 260 := ⟨at_258, rfl⟩
theorem d0_260 : Dc code 260 (.bipush 8) 2 262 := ⟨at_260, rfl⟩
theorem d0_262 : Dc code 262 (.baload) 1 263 := ⟨at_262, rfl⟩
theorem d0_263 : Dc code 263 (.bastore) 1 264 := ⟨at_263, rfl⟩
theorem d0_264 : Dc code 264 (.aload 7) 2 266 := ⟨at_264, rfl⟩
theorem d0_266 : Dc code 266 (.invokestatic 14) 3 269 := ⟨at_266, rfl⟩
theorem d0_269 : Dc code 269 (.aload 7) 2 271 := ⟨at_269, rfl⟩
theorem d0_271 : Dc code 271 (.arraylength) 1 272 := ⟨at_271, rfl⟩
theorem d0_272 : Dc code 272 (.iload 5) 2 274 := ⟨at_272, rfl⟩
theorem d0_274 : Dj code 274 (.if_icmp .ne 127) 127 401 277 := ⟨at_274, by decide, by decide, rfl⟩
theorem d0_277 : Dc code 277 (.aload 7) 2 279 := ⟨at_277, rfl⟩
theorem d0_279 : Dc code 279 (.aload 6) 2 281 := ⟨at_279, rfl⟩
theorem d0_281 : Dc code 281 (.iload 5) 2 283 := ⟨at_281, rfl⟩
theorem d0_283 : Dc code 283 (.iconst 0) 1 284 := ⟨at_283, rfl⟩
theorem d0_284 : Dc code 284 (.invokestatic 20) 3 287 := ⟨at_284, rfl⟩
theorem d0_287 : Dj code 287 (.ifCond .eq 114) 114 401 290 := ⟨at_287, by decide, by decide, rfl⟩
theorem d0_290 : Dc code 290 (.aload 7) 2 292 := ⟨at_290, rfl⟩
theorem d0_292 : Dc code 292 (.aload 6) 2 294 := ⟨at_292, rfl⟩
theorem d0_294 : Dc code 294 (.iload 5) 2 296 := ⟨at_294, rfl⟩
theorem d0_296 : Dc code 296 (.iconst 1) 1 297 := ⟨at_296, rfl⟩
theorem d0_297 : Dc code 297 (.invokestatic 20) 3 300 := ⟨at_297, rfl⟩
theorem d0_300 : Dj code 300 (.ifCond .eq 101) 101 401 303 := ⟨at_300, by decide, by decide, rfl⟩
theorem d0_303 : Dc code 303 (.aload 7) 2 305 := ⟨at_303, rfl⟩
theorem d0_305 : Dc code 305 (.aload 6) 2 307 := ⟨at_305, rfl⟩
theorem d0_307 : Dc code 307 (.iload 5) 2 309 := ⟨at_307, rfl⟩
theorem d0_309 : Dc code 309 (.iconst 2) 1 310 := ⟨at_309, rfl⟩
theorem d0_310 : Dc code 310 (.invokestatic 20) 3 313 := ⟨at_310, rfl⟩
theorem d0_313 : Dj code 313 (.ifCond .eq 88) 88 401 316 := ⟨at_313, by decide, by decide, rfl⟩
theorem d0_316 : Dc code 316 (.aload 7) 2 318 := ⟨at_316, rfl⟩
theorem d0_318 : Dc code 318 (.aload 6) 2 320 := ⟨at_318, rfl⟩
theorem d0_320 : Dc code 320 (.iload 5) 2 322 := ⟨at_320, rfl⟩
theorem d0_322 : Dc code 322 (.iconst 3) 1 323 := ⟨at_322, rfl⟩
theorem d0_323 : Dc code 323 (.invokestatic 20) 3 326 := ⟨at_323, rfl⟩
theorem d0_326 : Dj code 326 (.ifCond .eq 75) 75 401 329 := ⟨at_326, by decide, by decide, rfl⟩
theorem d0_329 : Dc code 329 (.aload 7) 2 331 := ⟨at_329, rfl⟩
theorem d0_331 : Dc code 331 (.aload 6) 2 333 := ⟨at_331, rfl⟩
theorem d0_333 : Dc code 333 (.iload 5) 2 335 := ⟨at_333, rfl⟩
theorem d0_335 : Dc code 335 (.iconst 4) 1 336 := ⟨at_335, rfl⟩
theorem d0_336 : Dc code 336 (.invokestatic 20) 3 339 := ⟨at_336, rfl⟩
theorem d0_339 : Dj code 339 (.ifCond .eq 62) 62 401 342 := ⟨at_339, by decide, by decide, rfl⟩
theorem d0_342 : Dc code 342 (.aload 7) 2 344 := ⟨at_342, rfl⟩
theorem d0_344 : Dc code 344 (.aload 6) 2 346 := ⟨at_344, rfl⟩
theorem d0_346 : Dc code 346 (.iload 5) 2 348 := ⟨at_346, rfl⟩
theorem d0_348 : Dc code 348 (.iconst 5) 1 349 := ⟨at_348, rfl⟩
theorem d0_349 : Dc code 349 (.invokestatic 20) 3 352 := ⟨at_349, rfl⟩
theorem d0_352 : Dj code 352 (.ifCond .eq 49) 49 401 355 := ⟨at_352, by decide, by decide, rfl⟩
theorem d0_355 : Dc code 355 (.aload 7) 2 357 := ⟨at_355, rfl⟩
theorem d0_357 : Dc code 357 (.aload 6) 2 359 := ⟨at_357, rfl⟩
theorem d0_359 : Dc code 359 (.iload 5) 2 361 := ⟨at_359, rfl⟩
theorem d0_361 : Dc code 361 (.bipush 6) 2 363 := ⟨at_361, rfl⟩
theorem d0_363 : Dc code 363 (.invokestatic 20) 3 366 := ⟨at_363, rfl⟩
theorem d0_366 : Dj code 366 (.ifCond .eq 35) 35 401 369 := ⟨at_366, by decide, by decide, rfl⟩
theorem d0_369 : Dc code 369 (.aload 7) 2 371 := ⟨at_369, rfl⟩
theorem d0_371 : Dc code 371 (.aload 6) 2 373 := ⟨at_371, rfl⟩
theorem d0_373 : Dc code 373 (.iload 5) 2 375 := ⟨at_373, rfl⟩
theorem d0_375 : Dc code 375 (.bipush 7) 2 377 := ⟨at_375, rfl⟩
theorem d0_377 : Dc code 377 (.invokestatic 20) 3 380 := ⟨at_377, rfl⟩
theorem d0_380 : Dj code 380 (.ifCond .eq 21) 21 401 383 := ⟨at_380, by decide, by decide, rfl⟩
theorem d0_383 : Dc code 383 (.aload 7) 2 385 := ⟨at_383, rfl⟩
theorem d0_385 : Dc code 385 (.aload 6) 2 387 := ⟨at_385, rfl⟩
theorem d0_387 : Dc code 387 (.iload 5) 2 389 := ⟨at_387, rfl⟩
theorem d0_389 : Dc code 389 (.bipush 8) 2 391 := ⟨at_389, rfl⟩
theorem d0_391 : Dc code 391 (.invokestatic 20) 3 394 := ⟨at_391, rfl⟩
theorem d0_394 : Dj code 394 (.ifCond .eq 7) 7 401 397 := ⟨at_394, by decide, by decide, rfl⟩
theorem d0_397 : Dc code 397 (.iconst 1) 1 398 := ⟨at_397, rfl⟩
theorem d0_398 : Dj code 398 (.goto 4) 4 402 401 := ⟨at_398, by decide, by decide, rfl⟩
theorem d0_402 : Dc code 402 (.ireturn) 1 403 := ⟨at_402, rfl⟩
theorem pn_0 : plainFor x = true := plainFor_of_name (by first | (simp [plainName, overriddenIn]; done) | decide +kernel)
theorem ef_0 (m : MethodId) (x0 : Int64) (x1 : Int64) (x2 : Int32) : entryFrame m #[(.long x0), (.long x1), (.int x2)] maxLocals = mkF m 0 #[.val (.long x0), .second, .val (.long x1), .second, .val (.int x2), .unset, .unset, .unset] [] := by first | (simp [entryFrame, mkF, argsToLocals, Value.category, maxLocals]; done) | rfl
theorem d1_0 : Dc method_2_code 0 (.iload 4) 2 2 := ⟨by decide +kernel, rfl⟩
theorem d1_2 : Dc method_2_code 2 (.bipush 8) 2 4 := ⟨by decide +kernel, rfl⟩
theorem d1_4 : Dj method_2_code 4 (.if_icmp .ge 13) 13 17 7 := ⟨by decide +kernel, by decide, by decide, rfl⟩
theorem d1_7 : Dc method_2_code 7 (.lload_n 0) 1 8 := ⟨by decide +kernel, rfl⟩
theorem d1_8 : Dc method_2_code 8 (.bipush 8) 2 10 := ⟨by decide +kernel, rfl⟩
theorem d1_10 : Dc method_2_code 10 (.iload 4) 2 12 := ⟨by decide +kernel, rfl⟩
theorem d1_12 : Dc method_2_code 12 (.imul) 1 13 := ⟨by decide +kernel, rfl⟩
theorem d1_13 : Dc method_2_code 13 (.lushr) 1 14 := ⟨by decide +kernel, rfl⟩
theorem d1_14 : Dc method_2_code 14 (.l2i) 1 15 := ⟨by decide +kernel, rfl⟩
theorem d1_15 : Dc method_2_code 15 (.i2b) 1 16 := ⟨by decide +kernel, rfl⟩
theorem d1_16 : Dc method_2_code 16 (.ireturn) 1 17 := ⟨by decide +kernel, rfl⟩
theorem d1_17 : Dc method_2_code 17 (.lload_n 2) 1 18 := ⟨by decide +kernel, rfl⟩
theorem d1_18 : Dc method_2_code 18 (.bipush 8) 2 20 := ⟨by decide +kernel, rfl⟩
theorem d1_20 : Dc method_2_code 20 (.iload 4) 2 22 := ⟨by decide +kernel, rfl⟩
theorem d1_22 : Dc method_2_code 22 (.bipush 8) 2 24 := ⟨by decide +kernel, rfl⟩
theorem d1_24 : Dc method_2_code 24 (.isub) 1 25 := ⟨by decide +kernel, rfl⟩
theorem d1_25 : Dc method_2_code 25 (.imul) 1 26 := ⟨by decide +kernel, rfl⟩
theorem d1_26 : Dc method_2_code 26 (.lushr) 1 27 := ⟨by decide +kernel, rfl⟩
theorem d1_27 : Dc method_2_code 27 (.l2i) 1 28 := ⟨by decide +kernel, rfl⟩
theorem d1_28 : Dc method_2_code 28 (.i2b) 1 29 := ⟨by decide +kernel, rfl⟩
theorem d1_29 : Dc method_2_code 29 (.ireturn) 1 30 := ⟨by decide +kernel, rfl⟩
theorem pn_1 : plainFor (⟨"com/example/bytewright/bytewright/zero/LayoutReversePinLaw", "b", "(JJI)B"⟩ : MethodName) = true := plainFor_of_name (by first | (simp [plainName, overriddenIn]; done) | decide +kernel)
theorem ef_1 (m : MethodId) (x0 : Int64) (x1 : Int64) (x2 : Int32) : entryFrame m #[(.long x0), (.long x1), (.int x2)] 5 = mkF m 0 #[.val (.long x0), .second, .val (.long x1), .second, .val (.int x2)] [] := by first | (simp [entryFrame, mkF, argsToLocals, Value.category]; done) | rfl
theorem d2_0 : Dc prog_64_method_7_code 0 (.iconst 0) 1 1 := ⟨by decide +kernel, rfl⟩
theorem d2_1 : Dc prog_64_method_7_code 1 (.istore_n 1) 1 2 := ⟨by decide +kernel, rfl⟩
theorem d2_2 : Dc prog_64_method_7_code 2 (.iload_n 1) 1 3 := ⟨by decide +kernel, rfl⟩
theorem d2_3 : Dc prog_64_method_7_code 3 (.aload_n 0) 1 4 := ⟨by decide +kernel, rfl⟩
theorem d2_4 : Dc prog_64_method_7_code 4 (.arraylength) 1 5 := ⟨by decide +kernel, rfl⟩
theorem d2_5 : Dc prog_64_method_7_code 5 (.iconst 2) 1 6 := ⟨by decide +kernel, rfl⟩
theorem d2_6 : Dc prog_64_method_7_code 6 (.idiv) 1 7 := ⟨by decide +kernel, rfl⟩
theorem d2_7 : Dj prog_64_method_7_code 7 (.if_icmp .ge 33) 33 40 10 := ⟨by decide +kernel, by decide, by decide, rfl⟩
theorem d2_10 : Dc prog_64_method_7_code 10 (.aload_n 0) 1 11 := ⟨by decide +kernel, rfl⟩
theorem d2_11 : Dc prog_64_method_7_code 11 (.iload_n 1) 1 12 := ⟨by decide +kernel, rfl⟩
theorem d2_12 : Dc prog_64_method_7_code 12 (.baload) 1 13 := ⟨by decide +kernel, rfl⟩
theorem d2_13 : Dc prog_64_method_7_code 13 (.istore_n 2) 1 14 := ⟨by decide +kernel, rfl⟩
theorem d2_14 : Dc prog_64_method_7_code 14 (.aload_n 0) 1 15 := ⟨by decide +kernel, rfl⟩
theorem d2_15 : Dc prog_64_method_7_code 15 (.iload_n 1) 1 16 := ⟨by decide +kernel, rfl⟩
theorem d2_16 : Dc prog_64_method_7_code 16 (.aload_n 0) 1 17 := ⟨by decide +kernel, rfl⟩
theorem d2_17 : Dc prog_64_method_7_code 17 (.aload_n 0) 1 18 := ⟨by decide +kernel, rfl⟩
theorem d2_18 : Dc prog_64_method_7_code 18 (.arraylength) 1 19 := ⟨by decide +kernel, rfl⟩
theorem d2_19 : Dc prog_64_method_7_code 19 (.iconst 1) 1 20 := ⟨by decide +kernel, rfl⟩
theorem d2_20 : Dc prog_64_method_7_code 20 (.isub) 1 21 := ⟨by decide +kernel, rfl⟩
theorem d2_21 : Dc prog_64_method_7_code 21 (.iload_n 1) 1 22 := ⟨by decide +kernel, rfl⟩
theorem d2_22 : Dc prog_64_method_7_code 22 (.isub) 1 23 := ⟨by decide +kernel, rfl⟩
theorem d2_23 : Dc prog_64_method_7_code 23 (.baload) 1 24 := ⟨by decide +kernel, rfl⟩
theorem d2_24 : Dc prog_64_method_7_code 24 (.bastore) 1 25 := ⟨by decide +kernel, rfl⟩
theorem d2_25 : Dc prog_64_method_7_code 25 (.aload_n 0) 1 26 := ⟨by decide +kernel, rfl⟩
theorem d2_26 : Dc prog_64_method_7_code 26 (.aload_n 0) 1 27 := ⟨by decide +kernel, rfl⟩
theorem d2_27 : Dc prog_64_method_7_code 27 (.arraylength) 1 28 := ⟨by decide +kernel, rfl⟩
theorem d2_28 : Dc prog_64_method_7_code 28 (.iconst 1) 1 29 := ⟨by decide +kernel, rfl⟩
theorem d2_29 : Dc prog_64_method_7_code 29 (.isub) 1 30 := ⟨by decide +kernel, rfl⟩
theorem d2_30 : Dc prog_64_method_7_code 30 (.iload_n 1) 1 31 := ⟨by decide +kernel, rfl⟩
theorem d2_31 : Dc prog_64_method_7_code 31 (.isub) 1 32 := ⟨by decide +kernel, rfl⟩
theorem d2_32 : Dc prog_64_method_7_code 32 (.iload_n 2) 1 33 := ⟨by decide +kernel, rfl⟩
theorem d2_33 : Dc prog_64_method_7_code 33 (.bastore) 1 34 := ⟨by decide +kernel, rfl⟩
theorem d2_34 : Dc prog_64_method_7_code 34 (.iinc 1 1) 3 37 := ⟨by decide +kernel, rfl⟩
theorem d2_37 : Dj prog_64_method_7_code 37 (.goto (-35)) (-35) 2 40 := ⟨by decide +kernel, by decide, by decide, rfl⟩
theorem d2_40 : Dc prog_64_method_7_code 40 (.return_) 1 41 := ⟨by decide +kernel, rfl⟩
theorem pn_2 : plainFor (⟨"com/example/bytewright/bytewright/zero/Layout", "reverse", "([B)V"⟩ : MethodName) = true := plainFor_of_name (by first | (simp [plainName, overriddenIn]; done) | decide +kernel)
theorem ef_2 (m : MethodId) (x0 : Addr) : entryFrame m #[(.ref x0)] 3 = mkF m 0 #[.val (.ref x0), .unset, .unset] [] := by first | (simp [entryFrame, mkF, argsToLocals, Value.category]; done) | rfl
theorem d3_0 : Dc method_3_code 0 (.iload_n 3) 1 1 := ⟨by decide +kernel, rfl⟩
theorem d3_1 : Dc method_3_code 1 (.iload_n 2) 1 2 := ⟨by decide +kernel, rfl⟩
theorem d3_2 : Dj method_3_code 2 (.if_icmp .ge 16) 16 18 5 := ⟨by decide +kernel, by decide, by decide, rfl⟩
theorem d3_5 : Dc method_3_code 5 (.aload_n 0) 1 6 := ⟨by decide +kernel, rfl⟩
theorem d3_6 : Dc method_3_code 6 (.iload_n 3) 1 7 := ⟨by decide +kernel, rfl⟩
theorem d3_7 : Dc method_3_code 7 (.baload) 1 8 := ⟨by decide +kernel, rfl⟩
theorem d3_8 : Dc method_3_code 8 (.aload_n 1) 1 9 := ⟨by decide +kernel, rfl⟩
theorem d3_9 : Dc method_3_code 9 (.iload_n 2) 1 10 := ⟨by decide +kernel, rfl⟩
theorem d3_10 : Dc method_3_code 10 (.iconst 1) 1 11 := ⟨by decide +kernel, rfl⟩
theorem d3_11 : Dc method_3_code 11 (.isub) 1 12 := ⟨by decide +kernel, rfl⟩
theorem d3_12 : Dc method_3_code 12 (.iload_n 3) 1 13 := ⟨by decide +kernel, rfl⟩
theorem d3_13 : Dc method_3_code 13 (.isub) 1 14 := ⟨by decide +kernel, rfl⟩
theorem d3_14 : Dc method_3_code 14 (.baload) 1 15 := ⟨by decide +kernel, rfl⟩
theorem d3_15 : Dj method_3_code 15 (.if_icmp .ne 7) 7 22 18 := ⟨by decide +kernel, by decide, by decide, rfl⟩
theorem d3_18 : Dc method_3_code 18 (.iconst 1) 1 19 := ⟨by decide +kernel, rfl⟩
theorem d3_19 : Dj method_3_code 19 (.goto 4) 4 23 22 := ⟨by decide +kernel, by decide, by decide, rfl⟩
theorem d3_23 : Dc method_3_code 23 (.ireturn) 1 24 := ⟨by decide +kernel, rfl⟩
theorem pn_3 : plainFor (⟨"com/example/bytewright/bytewright/zero/LayoutReversePinLaw", "at", "([B[BII)Z"⟩ : MethodName) = true := plainFor_of_name (by first | (simp [plainName, overriddenIn]; done) | decide +kernel)
theorem ef_3 (m : MethodId) (x0 : Addr) (x1 : Addr) (x2 : Int32) (x3 : Int32) : entryFrame m #[(.ref x0), (.ref x1), (.int x2), (.int x3)] 4 = mkF m 0 #[.val (.ref x0), .val (.ref x1), .val (.int x2), .val (.int x3)] [] := by first | (simp [entryFrame, mkF, argsToLocals, Value.category]; done) | rfl
theorem pd_0 : parseMethodDescriptor "(JJI)B" = some ⟨[.long, .long, .int], some .byte⟩ := by decide +kernel
theorem pd_1 : parseMethodDescriptor "([B)V" = some ⟨[(.array .byte)], none⟩ := by decide +kernel
theorem pd_2 : parseMethodDescriptor "([B[BII)Z" = some ⟨[(.array .byte), (.array .byte), .int, .int], some .boolean⟩ := by decide +kernel

theorem i2b_i2b (x : Int32) : x.toInt8.toInt32.toInt8.toInt32 = x.toInt8.toInt32 := i32_inj (by
  have h1 := i_i2b x.toInt8.toInt32; have h2 := i_i2b x
  rw [h1]; split at h2 <;> split <;> omega)
def bv (p q : Int64) (i : Int32) : Int32 := if i.toInt < 8 then (LUshr p (8 * i)).toInt32.toInt8.toInt32 else (LUshr q (8 * (i - 8))).toInt32.toInt8.toInt32
/-- i turns of reverse are made -/
def Rv (n i : Nat) (g f : Nat → Int32) : Prop := ∀ j, j < n → f j = if j < i ∨ n - i ≤ j then g (n - 1 - j) else g j
theorem Rv.step {n i : Nat} {g f : Nat → Int32} (q : Rv n i g f) (hb : ∀ j, j < n → (g j).toInt8.toInt32 = g j) (hi : 2 * i + 2 ≤ n) : Rv n (i + 1) g (upd (upd f i (f (n - 1 - i)).toInt8.toInt32) (n - 1 - i) (f i).toInt8.toInt32) := by
  intro j hj
  have e1 := q i (by omega); rw [if_neg (by omega)] at e1
  have e2 := q (n - 1 - i) (by omega); rw [if_neg (by omega)] at e2
  by_cases h1 : j = n - 1 - i
  · subst h1; rw [upd_at, e1, hb i (by omega), if_pos (by omega)]; congr 1; omega
  · rw [upd_ne _ _ h1]
    by_cases h2 : j = i
    · subst h2; rw [upd_at, e2, hb _ (by omega), if_pos (by omega)]
    · rw [upd_ne _ _ h2, q j hj]
      by_cases h3 : j < i ∨ n - i ≤ j
      · rw [if_pos h3, if_pos (by omega)]
      · rw [if_neg h3, if_neg (by omega)]
theorem Rv.end {n i : Nat} {g f : Nat → Int32} (q : Rv n i g f) (hi : n / 2 ≤ i) (h2 : 2 * i ≤ n) : ∀ j, j < n → f j = g (n - 1 - j) := fun j hj => by
  rw [q j hj]
  by_cases h : j < i ∨ n - i ≤ j
  · rw [if_pos h]
  · rw [if_neg h]; congr 1; omega
def Byt (g : Nat → Int32) : Prop := ∀ j, (g j).toInt8.toInt32 = g j
theorem byt0 : Byt (fun _ => (0 : Int32)) := fun _ => rfl
theorem byt_upd {g : Nat → Int32} (h : Byt g) (i : Nat) (v : Int32) : Byt (upd g i v.toInt8.toInt32) := fun j => by
  by_cases q : j = i
  · subst q; rw [upd_at]; exact i2b_i2b v
  · rw [upd_ne _ _ q]; exact h j
def Agr (k : Nat) (f g : Nat → Int32) : Prop := ∀ i, i < k → f i = g i
theorem agr_upd {k : Nat} {f g : Nat → Int32} (h : Agr k f g) (b : Byt g) : Agr (k + 1) (upd f k (g k).toInt8.toInt32) g := fun i hi => by
  by_cases q : i = k
  · subst q; rw [upd_at]; exact b i
  · rw [upd_ne _ _ q]; exact h i (by omega)

set_option maxRecDepth 65536 in
set_option maxHeartbeats 40000000 in
theorem ct1 (l : Launch) (Z : State) (a0 : Array Value) (hw : ∀ d ∈ tables_1, d.before a0 Z = true) (x0 : Int64) (x1 : Int64) (x2 : Int32) (h0 : Heap)  :
    Ct l Z (⟨"com/example/bytewright/bytewright/zero/LayoutReversePinLaw", "b", "(JJI)B"⟩ : MethodName) method_2_code 5 (some .byte) ({ frames := 0, cells := 0, slots := 0, locals := 0 } : Room) #[(.long x0), (.long x1), (.int x2)] h0 (fun v h' L => v = some (.int (bv x0 x1 x2)) ∧ h' = h0 ∧ L = []) := by
  refine Ct.body pn_1 ?_
  intro p e s m below meth c T X hx hby hml hown hnm hret hlk hZ eT
  rw [ef_1]

  refine w_iload X hx (dq hby d1_0) rfl ?_
  refine w_bipush X hx (dq hby d1_2) (z := 8) rfl ?_
  refine w_icmp_ge X hx (dj hby d1_4) (fun hc4 => ?_) (fun hc4 => ?_)
  · refine w_lloadN X hx (dq hby d1_17) rfl ?_
    refine w_bipush X hx (dq hby d1_18) (z := 8) rfl ?_
    refine w_iload X hx (dq hby d1_20) rfl ?_
    refine w_bipush X hx (dq hby d1_22) (z := 8) rfl ?_
    refine w_isub X hx (dq hby d1_24) ?_
    refine w_imul X hx (dq hby d1_25) ?_
    refine w_lushr X hx (dq hby d1_26) ?_
    refine w_l2i X hx (dq hby d1_27) ?_
    refine w_i2b X hx (dq hby d1_28) ?_
    refine w_retN X hx hret (by simp) hlk (dq hby d1_29) (by decide) (by decide) ?_
    have l8 : (8 : Int32).toInt = 8 := rfl
    exact ⟨by rw [bv, if_neg (by omega)]; exact congrArg (fun z => some (Value.int z)) (i2b_i2b _), eT, rfl⟩
  · refine w_lloadN X hx (dq hby d1_7) rfl ?_
    refine w_bipush X hx (dq hby d1_8) (z := 8) rfl ?_
    refine w_iload X hx (dq hby d1_10) rfl ?_
    refine w_imul X hx (dq hby d1_12) ?_
    refine w_lushr X hx (dq hby d1_13) ?_
    refine w_l2i X hx (dq hby d1_14) ?_
    refine w_i2b X hx (dq hby d1_15) ?_
    refine w_retN X hx hret (by simp) hlk (dq hby d1_16) (by decide) (by decide) ?_
    have l8 : (8 : Int32).toInt = 8 := rfl
    exact ⟨by rw [bv, if_pos (by omega)]; exact congrArg (fun z => some (Value.int z)) (i2b_i2b _), eT, rfl⟩
set_option maxRecDepth 65536 in
set_option maxHeartbeats 40000000 in
theorem lp (l : Launch) (Z : State) (a0 : Array Value) (hw : ∀ d ∈ tables_1, d.before a0 Z = true) (x0 : Addr) (n0 n : Nat) (nn : Int32) (g : Nat → Int32) (h0 : Heap) {p : Program} {e : Env} {R : Room} {s : State} {m : MethodId} {args : Array Value} {below : List Frame} {meth : Method} {c : Code} (hx : p.tables.exec = Jvm.exec) (hZ : Z.Warmed39 s.vm) (hby : c.code = prog_64_method_7_code) (hml : c.maxLocals = 3) (hown : s.vm.findClass "com/example/bytewright/bytewright/zero/Layout" = some m.cls) (hret : meth.sig.returnType = none) (hlk : meth.locks = false) (hn : nn.toInt = (n : Int)) (hb : ∀ j, j < n → (g j).toInt8.toInt32 = g j) (g_x0 : n0 ≤ x0) :
    ∀ (k i : Nat), i + k = n / 2 → ∀ (T : State) (locs : List Loc) (h : Heap) (v1 : Int32) (s2 : Slot) (f : Nat → Int32), (s2 = .unset ∨ ∃ z : Int32, s2 = .val (.int z)) → v1.toInt = (i : Int) → Stand p l e R s m args below meth c T locs 0 0 → T.heap = h → n0 ≤ h.size → Fr n0 locs → Keep h0 h [x0] → AV Z h x0 .byte n (iF f) → Rv n i g f →
      Go p e below s (fun v h' L => v = none ∧ Fr n0 L ∧ Keep h0 h' [x0] ∧ ∃ f : Nat → Int32, AV Z h' x0 .byte n (iF f) ∧ ∀ j, j < n → f j = g (n - 1 - j)) 0 0 (T.setTop (mkF m 2 #[.val (.ref x0), .val (.int v1), s2] [])) := by
  intro k
  induction k with
  | zero =>
    intro i hi T locs h v1 s2 f hs2 hv1 X eT Z0 N K A hR
    have hn2 := A.1
    have l2 : (2 : Int32).toInt = 2 := rfl
    have l1 : (1 : Int32).toInt = 1 := rfl
    have d2 : (nn / 2).toInt = ((n / 2 : Nat) : Int) := by rw [Jvm.Kit.i32_div (by rw [l2]; omega), l2, Int.tdiv_eq_ediv_of_nonneg (by omega), hn]; omega
    refine w_iloadN X hx (dq hby d2_2) rfl ?_
    refine w_aloadN X hx (dq hby d2_3) rfl rfl ?_
    refine w_arrlen X hx hZ eT A (z := nn) (hn) (dq hby d2_4) ?_
    refine w_iconst X hx (dq hby d2_5) (z := 2) rfl ?_
    refine w_idiv X hx (dq hby d2_6) (by decide) ?_
    refine w_icmp_ge X hx (dj hby d2_7) (fun hc7 => ?_) (fun hc7 => (?_ : False).elim)
    rotate_left
    · omega
    refine w_ret X hx hret hlk (dq hby d2_40) (by decide) (by decide) ?_
    rw [eT]
    exact ⟨rfl, N, K, f, A, hR.end (by omega) (by omega)⟩
  | succ k ih =>
    intro i hi T locs h v1 s2 f hs2 hv1 X eT Z0 N K A hR
    have hn2 := A.1
    have l2 : (2 : Int32).toInt = 2 := rfl
    have l1 : (1 : Int32).toInt = 1 := rfl
    have d2 : (nn / 2).toInt = ((n / 2 : Nat) : Int) := by rw [Jvm.Kit.i32_div (by rw [l2]; omega), l2, Int.tdiv_eq_ediv_of_nonneg (by omega), hn]; omega
    have s1 : (nn - 1 - v1).toInt = ((n - 1 - i : Nat) : Int) := by
      have a1 : (nn - 1).toInt = nn.toInt - 1 := by rw [Jvm.Kit.i32_sub] <;> rw [l1] <;> omega
      rw [Jvm.Kit.i32_sub] <;> rw [a1] <;> omega
    rcases hs2 with h2 | h2
    · subst h2
      refine w_iloadN X hx (dq hby d2_2) rfl ?_
      refine w_aloadN X hx (dq hby d2_3) rfl rfl ?_
      refine w_arrlen X hx hZ eT A (z := nn) (hn) (dq hby d2_4) ?_
      refine w_iconst X hx (dq hby d2_5) (z := 2) rfl ?_
      refine w_idiv X hx (dq hby d2_6) (by decide) ?_
      refine w_icmp_ge X hx (dj hby d2_7) (fun hc7 => (?_ : False).elim) (fun hc7 => ?_)
      · omega
      refine w_aloadN X hx (dq hby d2_10) rfl rfl ?_
      refine w_iloadN X hx (dq hby d2_11) rfl ?_
      refine w_baload X hx hZ eT A (i := i) (hv1) (by omega) (z := (f i)) (rfl) (dq hby d2_12) ?_
      obtain ⟨v2_13, hv2_13⟩ : ∃ z : Int32, z = (f i) := ⟨_, rfl⟩
      refine w_istoreN X hx (dq hby d2_13) (z := v2_13) hv2_13 (Ls' := #[.val (.ref x0), .val (.int v1), .val (.int v2_13)]) rfl ?_
      refine w_aloadN X hx (dq hby d2_14) rfl rfl ?_
      refine w_iloadN X hx (dq hby d2_15) rfl ?_
      refine w_aloadN X hx (dq hby d2_16) rfl rfl ?_
      refine w_aloadN X hx (dq hby d2_17) rfl rfl ?_
      refine w_arrlen X hx hZ eT A (z := nn) (hn) (dq hby d2_18) ?_
      refine w_iconst X hx (dq hby d2_19) (z := 1) rfl ?_
      refine w_isub X hx (dq hby d2_20) ?_
      refine w_iloadN X hx (dq hby d2_21) rfl ?_
      refine w_isub X hx (dq hby d2_22) ?_
      refine w_baload X hx hZ eT A (i := (n - 1 - i)) (s1) (by omega) (z := (f (n - 1 - i))) (rfl) (dq hby d2_23) ?_
      refine w_bastore X hx hZ eT A (i := i) (hv1) (by omega) (dq hby d2_24) fun T h1 X eT W A' => ?_
      replace Z0 := Nat.le_trans Z0 (Nat.le_of_eq W.size.symm)
      replace K := K.wr W (Or.inl (List.mem_singleton.mpr rfl))
      replace N := Fr.snoc X N g_x0
      replace A := A'
      obtain ⟨g2_24, hg2_24⟩ : ∃ gg, gg = (upd f i (((f (n - 1 - i))).toInt8.toInt32)) := ⟨_, rfl⟩
      rw [← hg2_24] at A
      refine w_aloadN X hx (dq hby d2_25) rfl rfl ?_
      refine w_aloadN X hx (dq hby d2_26) rfl rfl ?_
      refine w_arrlen X hx hZ eT A (z := nn) (hn) (dq hby d2_27) ?_
      refine w_iconst X hx (dq hby d2_28) (z := 1) rfl ?_
      refine w_isub X hx (dq hby d2_29) ?_
      refine w_iloadN X hx (dq hby d2_30) rfl ?_
      refine w_isub X hx (dq hby d2_31) ?_
      refine w_iloadN X hx (dq hby d2_32) rfl ?_
      refine w_bastore X hx hZ eT A (i := (n - 1 - i)) (s1) (by omega) (dq hby d2_33) fun T h2 X eT W A' => ?_
      replace Z0 := Nat.le_trans Z0 (Nat.le_of_eq W.size.symm)
      replace K := K.wr W (Or.inl (List.mem_singleton.mpr rfl))
      replace N := Fr.snoc X N g_x0
      replace A := A'
      obtain ⟨g2_33, hg2_33⟩ : ∃ gg, gg = (upd g2_24 (n - 1 - i) ((v2_13).toInt8.toInt32)) := ⟨_, rfl⟩
      rw [← hg2_33] at A
      obtain ⟨v1_34, hv1_34⟩ : ∃ z : Int32, z = v1 + (1 : Int32) := ⟨_, rfl⟩
      refine w_iinc X hx (dq hby d2_34) rfl hv1_34.symm (Ls' := #[.val (.ref x0), .val (.int v1_34), .val (.int v2_13)]) rfl ?_
      refine w_goto X hx (dj hby d2_37) ?_
      have q1 : v1_34.toInt = ((i + 1 : Nat) : Int) := by rw [hv1_34, Jvm.Kit.i32_add] <;> rw [l1] <;> omega
      exact ih (i + 1) (by omega) T _ h2 v1_34 _ g2_33 (Or.inr ⟨_, rfl⟩) q1 X eT Z0 N K A (by rw [hg2_33, hg2_24, hv2_13]; exact hR.step hb (by omega))
    · obtain ⟨z2, rfl⟩ := h2
      refine w_iloadN X hx (dq hby d2_2) rfl ?_
      refine w_aloadN X hx (dq hby d2_3) rfl rfl ?_
      refine w_arrlen X hx hZ eT A (z := nn) (hn) (dq hby d2_4) ?_
      refine w_iconst X hx (dq hby d2_5) (z := 2) rfl ?_
      refine w_idiv X hx (dq hby d2_6) (by decide) ?_
      refine w_icmp_ge X hx (dj hby d2_7) (fun hc7 => (?_ : False).elim) (fun hc7 => ?_)
      · omega
      refine w_aloadN X hx (dq hby d2_10) rfl rfl ?_
      refine w_iloadN X hx (dq hby d2_11) rfl ?_
      refine w_baload X hx hZ eT A (i := i) (hv1) (by omega) (z := (f i)) (rfl) (dq hby d2_12) ?_
      obtain ⟨v2_13, hv2_13⟩ : ∃ z : Int32, z = (f i) := ⟨_, rfl⟩
      refine w_istoreN X hx (dq hby d2_13) (z := v2_13) hv2_13 (Ls' := #[.val (.ref x0), .val (.int v1), .val (.int v2_13)]) rfl ?_
      refine w_aloadN X hx (dq hby d2_14) rfl rfl ?_
      refine w_iloadN X hx (dq hby d2_15) rfl ?_
      refine w_aloadN X hx (dq hby d2_16) rfl rfl ?_
      refine w_aloadN X hx (dq hby d2_17) rfl rfl ?_
      refine w_arrlen X hx hZ eT A (z := nn) (hn) (dq hby d2_18) ?_
      refine w_iconst X hx (dq hby d2_19) (z := 1) rfl ?_
      refine w_isub X hx (dq hby d2_20) ?_
      refine w_iloadN X hx (dq hby d2_21) rfl ?_
      refine w_isub X hx (dq hby d2_22) ?_
      refine w_baload X hx hZ eT A (i := (n - 1 - i)) (s1) (by omega) (z := (f (n - 1 - i))) (rfl) (dq hby d2_23) ?_
      refine w_bastore X hx hZ eT A (i := i) (hv1) (by omega) (dq hby d2_24) fun T h1 X eT W A' => ?_
      replace Z0 := Nat.le_trans Z0 (Nat.le_of_eq W.size.symm)
      replace K := K.wr W (Or.inl (List.mem_singleton.mpr rfl))
      replace N := Fr.snoc X N g_x0
      replace A := A'
      obtain ⟨g2_24, hg2_24⟩ : ∃ gg, gg = (upd f i (((f (n - 1 - i))).toInt8.toInt32)) := ⟨_, rfl⟩
      rw [← hg2_24] at A
      refine w_aloadN X hx (dq hby d2_25) rfl rfl ?_
      refine w_aloadN X hx (dq hby d2_26) rfl rfl ?_
      refine w_arrlen X hx hZ eT A (z := nn) (hn) (dq hby d2_27) ?_
      refine w_iconst X hx (dq hby d2_28) (z := 1) rfl ?_
      refine w_isub X hx (dq hby d2_29) ?_
      refine w_iloadN X hx (dq hby d2_30) rfl ?_
      refine w_isub X hx (dq hby d2_31) ?_
      refine w_iloadN X hx (dq hby d2_32) rfl ?_
      refine w_bastore X hx hZ eT A (i := (n - 1 - i)) (s1) (by omega) (dq hby d2_33) fun T h2 X eT W A' => ?_
      replace Z0 := Nat.le_trans Z0 (Nat.le_of_eq W.size.symm)
      replace K := K.wr W (Or.inl (List.mem_singleton.mpr rfl))
      replace N := Fr.snoc X N g_x0
      replace A := A'
      obtain ⟨g2_33, hg2_33⟩ : ∃ gg, gg = (upd g2_24 (n - 1 - i) ((v2_13).toInt8.toInt32)) := ⟨_, rfl⟩
      rw [← hg2_33] at A
      obtain ⟨v1_34, hv1_34⟩ : ∃ z : Int32, z = v1 + (1 : Int32) := ⟨_, rfl⟩
      refine w_iinc X hx (dq hby d2_34) rfl hv1_34.symm (Ls' := #[.val (.ref x0), .val (.int v1_34), .val (.int v2_13)]) rfl ?_
      refine w_goto X hx (dj hby d2_37) ?_
      have q1 : v1_34.toInt = ((i + 1 : Nat) : Int) := by rw [hv1_34, Jvm.Kit.i32_add] <;> rw [l1] <;> omega
      exact ih (i + 1) (by omega) T _ h2 v1_34 _ g2_33 (Or.inr ⟨_, rfl⟩) q1 X eT Z0 N K A (by rw [hg2_33, hg2_24, hv2_13]; exact hR.step hb (by omega))
set_option maxRecDepth 65536 in
set_option maxHeartbeats 40000000 in
theorem ct2 (l : Launch) (Z : State) (a0 : Array Value) (hw : ∀ d ∈ tables_1, d.before a0 Z = true) (x0 : Addr) (n0 n : Nat) (nn : Int32) (g : Nat → Int32) (h0 : Heap) (Z0 : n0 ≤ h0.size) (g_x0 : n0 ≤ x0) (A : AV Z h0 x0 .byte n (iF g)) (hn : nn.toInt = (n : Int)) (hb : ∀ j, j < n → (g j).toInt8.toInt32 = g j) :
    Ct l Z (⟨"com/example/bytewright/bytewright/zero/Layout", "reverse", "([B)V"⟩ : MethodName) prog_64_method_7_code 3 none ({ frames := 0, cells := 0, slots := 0, locals := 0 } : Room) #[(.ref x0)] h0 (fun v h' L => v = none ∧ Fr n0 L ∧ Keep h0 h' [x0] ∧ ∃ f : Nat → Int32, AV Z h' x0 .byte n (iF f) ∧ ∀ j, j < n → f j = g (n - 1 - j)) := by
  refine Ct.body pn_2 ?_
  intro p e s m below meth c T X hx hby hml hown hnm hret hlk hZ eT
  rw [ef_2]
  have N := Fr.nil n0
  have K := Keep.refl h0 [x0]
  refine w_iconst X hx (dq hby d2_0) (z := 0) rfl ?_
  refine w_istoreN X hx (dq hby d2_1) (z := (0 : Int32)) rfl (Ls' := #[.val (.ref x0), .val (.int (0 : Int32)), .unset]) rfl ?_
  exact lp l Z a0 hw x0 n0 n nn g h0 hx hZ hby hml hown hret hlk hn hb g_x0 (n / 2) 0 (by omega) T _ h0 0 _ g (Or.inl rfl) rfl X eT Z0 N K A (fun j hj => by rw [if_neg (by omega)])
set_option maxRecDepth 65536 in
set_option maxHeartbeats 40000000 in
theorem ct3 (l : Launch) (Z : State) (a0 : Array Value) (hw : ∀ d ∈ tables_1, d.before a0 Z = true) (x0 x1 : Addr) (x2 x3 : Int32) (n i : Nat) (f g : Nat → Int32) (h0 : Heap) (A : AV Z h0 x0 .byte n (iF f)) (B : AV Z h0 x1 .byte 10 (iF g)) (hn : x2.toInt = (n : Int)) (hn2 : n ≤ 9) (hi : x3.toInt = (i : Int)) (hg : i < n → f i = g (n - 1 - i)) :
    Ct l Z (⟨"com/example/bytewright/bytewright/zero/LayoutReversePinLaw", "at", "([B[BII)Z"⟩ : MethodName) method_3_code 4 (some .boolean) ({ frames := 0, cells := 0, slots := 0, locals := 0 } : Room) #[(.ref x0), (.ref x1), (.int x2), (.int x3)] h0 (fun v h' L => v = some (.int 1) ∧ h' = h0 ∧ L = []) := by
  refine Ct.body pn_3 ?_
  intro p e s m below meth c T X hx hby hml hown hnm hret hlk hZ eT
  rw [ef_3]
  have l1 : (1 : Int32).toInt = 1 := rfl
  have s1 : i < n → (x2 - 1 - x3).toInt = ((n - 1 - i : Nat) : Int) := fun q => by
    have a1 : (x2 - 1).toInt = x2.toInt - 1 := by rw [Jvm.Kit.i32_sub] <;> rw [l1] <;> omega
    rw [Jvm.Kit.i32_sub] <;> rw [a1] <;> omega
  refine w_iloadN X hx (dq hby d3_0) rfl ?_
  refine w_iloadN X hx (dq hby d3_1) rfl ?_
  refine w_icmp_ge X hx (dj hby d3_2) (fun hc2 => ?_) (fun hc2 => ?_)
  · refine w_iconst X hx (dq hby d3_18) (z := 1) rfl ?_
    refine w_goto X hx (dj hby d3_19) ?_
    refine w_retN X hx hret (by simp) hlk (dq hby d3_23) (by decide) (by decide) ?_
    exact ⟨rfl, eT, rfl⟩
  · refine w_aloadN X hx (dq hby d3_5) rfl rfl ?_
    refine w_iloadN X hx (dq hby d3_6) rfl ?_
    refine w_baload X hx hZ eT A (i := i) (hi) (by omega) (z := (f i)) (rfl) (dq hby d3_7) ?_
    refine w_aloadN X hx (dq hby d3_8) rfl rfl ?_
    refine w_iloadN X hx (dq hby d3_9) rfl ?_
    refine w_iconst X hx (dq hby d3_10) (z := 1) rfl ?_
    refine w_isub X hx (dq hby d3_11) ?_
    refine w_iloadN X hx (dq hby d3_12) rfl ?_
    refine w_isub X hx (dq hby d3_13) ?_
    refine w_baload X hx hZ eT B (i := (n - 1 - i)) (s1 (by omega)) (by omega) (z := (g (n - 1 - i))) (rfl) (dq hby d3_14) ?_
    refine w_icmp_ne X hx (dj hby d3_15) (fun hc15 => (?_ : False).elim) (fun hc15 => ?_)
    · exact hc15 (hg (by omega))
    refine w_iconst X hx (dq hby d3_18) (z := 1) rfl ?_
    refine w_goto X hx (dj hby d3_19) ?_
    refine w_retN X hx hret (by simp) hlk (dq hby d3_23) (by decide) (by decide) ?_
    exact ⟨rfl, eT, rfl⟩
def Q0 (n0 : Nat) (v : Option Value) (h : Heap) (L : List Loc) : Prop := v = some (.int (1 : Int32)) ∧ Fr n0 L
set_option maxRecDepth 65536 in
set_option maxHeartbeats 40000000 in
theorem rm0 (l : Launch) (Z : State) (a0 : Array Value) (hw : ∀ d ∈ tables_1, d.before a0 Z = true) (ws : List Jvm.Cond) (i0 : Int64) (i1 : Int64) (i2 : Int32) (h0 : Heap) (n0 : Nat) (Z0 : n0 ≤ h0.size) :
    MetFree l x (head1 (Jvm.Cond.code x code maxLocals ret :: ws) room_1) (fun a U => a = #[(.long i0), (.long i1), (.int i2)] ∧ Z.Warmed39 U.vm ∧ U.heap = h0) (fun _ _ _ _ _ => True) (fun _ U o U' => ∃ v L, o = .returned v ∧ Q0 n0 v U'.heap L ∧ FrameEnd U o U' L 16 128) := by
  refine w_body pn_0 ?_
  intro p e s m below meth c T X hx hby hml hown hnm hret hlk hZ eT
  rw [ef_0]
  have N := Fr.nil n0
  refine w_iload X hx (dq hby d0_0) rfl ?_
  refine w_ldc X hx hZ hown (hw _ (List.mem_of_getElem? (i := 0) rfl)) (dq hby d0_2) ?_
  refine w_iand X hx (dq hby d0_4) ?_
  refine w_bipush X hx (dq hby d0_5) (z := 10) rfl ?_
  refine w_irem X hx (dq hby d0_7) (by decide) ?_
  obtain ⟨v5_8, hv5_8⟩ : ∃ z : Int32, z = ((i2 &&& (2147483647 : Int32)) % (10 : Int32)) := ⟨_, rfl⟩
  refine w_istore X hx (dq hby d0_8) (z := v5_8) hv5_8 (Ls' := #[.val (.long i0), .second, .val (.long i1), .second, .val (.int i2), .val (.int v5_8), .unset, .unset]) rfl ?_
  have m31 : (i2 &&& 2147483647).toInt = i2.toInt % 2 ^ 31 := Jvm.Kit.i32_mask i2 2147483647 (by decide) (by decide)
  have l10 : (10 : Int32).toInt = 10 := rfl
  have r5 : v5_8.toInt = i2.toInt % 2 ^ 31 % 10 := by rw [hv5_8, Jvm.Kit.i32_rem_nonneg (by omega), m31, l10]
  obtain ⟨n, hn0⟩ : ∃ n : Nat, n = v5_8.toInt.toNat := ⟨_, rfl⟩
  have hn : v5_8.toInt = (n : Int) := by omega
  have hn9 : n ≤ 9 := by omega
  refine w_bipush X hx (dq hby d0_10) (z := 10) rfl ?_
  refine w_newarr X hx hZ eT (aty := .byte) (hw _ (List.mem_of_getElem? (i := 1) rfl)) (dq hby d0_12) (n := 10) (cap := 10) (rfl) ((by decide)) (by decide) (by decide) (by decide) fun T h1 b12 hb_b12 X eT EX A_b12 => ?_
  have g_b12 : n0 ≤ b12 := by omega
  replace Z0 := Nat.le_trans Z0 EX.1
  replace A_b12 : AV Z h1 b12 .byte 10 (iF (fun _ => (0 : Int32))) := A_b12
  refine w_astore X hx (dq hby d0_14) rfl (Ls' := #[.val (.long i0), .second, .val (.long i1), .second, .val (.int i2), .val (.int v5_8), .val (.ref b12), .unset]) rfl ?_
  refine w_aload X hx (dq hby d0_16) rfl rfl ?_
  refine w_iconst X hx (dq hby d0_18) (z := 0) rfl ?_
  refine w_lloadN X hx (dq hby d0_19) rfl ?_
  refine w_lloadN X hx (dq hby d0_20) rfl ?_
  refine w_iconst X hx (dq hby d0_21) (z := 0) rfl ?_
  refine w_callSP X hx hZ eT hml (by rfl) hown (hw _ (List.mem_of_getElem? (i := 2) rfl)) (hw _ (List.mem_of_getElem? (i := 3) rfl)) (hw _ (List.mem_of_getElem? (i := 4) rfl)) (hw _ (List.mem_of_getElem? (i := 5) rfl)) (by decide) (ct1 l Z a0 hw i0 i1 (0 : Int32) h1) (dq hby d0_22) pd_0 (argsL := [(.long i0), (.long i1), (.int (0 : Int32))]) (rest := [(.int (0 : Int32)), (.ref b12)]) rfl rfl rfl (W := 2) rfl (by decide) (by decide) (by decide) (by decide) fun T X eT => ?_
  refine w_bastore X hx hZ eT A_b12 (i := 0) (rfl) (by decide) (dq hby d0_25) fun T h2 X eT W A' => ?_
  replace Z0 := Nat.le_trans Z0 (Nat.le_of_eq W.size.symm)
  replace N := Fr.snoc X N g_b12
  replace A_b12 := A'
  obtain ⟨g0_25, hg0_25⟩ : ∃ gg, gg = (upd (fun _ => (0 : Int32)) 0 (((bv i0 i1 (0 : Int32))).toInt8.toInt32)) := ⟨_, rfl⟩
  rw [← hg0_25] at A_b12
  refine w_aload X hx (dq hby d0_26) rfl rfl ?_
  refine w_iconst X hx (dq hby d0_28) (z := 1) rfl ?_
  refine w_lloadN X hx (dq hby d0_29) rfl ?_
  refine w_lloadN X hx (dq hby d0_30) rfl ?_
  refine w_iconst X hx (dq hby d0_31) (z := 1) rfl ?_
  refine w_callSP X hx hZ eT hml (by rfl) hown (hw _ (List.mem_of_getElem? (i := 2) rfl)) (hw _ (List.mem_of_getElem? (i := 3) rfl)) (hw _ (List.mem_of_getElem? (i := 4) rfl)) (hw _ (List.mem_of_getElem? (i := 5) rfl)) (by decide) (ct1 l Z a0 hw i0 i1 (1 : Int32) h2) (dq hby d0_32) pd_0 (argsL := [(.long i0), (.long i1), (.int (1 : Int32))]) (rest := [(.int (1 : Int32)), (.ref b12)]) rfl rfl rfl (W := 2) rfl (by decide) (by decide) (by decide) (by decide) fun T X eT => ?_
  refine w_bastore X hx hZ eT A_b12 (i := 1) (rfl) (by decide) (dq hby d0_35) fun T h3 X eT W A' => ?_
  replace Z0 := Nat.le_trans Z0 (Nat.le_of_eq W.size.symm)
  replace N := Fr.snoc X N g_b12
  replace A_b12 := A'
  obtain ⟨g0_35, hg0_35⟩ : ∃ gg, gg = (upd g0_25 1 (((bv i0 i1 (1 : Int32))).toInt8.toInt32)) := ⟨_, rfl⟩
  rw [← hg0_35] at A_b12
  refine w_aload X hx (dq hby d0_36) rfl rfl ?_
  refine w_iconst X hx (dq hby d0_38) (z := 2) rfl ?_
  refine w_lloadN X hx (dq hby d0_39) rfl ?_
  refine w_lloadN X hx (dq hby d0_40) rfl ?_
  refine w_iconst X hx (dq hby d0_41) (z := 2) rfl ?_
  refine w_callSP X hx hZ eT hml (by rfl) hown (hw _ (List.mem_of_getElem? (i := 2) rfl)) (hw _ (List.mem_of_getElem? (i := 3) rfl)) (hw _ (List.mem_of_getElem? (i := 4) rfl)) (hw _ (List.mem_of_getElem? (i := 5) rfl)) (by decide) (ct1 l Z a0 hw i0 i1 (2 : Int32) h3) (dq hby d0_42) pd_0 (argsL := [(.long i0), (.long i1), (.int (2 : Int32))]) (rest := [(.int (2 : Int32)), (.ref b12)]) rfl rfl rfl (W := 2) rfl (by decide) (by decide) (by decide) (by decide) fun T X eT => ?_
  refine w_bastore X hx hZ eT A_b12 (i := 2) (rfl) (by decide) (dq hby d0_45) fun T h4 X eT W A' => ?_
  replace Z0 := Nat.le_trans Z0 (Nat.le_of_eq W.size.symm)
  replace N := Fr.snoc X N g_b12
  replace A_b12 := A'
  obtain ⟨g0_45, hg0_45⟩ : ∃ gg, gg = (upd g0_35 2 (((bv i0 i1 (2 : Int32))).toInt8.toInt32)) := ⟨_, rfl⟩
  rw [← hg0_45] at A_b12
  refine w_aload X hx (dq hby d0_46) rfl rfl ?_
  refine w_iconst X hx (dq hby d0_48) (z := 3) rfl ?_
  refine w_lloadN X hx (dq hby d0_49) rfl ?_
  refine w_lloadN X hx (dq hby d0_50) rfl ?_
  refine w_iconst X hx (dq hby d0_51) (z := 3) rfl ?_
  refine w_callSP X hx hZ eT hml (by rfl) hown (hw _ (List.mem_of_getElem? (i := 2) rfl)) (hw _ (List.mem_of_getElem? (i := 3) rfl)) (hw _ (List.mem_of_getElem? (i := 4) rfl)) (hw _ (List.mem_of_getElem? (i := 5) rfl)) (by decide) (ct1 l Z a0 hw i0 i1 (3 : Int32) h4) (dq hby d0_52) pd_0 (argsL := [(.long i0), (.long i1), (.int (3 : Int32))]) (rest := [(.int (3 : Int32)), (.ref b12)]) rfl rfl rfl (W := 2) rfl (by decide) (by decide) (by decide) (by decide) fun T X eT => ?_
  refine w_bastore X hx hZ eT A_b12 (i := 3) (rfl) (by decide) (dq hby d0_55) fun T h5 X eT W A' => ?_
  replace Z0 := Nat.le_trans Z0 (Nat.le_of_eq W.size.symm)
  replace N := Fr.snoc X N g_b12
  replace A_b12 := A'
  obtain ⟨g0_55, hg0_55⟩ : ∃ gg, gg = (upd g0_45 3 (((bv i0 i1 (3 : Int32))).toInt8.toInt32)) := ⟨_, rfl⟩
  rw [← hg0_55] at A_b12
  refine w_aload X hx (dq hby d0_56) rfl rfl ?_
  refine w_iconst X hx (dq hby d0_58) (z := 4) rfl ?_
  refine w_lloadN X hx (dq hby d0_59) rfl ?_
  refine w_lloadN X hx (dq hby d0_60) rfl ?_
  refine w_iconst X hx (dq hby d0_61) (z := 4) rfl ?_
  refine w_callSP X hx hZ eT hml (by rfl) hown (hw _ (List.mem_of_getElem? (i := 2) rfl)) (hw _ (List.mem_of_getElem? (i := 3) rfl)) (hw _ (List.mem_of_getElem? (i := 4) rfl)) (hw _ (List.mem_of_getElem? (i := 5) rfl)) (by decide) (ct1 l Z a0 hw i0 i1 (4 : Int32) h5) (dq hby d0_62) pd_0 (argsL := [(.long i0), (.long i1), (.int (4 : Int32))]) (rest := [(.int (4 : Int32)), (.ref b12)]) rfl rfl rfl (W := 2) rfl (by decide) (by decide) (by decide) (by decide) fun T X eT => ?_
  refine w_bastore X hx hZ eT A_b12 (i := 4) (rfl) (by decide) (dq hby d0_65) fun T h6 X eT W A' => ?_
  replace Z0 := Nat.le_trans Z0 (Nat.le_of_eq W.size.symm)
  replace N := Fr.snoc X N g_b12
  replace A_b12 := A'
  obtain ⟨g0_65, hg0_65⟩ : ∃ gg, gg = (upd g0_55 4 (((bv i0 i1 (4 : Int32))).toInt8.toInt32)) := ⟨_, rfl⟩
  rw [← hg0_65] at A_b12
  refine w_aload X hx (dq hby d0_66) rfl rfl ?_
  refine w_iconst X hx (dq hby d0_68) (z := 5) rfl ?_
  refine w_lloadN X hx (dq hby d0_69) rfl ?_
  refine w_lloadN X hx (dq hby d0_70) rfl ?_
  refine w_iconst X hx (dq hby d0_71) (z := 5) rfl ?_
  refine w_callSP X hx hZ eT hml (by rfl) hown (hw _ (List.mem_of_getElem? (i := 2) rfl)) (hw _ (List.mem_of_getElem? (i := 3) rfl)) (hw _ (List.mem_of_getElem? (i := 4) rfl)) (hw _ (List.mem_of_getElem? (i := 5) rfl)) (by decide) (ct1 l Z a0 hw i0 i1 (5 : Int32) h6) (dq hby d0_72) pd_0 (argsL := [(.long i0), (.long i1), (.int (5 : Int32))]) (rest := [(.int (5 : Int32)), (.ref b12)]) rfl rfl rfl (W := 2) rfl (by decide) (by decide) (by decide) (by decide) fun T X eT => ?_
  refine w_bastore X hx hZ eT A_b12 (i := 5) (rfl) (by decide) (dq hby d0_75) fun T h7 X eT W A' => ?_
  replace Z0 := Nat.le_trans Z0 (Nat.le_of_eq W.size.symm)
  replace N := Fr.snoc X N g_b12
  replace A_b12 := A'
  obtain ⟨g0_75, hg0_75⟩ : ∃ gg, gg = (upd g0_65 5 (((bv i0 i1 (5 : Int32))).toInt8.toInt32)) := ⟨_, rfl⟩
  rw [← hg0_75] at A_b12
  refine w_aload X hx (dq hby d0_76) rfl rfl ?_
  refine w_bipush X hx (dq hby d0_78) (z := 6) rfl ?_
  refine w_lloadN X hx (dq hby d0_80) rfl ?_
  refine w_lloadN X hx (dq hby d0_81) rfl ?_
  refine w_bipush X hx (dq hby d0_82) (z := 6) rfl ?_
  refine w_callSP X hx hZ eT hml (by rfl) hown (hw _ (List.mem_of_getElem? (i := 2) rfl)) (hw _ (List.mem_of_getElem? (i := 3) rfl)) (hw _ (List.mem_of_getElem? (i := 4) rfl)) (hw _ (List.mem_of_getElem? (i := 5) rfl)) (by decide) (ct1 l Z a0 hw i0 i1 (6 : Int32) h7) (dq hby d0_84) pd_0 (argsL := [(.long i0), (.long i1), (.int (6 : Int32))]) (rest := [(.int (6 : Int32)), (.ref b12)]) rfl rfl rfl (W := 2) rfl (by decide) (by decide) (by decide) (by decide) fun T X eT => ?_
  refine w_bastore X hx hZ eT A_b12 (i := 6) (rfl) (by decide) (dq hby d0_87) fun T h8 X eT W A' => ?_
  replace Z0 := Nat.le_trans Z0 (Nat.le_of_eq W.size.symm)
  replace N := Fr.snoc X N g_b12
  replace A_b12 := A'
  obtain ⟨g0_87, hg0_87⟩ : ∃ gg, gg = (upd g0_75 6 (((bv i0 i1 (6 : Int32))).toInt8.toInt32)) := ⟨_, rfl⟩
  rw [← hg0_87] at A_b12
  refine w_aload X hx (dq hby d0_88) rfl rfl ?_
  refine w_bipush X hx (dq hby d0_90) (z := 7) rfl ?_
  refine w_lloadN X hx (dq hby d0_92) rfl ?_
  refine w_lloadN X hx (dq hby d0_93) rfl ?_
  refine w_bipush X hx (dq hby d0_94) (z := 7) rfl ?_
  refine w_callSP X hx hZ eT hml (by rfl) hown (hw _ (List.mem_of_getElem? (i := 2) rfl)) (hw _ (List.mem_of_getElem? (i := 3) rfl)) (hw _ (List.mem_of_getElem? (i := 4) rfl)) (hw _ (List.mem_of_getElem? (i := 5) rfl)) (by decide) (ct1 l Z a0 hw i0 i1 (7 : Int32) h8) (dq hby d0_96) pd_0 (argsL := [(.long i0), (.long i1), (.int (7 : Int32))]) (rest := [(.int (7 : Int32)), (.ref b12)]) rfl rfl rfl (W := 2) rfl (by decide) (by decide) (by decide) (by decide) fun T X eT => ?_
  refine w_bastore X hx hZ eT A_b12 (i := 7) (rfl) (by decide) (dq hby d0_99) fun T h9 X eT W A' => ?_
  replace Z0 := Nat.le_trans Z0 (Nat.le_of_eq W.size.symm)
  replace N := Fr.snoc X N g_b12
  replace A_b12 := A'
  obtain ⟨g0_99, hg0_99⟩ : ∃ gg, gg = (upd g0_87 7 (((bv i0 i1 (7 : Int32))).toInt8.toInt32)) := ⟨_, rfl⟩
  rw [← hg0_99] at A_b12
  refine w_aload X hx (dq hby d0_100) rfl rfl ?_
  refine w_bipush X hx (dq hby d0_102) (z := 8) rfl ?_
  refine w_lloadN X hx (dq hby d0_104) rfl ?_
  refine w_lloadN X hx (dq hby d0_105) rfl ?_
  refine w_bipush X hx (dq hby d0_106) (z := 8) rfl ?_
  refine w_callSP X hx hZ eT hml (by rfl) hown (hw _ (List.mem_of_getElem? (i := 2) rfl)) (hw _ (List.mem_of_getElem? (i := 3) rfl)) (hw _ (List.mem_of_getElem? (i := 4) rfl)) (hw _ (List.mem_of_getElem? (i := 5) rfl)) (by decide) (ct1 l Z a0 hw i0 i1 (8 : Int32) h9) (dq hby d0_108) pd_0 (argsL := [(.long i0), (.long i1), (.int (8 : Int32))]) (rest := [(.int (8 : Int32)), (.ref b12)]) rfl rfl rfl (W := 2) rfl (by decide) (by decide) (by decide) (by decide) fun T X eT => ?_
  refine w_bastore X hx hZ eT A_b12 (i := 8) (rfl) (by decide) (dq hby d0_111) fun T h10 X eT W A' => ?_
  replace Z0 := Nat.le_trans Z0 (Nat.le_of_eq W.size.symm)
  replace N := Fr.snoc X N g_b12
  replace A_b12 := A'
  obtain ⟨g0_111, hg0_111⟩ : ∃ gg, gg = (upd g0_99 8 (((bv i0 i1 (8 : Int32))).toInt8.toInt32)) := ⟨_, rfl⟩
  rw [← hg0_111] at A_b12
  refine w_aload X hx (dq hby d0_112) rfl rfl ?_
  refine w_bipush X hx (dq hby d0_114) (z := 9) rfl ?_
  refine w_lloadN X hx (dq hby d0_116) rfl ?_
  refine w_lloadN X hx (dq hby d0_117) rfl ?_
  refine w_bipush X hx (dq hby d0_118) (z := 9) rfl ?_
  refine w_callSP X hx hZ eT hml (by rfl) hown (hw _ (List.mem_of_getElem? (i := 2) rfl)) (hw _ (List.mem_of_getElem? (i := 3) rfl)) (hw _ (List.mem_of_getElem? (i := 4) rfl)) (hw _ (List.mem_of_getElem? (i := 5) rfl)) (by decide) (ct1 l Z a0 hw i0 i1 (9 : Int32) h10) (dq hby d0_120) pd_0 (argsL := [(.long i0), (.long i1), (.int (9 : Int32))]) (rest := [(.int (9 : Int32)), (.ref b12)]) rfl rfl rfl (W := 2) rfl (by decide) (by decide) (by decide) (by decide) fun T X eT => ?_
  refine w_bastore X hx hZ eT A_b12 (i := 9) (rfl) (by decide) (dq hby d0_123) fun T h11 X eT W A' => ?_
  replace Z0 := Nat.le_trans Z0 (Nat.le_of_eq W.size.symm)
  replace N := Fr.snoc X N g_b12
  replace A_b12 := A'
  obtain ⟨g0_123, hg0_123⟩ : ∃ gg, gg = (upd g0_111 9 (((bv i0 i1 (9 : Int32))).toInt8.toInt32)) := ⟨_, rfl⟩
  rw [← hg0_123] at A_b12
  have y25 : Byt g0_25 := by rw [hg0_25]; exact byt_upd byt0 _ _
  have y35 : Byt g0_35 := by rw [hg0_35]; exact byt_upd y25 _ _
  have y45 : Byt g0_45 := by rw [hg0_45]; exact byt_upd y35 _ _
  have y55 : Byt g0_55 := by rw [hg0_55]; exact byt_upd y45 _ _
  have y65 : Byt g0_65 := by rw [hg0_65]; exact byt_upd y55 _ _
  have y75 : Byt g0_75 := by rw [hg0_75]; exact byt_upd y65 _ _
  have y87 : Byt g0_87 := by rw [hg0_87]; exact byt_upd y75 _ _
  have y99 : Byt g0_99 := by rw [hg0_99]; exact byt_upd y87 _ _
  have y111 : Byt g0_111 := by rw [hg0_111]; exact byt_upd y99 _ _
  have y123 : Byt g0_123 := by rw [hg0_123]; exact byt_upd y111 _ _
  have hS := y123
  refine w_iload X hx (dq hby d0_124) rfl ?_
  refine w_newarr X hx hZ eT (aty := .byte) (hw _ (List.mem_of_getElem? (i := 1) rfl)) (dq hby d0_126) (n := n) (cap := 9) (hn) (hn9) (by decide) (by decide) (by decide) fun T h12 b126 hb_b126 X eT EX A_b126 => ?_
  have ne_b12_b126 : b12 ≠ b126 := by rw [hb_b126]; exact Nat.ne_of_lt A_b12.lt
  have g_b126 : n0 ≤ b126 := by omega
  replace A_b12 := AV.ext A_b12 EX
  replace Z0 := Nat.le_trans Z0 EX.1
  replace A_b126 : AV Z h12 b126 .byte n (iF (fun _ => (0 : Int32))) := A_b126
  refine w_astore X hx (dq hby d0_128) rfl (Ls' := #[.val (.long i0), .second, .val (.long i1), .second, .val (.int i2), .val (.int v5_8), .val (.ref b12), .val (.ref b126)]) rfl ?_
  refine w_j4 (fun (T : State) (locs : List Loc) (hj : Heap) (fj : Nat → Int32) => T.setTop (mkF m 264 #[.val (.long i0), .second, .val (.long i1), .second, .val (.int i2), .val (.int v5_8), .val (.ref b12), .val (.ref b126)] [])) (fun T locs hj fj => Stand p l e room_1 s m #[(.long i0), (.long i1), (.int i2)] below meth c T locs 2 19 ∧ T.heap = hj ∧ n0 ≤ hj.size ∧ Fr n0 locs ∧ AV Z hj b12 .byte 10 (iF g0_123) ∧ AV Z hj b126 .byte n (iF fj) ∧ ∀ i, i < n → fj i = g0_123 i) (fun T locs hj fj hq => ?_) (fun J264 => ?_)
  · try dsimp only at hq ⊢
    obtain ⟨X, eT, hq⟩ := hq
    obtain ⟨Z0, N, A_b12, A_b126, hf⟩ := hq
    refine w_aload X hx (dq hby d0_264) rfl rfl ?_
    refine w_callS X hx hZ eT hml (by rfl) hown (hw _ (List.mem_of_getElem? (i := 6) rfl)) (hw _ (List.mem_of_getElem? (i := 7) rfl)) (hw _ (List.mem_of_getElem? (i := 8) rfl)) (hw _ (List.mem_of_getElem? (i := 9) rfl)) (by decide) (ct2 l Z a0 hw b126 n0 n v5_8 fj hj Z0 g_b126 A_b126 hn (fun j hj => by rw [hf j hj]; exact hS j)) (dq hby d0_266) pd_1 (argsL := [(.ref b126)]) (rest := []) rfl rfl rfl (W := 0) rfl (by decide) (by decide) (by decide) (by decide) fun v T L X hQ => ?_
    generalize eT : T.heap = h13 at hQ
    obtain ⟨rfl, N', K', fr, A_b126, hfr⟩ := hQ
    replace A_b12 := AV.keep A_b12 K' (ninS ne_b12_b126 nin0)
    replace Z0 := Nat.le_trans Z0 K'.1
    replace N := Fr.app N N'
    refine w_aload X hx (dq hby d0_269) rfl rfl ?_
    refine w_arrlen X hx hZ eT A_b126 (z := v5_8) (hn) (dq hby d0_271) ?_
    refine w_iload X hx (dq hby d0_272) rfl ?_
    refine w_icmp_ne X hx (dj hby d0_274) (fun hc274 => (?_ : False).elim) (fun hc274 => ?_)
    · exact hc274 rfl
    refine w_aload X hx (dq hby d0_277) rfl rfl ?_
    refine w_aload X hx (dq hby d0_279) rfl rfl ?_
    refine w_iload X hx (dq hby d0_281) rfl ?_
    refine w_iconst X hx (dq hby d0_283) (z := 0) rfl ?_
    refine w_callSP X hx hZ eT hml (by rfl) hown (hw _ (List.mem_of_getElem? (i := 10) rfl)) (hw _ (List.mem_of_getElem? (i := 11) rfl)) (hw _ (List.mem_of_getElem? (i := 4) rfl)) (hw _ (List.mem_of_getElem? (i := 12) rfl)) (by decide) (ct3 l Z a0 hw b126 b12 v5_8 (0 : Int32) n 0 fr g0_123 h13 A_b126 A_b12 hn hn9 rfl (fun hh => by rw [hfr 0 hh]; exact hf _ (by omega))) (dq hby d0_284) pd_2 (argsL := [(.ref b126), (.ref b12), (.int v5_8), (.int (0 : Int32))]) (rest := []) rfl rfl rfl (W := 0) rfl (by decide) (by decide) (by decide) (by decide) fun T X eT => ?_
    refine w_if_eq X hx (dj hby d0_287) (fun hc287 => (?_ : False).elim) (fun hc287 => ?_)
    · exact absurd hc287 (by decide)
    refine w_aload X hx (dq hby d0_290) rfl rfl ?_
    refine w_aload X hx (dq hby d0_292) rfl rfl ?_
    refine w_iload X hx (dq hby d0_294) rfl ?_
    refine w_iconst X hx (dq hby d0_296) (z := 1) rfl ?_
    refine w_callSP X hx hZ eT hml (by rfl) hown (hw _ (List.mem_of_getElem? (i := 10) rfl)) (hw _ (List.mem_of_getElem? (i := 11) rfl)) (hw _ (List.mem_of_getElem? (i := 4) rfl)) (hw _ (List.mem_of_getElem? (i := 12) rfl)) (by decide) (ct3 l Z a0 hw b126 b12 v5_8 (1 : Int32) n 1 fr g0_123 h13 A_b126 A_b12 hn hn9 rfl (fun hh => by rw [hfr 1 hh]; exact hf _ (by omega))) (dq hby d0_297) pd_2 (argsL := [(.ref b126), (.ref b12), (.int v5_8), (.int (1 : Int32))]) (rest := []) rfl rfl rfl (W := 0) rfl (by decide) (by decide) (by decide) (by decide) fun T X eT => ?_
    refine w_if_eq X hx (dj hby d0_300) (fun hc300 => (?_ : False).elim) (fun hc300 => ?_)
    · exact absurd hc300 (by decide)
    refine w_aload X hx (dq hby d0_303) rfl rfl ?_
    refine w_aload X hx (dq hby d0_305) rfl rfl ?_
    refine w_iload X hx (dq hby d0_307) rfl ?_
    refine w_iconst X hx (dq hby d0_309) (z := 2) rfl ?_
    refine w_callSP X hx hZ eT hml (by rfl) hown (hw _ (List.mem_of_getElem? (i := 10) rfl)) (hw _ (List.mem_of_getElem? (i := 11) rfl)) (hw _ (List.mem_of_getElem? (i := 4) rfl)) (hw _ (List.mem_of_getElem? (i := 12) rfl)) (by decide) (ct3 l Z a0 hw b126 b12 v5_8 (2 : Int32) n 2 fr g0_123 h13 A_b126 A_b12 hn hn9 rfl (fun hh => by rw [hfr 2 hh]; exact hf _ (by omega))) (dq hby d0_310) pd_2 (argsL := [(.ref b126), (.ref b12), (.int v5_8), (.int (2 : Int32))]) (rest := []) rfl rfl rfl (W := 0) rfl (by decide) (by decide) (by decide) (by decide) fun T X eT => ?_
    refine w_if_eq X hx (dj hby d0_313) (fun hc313 => (?_ : False).elim) (fun hc313 => ?_)
    · exact absurd hc313 (by decide)
    refine w_aload X hx (dq hby d0_316) rfl rfl ?_
    refine w_aload X hx (dq hby d0_318) rfl rfl ?_
    refine w_iload X hx (dq hby d0_320) rfl ?_
    refine w_iconst X hx (dq hby d0_322) (z := 3) rfl ?_
    refine w_callSP X hx hZ eT hml (by rfl) hown (hw _ (List.mem_of_getElem? (i := 10) rfl)) (hw _ (List.mem_of_getElem? (i := 11) rfl)) (hw _ (List.mem_of_getElem? (i := 4) rfl)) (hw _ (List.mem_of_getElem? (i := 12) rfl)) (by decide) (ct3 l Z a0 hw b126 b12 v5_8 (3 : Int32) n 3 fr g0_123 h13 A_b126 A_b12 hn hn9 rfl (fun hh => by rw [hfr 3 hh]; exact hf _ (by omega))) (dq hby d0_323) pd_2 (argsL := [(.ref b126), (.ref b12), (.int v5_8), (.int (3 : Int32))]) (rest := []) rfl rfl rfl (W := 0) rfl (by decide) (by decide) (by decide) (by decide) fun T X eT => ?_
    refine w_if_eq X hx (dj hby d0_326) (fun hc326 => (?_ : False).elim) (fun hc326 => ?_)
    · exact absurd hc326 (by decide)
    refine w_aload X hx (dq hby d0_329) rfl rfl ?_
    refine w_aload X hx (dq hby d0_331) rfl rfl ?_
    refine w_iload X hx (dq hby d0_333) rfl ?_
    refine w_iconst X hx (dq hby d0_335) (z := 4) rfl ?_
    refine w_callSP X hx hZ eT hml (by rfl) hown (hw _ (List.mem_of_getElem? (i := 10) rfl)) (hw _ (List.mem_of_getElem? (i := 11) rfl)) (hw _ (List.mem_of_getElem? (i := 4) rfl)) (hw _ (List.mem_of_getElem? (i := 12) rfl)) (by decide) (ct3 l Z a0 hw b126 b12 v5_8 (4 : Int32) n 4 fr g0_123 h13 A_b126 A_b12 hn hn9 rfl (fun hh => by rw [hfr 4 hh]; exact hf _ (by omega))) (dq hby d0_336) pd_2 (argsL := [(.ref b126), (.ref b12), (.int v5_8), (.int (4 : Int32))]) (rest := []) rfl rfl rfl (W := 0) rfl (by decide) (by decide) (by decide) (by decide) fun T X eT => ?_
    refine w_if_eq X hx (dj hby d0_339) (fun hc339 => (?_ : False).elim) (fun hc339 => ?_)
    · exact absurd hc339 (by decide)
    refine w_aload X hx (dq hby d0_342) rfl rfl ?_
    refine w_aload X hx (dq hby d0_344) rfl rfl ?_
    refine w_iload X hx (dq hby d0_346) rfl ?_
    refine w_iconst X hx (dq hby d0_348) (z := 5) rfl ?_
    refine w_callSP X hx hZ eT hml (by rfl) hown (hw _ (List.mem_of_getElem? (i := 10) rfl)) (hw _ (List.mem_of_getElem? (i := 11) rfl)) (hw _ (List.mem_of_getElem? (i := 4) rfl)) (hw _ (List.mem_of_getElem? (i := 12) rfl)) (by decide) (ct3 l Z a0 hw b126 b12 v5_8 (5 : Int32) n 5 fr g0_123 h13 A_b126 A_b12 hn hn9 rfl (fun hh => by rw [hfr 5 hh]; exact hf _ (by omega))) (dq hby d0_349) pd_2 (argsL := [(.ref b126), (.ref b12), (.int v5_8), (.int (5 : Int32))]) (rest := []) rfl rfl rfl (W := 0) rfl (by decide) (by decide) (by decide) (by decide) fun T X eT => ?_
    refine w_if_eq X hx (dj hby d0_352) (fun hc352 => (?_ : False).elim) (fun hc352 => ?_)
    · exact absurd hc352 (by decide)
    refine w_aload X hx (dq hby d0_355) rfl rfl ?_
    refine w_aload X hx (dq hby d0_357) rfl rfl ?_
    refine w_iload X hx (dq hby d0_359) rfl ?_
    refine w_bipush X hx (dq hby d0_361) (z := 6) rfl ?_
    refine w_callSP X hx hZ eT hml (by rfl) hown (hw _ (List.mem_of_getElem? (i := 10) rfl)) (hw _ (List.mem_of_getElem? (i := 11) rfl)) (hw _ (List.mem_of_getElem? (i := 4) rfl)) (hw _ (List.mem_of_getElem? (i := 12) rfl)) (by decide) (ct3 l Z a0 hw b126 b12 v5_8 (6 : Int32) n 6 fr g0_123 h13 A_b126 A_b12 hn hn9 rfl (fun hh => by rw [hfr 6 hh]; exact hf _ (by omega))) (dq hby d0_363) pd_2 (argsL := [(.ref b126), (.ref b12), (.int v5_8), (.int (6 : Int32))]) (rest := []) rfl rfl rfl (W := 0) rfl (by decide) (by decide) (by decide) (by decide) fun T X eT => ?_
    refine w_if_eq X hx (dj hby d0_366) (fun hc366 => (?_ : False).elim) (fun hc366 => ?_)
    · exact absurd hc366 (by decide)
    refine w_aload X hx (dq hby d0_369) rfl rfl ?_
    refine w_aload X hx (dq hby d0_371) rfl rfl ?_
    refine w_iload X hx (dq hby d0_373) rfl ?_
    refine w_bipush X hx (dq hby d0_375) (z := 7) rfl ?_
    refine w_callSP X hx hZ eT hml (by rfl) hown (hw _ (List.mem_of_getElem? (i := 10) rfl)) (hw _ (List.mem_of_getElem? (i := 11) rfl)) (hw _ (List.mem_of_getElem? (i := 4) rfl)) (hw _ (List.mem_of_getElem? (i := 12) rfl)) (by decide) (ct3 l Z a0 hw b126 b12 v5_8 (7 : Int32) n 7 fr g0_123 h13 A_b126 A_b12 hn hn9 rfl (fun hh => by rw [hfr 7 hh]; exact hf _ (by omega))) (dq hby d0_377) pd_2 (argsL := [(.ref b126), (.ref b12), (.int v5_8), (.int (7 : Int32))]) (rest := []) rfl rfl rfl (W := 0) rfl (by decide) (by decide) (by decide) (by decide) fun T X eT => ?_
    refine w_if_eq X hx (dj hby d0_380) (fun hc380 => (?_ : False).elim) (fun hc380 => ?_)
    · exact absurd hc380 (by decide)
    refine w_aload X hx (dq hby d0_383) rfl rfl ?_
    refine w_aload X hx (dq hby d0_385) rfl rfl ?_
    refine w_iload X hx (dq hby d0_387) rfl ?_
    refine w_bipush X hx (dq hby d0_389) (z := 8) rfl ?_
    refine w_callSP X hx hZ eT hml (by rfl) hown (hw _ (List.mem_of_getElem? (i := 10) rfl)) (hw _ (List.mem_of_getElem? (i := 11) rfl)) (hw _ (List.mem_of_getElem? (i := 4) rfl)) (hw _ (List.mem_of_getElem? (i := 12) rfl)) (by decide) (ct3 l Z a0 hw b126 b12 v5_8 (8 : Int32) n 8 fr g0_123 h13 A_b126 A_b12 hn hn9 rfl (fun hh => by rw [hfr 8 hh]; exact hf _ (by omega))) (dq hby d0_391) pd_2 (argsL := [(.ref b126), (.ref b12), (.int v5_8), (.int (8 : Int32))]) (rest := []) rfl rfl rfl (W := 0) rfl (by decide) (by decide) (by decide) (by decide) fun T X eT => ?_
    refine w_if_eq X hx (dj hby d0_394) (fun hc394 => (?_ : False).elim) (fun hc394 => ?_)
    · exact absurd hc394 (by decide)
    refine w_iconst X hx (dq hby d0_397) (z := 1) rfl ?_
    refine w_goto X hx (dj hby d0_398) ?_
    refine w_retN X hx hret (by simp) hlk (dq hby d0_402) (by decide) (by decide) ?_
    exact ⟨by simp [nar], N⟩
  refine w_iload X hx (dq hby d0_130) rfl ?_
  refine w_if_le X hx (dj hby d0_132) (fun hc132 => ?_) (fun hc132 => ?_)
  · refine w_iload X hx (dq hby d0_143) rfl ?_
    refine w_iconst X hx (dq hby d0_145) (z := 1) rfl ?_
    refine w_icmp_le X hx (dj hby d0_146) (fun hc146 => ?_) (fun hc146 => (?_ : False).elim)
    rotate_left
    · have lit32_1 : (0 : Int32).toInt = 0 := rfl
      have lk : (1 : Int32).toInt = 1 := rfl
      omega
    refine w_iload X hx (dq hby d0_157) rfl ?_
    refine w_iconst X hx (dq hby d0_159) (z := 2) rfl ?_
    refine w_icmp_le X hx (dj hby d0_160) (fun hc160 => ?_) (fun hc160 => (?_ : False).elim)
    rotate_left
    · have lit32_1 : (0 : Int32).toInt = 0 := rfl
      have lit32_2 : (1 : Int32).toInt = 1 := rfl
      have lk : (2 : Int32).toInt = 2 := rfl
      omega
    refine w_iload X hx (dq hby d0_171) rfl ?_
    refine w_iconst X hx (dq hby d0_173) (z := 3) rfl ?_
    refine w_icmp_le X hx (dj hby d0_174) (fun hc174 => ?_) (fun hc174 => (?_ : False).elim)
    rotate_left
    · have lit32_1 : (0 : Int32).toInt = 0 := rfl
      have lit32_2 : (1 : Int32).toInt = 1 := rfl
      have lit32_3 : (2 : Int32).toInt = 2 := rfl
      have lk : (3 : Int32).toInt = 3 := rfl
      omega
    refine w_iload X hx (dq hby d0_185) rfl ?_
    refine w_iconst X hx (dq hby d0_187) (z := 4) rfl ?_
    refine w_icmp_le X hx (dj hby d0_188) (fun hc188 => ?_) (fun hc188 => (?_ : False).elim)
    rotate_left
    · have lit32_1 : (0 : Int32).toInt = 0 := rfl
      have lit32_2 : (1 : Int32).toInt = 1 := rfl
      have lit32_3 : (2 : Int32).toInt = 2 := rfl
      have lit32_4 : (3 : Int32).toInt = 3 := rfl
      have lk : (4 : Int32).toInt = 4 := rfl
      omega
    refine w_iload X hx (dq hby d0_199) rfl ?_
    refine w_iconst X hx (dq hby d0_201) (z := 5) rfl ?_
    refine w_icmp_le X hx (dj hby d0_202) (fun hc202 => ?_) (fun hc202 => (?_ : False).elim)
    rotate_left
    · have lit32_1 : (0 : Int32).toInt = 0 := rfl
      have lit32_2 : (1 : Int32).toInt = 1 := rfl
      have lit32_3 : (2 : Int32).toInt = 2 := rfl
      have lit32_4 : (3 : Int32).toInt = 3 := rfl
      have lit32_5 : (4 : Int32).toInt = 4 := rfl
      have lk : (5 : Int32).toInt = 5 := rfl
      omega
    refine w_iload X hx (dq hby d0_213) rfl ?_
    refine w_bipush X hx (dq hby d0_215) (z := 6) rfl ?_
    refine w_icmp_le X hx (dj hby d0_217) (fun hc217 => ?_) (fun hc217 => (?_ : False).elim)
    rotate_left
    · have lit32_1 : (0 : Int32).toInt = 0 := rfl
      have lit32_2 : (1 : Int32).toInt = 1 := rfl
      have lit32_3 : (2 : Int32).toInt = 2 := rfl
      have lit32_4 : (3 : Int32).toInt = 3 := rfl
      have lit32_5 : (4 : Int32).toInt = 4 := rfl
      have lit32_6 : (5 : Int32).toInt = 5 := rfl
      have lk : (6 : Int32).toInt = 6 := rfl
      omega
    refine w_iload X hx (dq hby d0_230) rfl ?_
    refine w_bipush X hx (dq hby d0_232) (z := 7) rfl ?_
    refine w_icmp_le X hx (dj hby d0_234) (fun hc234 => ?_) (fun hc234 => (?_ : False).elim)
    rotate_left
    · have lit32_1 : (0 : Int32).toInt = 0 := rfl
      have lit32_2 : (1 : Int32).toInt = 1 := rfl
      have lit32_3 : (2 : Int32).toInt = 2 := rfl
      have lit32_4 : (3 : Int32).toInt = 3 := rfl
      have lit32_5 : (4 : Int32).toInt = 4 := rfl
      have lit32_6 : (5 : Int32).toInt = 5 := rfl
      have lit32_7 : (6 : Int32).toInt = 6 := rfl
      have lk : (7 : Int32).toInt = 7 := rfl
      omega
    refine w_iload X hx (dq hby d0_247) rfl ?_
    refine w_bipush X hx (dq hby d0_249) (z := 8) rfl ?_
    refine w_icmp_le X hx (dj hby d0_251) (fun hc251 => ?_) (fun hc251 => (?_ : False).elim)
    rotate_left
    · have lit32_1 : (0 : Int32).toInt = 0 := rfl
      have lit32_2 : (1 : Int32).toInt = 1 := rfl
      have lit32_3 : (2 : Int32).toInt = 2 := rfl
      have lit32_4 : (3 : Int32).toInt = 3 := rfl
      have lit32_5 : (4 : Int32).toInt = 4 := rfl
      have lit32_6 : (5 : Int32).toInt = 5 := rfl
      have lit32_7 : (6 : Int32).toInt = 6 := rfl
      have lit32_8 : (7 : Int32).toInt = 7 := rfl
      have lk : (8 : Int32).toInt = 8 := rfl
      omega
    have ag0 : Agr 0 (fun _ => (0 : Int32)) g0_123 := fun i hi => by omega
    have lk : (0 : Int32).toInt = 0 := rfl
    exact J264 T _ h12 (fun _ => (0 : Int32)) ⟨X, eT, Z0, N, A_b12, A_b126, fun i hi => ag0 i (by omega)⟩
  · refine w_aload X hx (dq hby d0_135) rfl rfl ?_
    refine w_iconst X hx (dq hby d0_137) (z := 0) rfl ?_
    refine w_aload X hx (dq hby d0_138) rfl rfl ?_
    refine w_iconst X hx (dq hby d0_140) (z := 0) rfl ?_
    refine w_baload X hx hZ eT A_b12 (i := 0) (rfl) (by decide) (z := (g0_123 0)) (rfl) (dq hby d0_141) ?_
    refine w_bastore X hx hZ eT A_b126 (i := 0) (rfl) (by have lk : (0 : Int32).toInt = 0 := rfl; omega) (dq hby d0_142) fun T h14 X eT W A' => ?_
    replace A_b12 := AV.other A_b12 W ne_b12_b126
    replace Z0 := Nat.le_trans Z0 (Nat.le_of_eq W.size.symm)
    replace N := Fr.snoc X N g_b126
    replace A_b126 := A'
    obtain ⟨g0_142, hg0_142⟩ : ∃ gg, gg = (upd (fun _ => (0 : Int32)) 0 (((g0_123 0)).toInt8.toInt32)) := ⟨_, rfl⟩
    rw [← hg0_142] at A_b126
    refine w_iload X hx (dq hby d0_143) rfl ?_
    refine w_iconst X hx (dq hby d0_145) (z := 1) rfl ?_
    refine w_icmp_le X hx (dj hby d0_146) (fun hc146 => ?_) (fun hc146 => ?_)
    · refine w_iload X hx (dq hby d0_157) rfl ?_
      refine w_iconst X hx (dq hby d0_159) (z := 2) rfl ?_
      refine w_icmp_le X hx (dj hby d0_160) (fun hc160 => ?_) (fun hc160 => (?_ : False).elim)
      rotate_left
      · have lit32_1 : (0 : Int32).toInt = 0 := rfl
        have lit32_2 : (1 : Int32).toInt = 1 := rfl
        have lk : (2 : Int32).toInt = 2 := rfl
        omega
      refine w_iload X hx (dq hby d0_171) rfl ?_
      refine w_iconst X hx (dq hby d0_173) (z := 3) rfl ?_
      refine w_icmp_le X hx (dj hby d0_174) (fun hc174 => ?_) (fun hc174 => (?_ : False).elim)
      rotate_left
      · have lit32_1 : (0 : Int32).toInt = 0 := rfl
        have lit32_2 : (1 : Int32).toInt = 1 := rfl
        have lit32_3 : (2 : Int32).toInt = 2 := rfl
        have lk : (3 : Int32).toInt = 3 := rfl
        omega
      refine w_iload X hx (dq hby d0_185) rfl ?_
      refine w_iconst X hx (dq hby d0_187) (z := 4) rfl ?_
      refine w_icmp_le X hx (dj hby d0_188) (fun hc188 => ?_) (fun hc188 => (?_ : False).elim)
      rotate_left
      · have lit32_1 : (0 : Int32).toInt = 0 := rfl
        have lit32_2 : (1 : Int32).toInt = 1 := rfl
        have lit32_3 : (2 : Int32).toInt = 2 := rfl
        have lit32_4 : (3 : Int32).toInt = 3 := rfl
        have lk : (4 : Int32).toInt = 4 := rfl
        omega
      refine w_iload X hx (dq hby d0_199) rfl ?_
      refine w_iconst X hx (dq hby d0_201) (z := 5) rfl ?_
      refine w_icmp_le X hx (dj hby d0_202) (fun hc202 => ?_) (fun hc202 => (?_ : False).elim)
      rotate_left
      · have lit32_1 : (0 : Int32).toInt = 0 := rfl
        have lit32_2 : (1 : Int32).toInt = 1 := rfl
        have lit32_3 : (2 : Int32).toInt = 2 := rfl
        have lit32_4 : (3 : Int32).toInt = 3 := rfl
        have lit32_5 : (4 : Int32).toInt = 4 := rfl
        have lk : (5 : Int32).toInt = 5 := rfl
        omega
      refine w_iload X hx (dq hby d0_213) rfl ?_
      refine w_bipush X hx (dq hby d0_215) (z := 6) rfl ?_
      refine w_icmp_le X hx (dj hby d0_217) (fun hc217 => ?_) (fun hc217 => (?_ : False).elim)
      rotate_left
      · have lit32_1 : (0 : Int32).toInt = 0 := rfl
        have lit32_2 : (1 : Int32).toInt = 1 := rfl
        have lit32_3 : (2 : Int32).toInt = 2 := rfl
        have lit32_4 : (3 : Int32).toInt = 3 := rfl
        have lit32_5 : (4 : Int32).toInt = 4 := rfl
        have lit32_6 : (5 : Int32).toInt = 5 := rfl
        have lk : (6 : Int32).toInt = 6 := rfl
        omega
      refine w_iload X hx (dq hby d0_230) rfl ?_
      refine w_bipush X hx (dq hby d0_232) (z := 7) rfl ?_
      refine w_icmp_le X hx (dj hby d0_234) (fun hc234 => ?_) (fun hc234 => (?_ : False).elim)
      rotate_left
      · have lit32_1 : (0 : Int32).toInt = 0 := rfl
        have lit32_2 : (1 : Int32).toInt = 1 := rfl
        have lit32_3 : (2 : Int32).toInt = 2 := rfl
        have lit32_4 : (3 : Int32).toInt = 3 := rfl
        have lit32_5 : (4 : Int32).toInt = 4 := rfl
        have lit32_6 : (5 : Int32).toInt = 5 := rfl
        have lit32_7 : (6 : Int32).toInt = 6 := rfl
        have lk : (7 : Int32).toInt = 7 := rfl
        omega
      refine w_iload X hx (dq hby d0_247) rfl ?_
      refine w_bipush X hx (dq hby d0_249) (z := 8) rfl ?_
      refine w_icmp_le X hx (dj hby d0_251) (fun hc251 => ?_) (fun hc251 => (?_ : False).elim)
      rotate_left
      · have lit32_1 : (0 : Int32).toInt = 0 := rfl
        have lit32_2 : (1 : Int32).toInt = 1 := rfl
        have lit32_3 : (2 : Int32).toInt = 2 := rfl
        have lit32_4 : (3 : Int32).toInt = 3 := rfl
        have lit32_5 : (4 : Int32).toInt = 4 := rfl
        have lit32_6 : (5 : Int32).toInt = 5 := rfl
        have lit32_7 : (6 : Int32).toInt = 6 := rfl
        have lit32_8 : (7 : Int32).toInt = 7 := rfl
        have lk : (8 : Int32).toInt = 8 := rfl
        omega
      have ag0 : Agr 0 (fun _ => (0 : Int32)) g0_123 := fun i hi => by omega
      have ag1 : Agr 1 g0_142 g0_123 := by rw [hg0_142]; exact agr_upd ag0 hS
      have lk : (1 : Int32).toInt = 1 := rfl
      exact J264 T _ h14 g0_142 ⟨X, eT, Z0, N, A_b12, A_b126, fun i hi => ag1 i (by omega)⟩
    · refine w_aload X hx (dq hby d0_149) rfl rfl ?_
      refine w_iconst X hx (dq hby d0_151) (z := 1) rfl ?_
      refine w_aload X hx (dq hby d0_152) rfl rfl ?_
      refine w_iconst X hx (dq hby d0_154) (z := 1) rfl ?_
      refine w_baload X hx hZ eT A_b12 (i := 1) (rfl) (by decide) (z := (g0_123 1)) (rfl) (dq hby d0_155) ?_
      refine w_bastore X hx hZ eT A_b126 (i := 1) (rfl) (by have lk : (1 : Int32).toInt = 1 := rfl; omega) (dq hby d0_156) fun T h15 X eT W A' => ?_
      replace A_b12 := AV.other A_b12 W ne_b12_b126
      replace Z0 := Nat.le_trans Z0 (Nat.le_of_eq W.size.symm)
      replace N := Fr.snoc X N g_b126
      replace A_b126 := A'
      obtain ⟨g0_156, hg0_156⟩ : ∃ gg, gg = (upd g0_142 1 (((g0_123 1)).toInt8.toInt32)) := ⟨_, rfl⟩
      rw [← hg0_156] at A_b126
      refine w_iload X hx (dq hby d0_157) rfl ?_
      refine w_iconst X hx (dq hby d0_159) (z := 2) rfl ?_
      refine w_icmp_le X hx (dj hby d0_160) (fun hc160 => ?_) (fun hc160 => ?_)
      · refine w_iload X hx (dq hby d0_171) rfl ?_
        refine w_iconst X hx (dq hby d0_173) (z := 3) rfl ?_
        refine w_icmp_le X hx (dj hby d0_174) (fun hc174 => ?_) (fun hc174 => (?_ : False).elim)
        rotate_left
        · have lit32_1 : (0 : Int32).toInt = 0 := rfl
          have lit32_2 : (1 : Int32).toInt = 1 := rfl
          have lit32_3 : (2 : Int32).toInt = 2 := rfl
          have lk : (3 : Int32).toInt = 3 := rfl
          omega
        refine w_iload X hx (dq hby d0_185) rfl ?_
        refine w_iconst X hx (dq hby d0_187) (z := 4) rfl ?_
        refine w_icmp_le X hx (dj hby d0_188) (fun hc188 => ?_) (fun hc188 => (?_ : False).elim)
        rotate_left
        · have lit32_1 : (0 : Int32).toInt = 0 := rfl
          have lit32_2 : (1 : Int32).toInt = 1 := rfl
          have lit32_3 : (2 : Int32).toInt = 2 := rfl
          have lit32_4 : (3 : Int32).toInt = 3 := rfl
          have lk : (4 : Int32).toInt = 4 := rfl
          omega
        refine w_iload X hx (dq hby d0_199) rfl ?_
        refine w_iconst X hx (dq hby d0_201) (z := 5) rfl ?_
        refine w_icmp_le X hx (dj hby d0_202) (fun hc202 => ?_) (fun hc202 => (?_ : False).elim)
        rotate_left
        · have lit32_1 : (0 : Int32).toInt = 0 := rfl
          have lit32_2 : (1 : Int32).toInt = 1 := rfl
          have lit32_3 : (2 : Int32).toInt = 2 := rfl
          have lit32_4 : (3 : Int32).toInt = 3 := rfl
          have lit32_5 : (4 : Int32).toInt = 4 := rfl
          have lk : (5 : Int32).toInt = 5 := rfl
          omega
        refine w_iload X hx (dq hby d0_213) rfl ?_
        refine w_bipush X hx (dq hby d0_215) (z := 6) rfl ?_
        refine w_icmp_le X hx (dj hby d0_217) (fun hc217 => ?_) (fun hc217 => (?_ : False).elim)
        rotate_left
        · have lit32_1 : (0 : Int32).toInt = 0 := rfl
          have lit32_2 : (1 : Int32).toInt = 1 := rfl
          have lit32_3 : (2 : Int32).toInt = 2 := rfl
          have lit32_4 : (3 : Int32).toInt = 3 := rfl
          have lit32_5 : (4 : Int32).toInt = 4 := rfl
          have lit32_6 : (5 : Int32).toInt = 5 := rfl
          have lk : (6 : Int32).toInt = 6 := rfl
          omega
        refine w_iload X hx (dq hby d0_230) rfl ?_
        refine w_bipush X hx (dq hby d0_232) (z := 7) rfl ?_
        refine w_icmp_le X hx (dj hby d0_234) (fun hc234 => ?_) (fun hc234 => (?_ : False).elim)
        rotate_left
        · have lit32_1 : (0 : Int32).toInt = 0 := rfl
          have lit32_2 : (1 : Int32).toInt = 1 := rfl
          have lit32_3 : (2 : Int32).toInt = 2 := rfl
          have lit32_4 : (3 : Int32).toInt = 3 := rfl
          have lit32_5 : (4 : Int32).toInt = 4 := rfl
          have lit32_6 : (5 : Int32).toInt = 5 := rfl
          have lit32_7 : (6 : Int32).toInt = 6 := rfl
          have lk : (7 : Int32).toInt = 7 := rfl
          omega
        refine w_iload X hx (dq hby d0_247) rfl ?_
        refine w_bipush X hx (dq hby d0_249) (z := 8) rfl ?_
        refine w_icmp_le X hx (dj hby d0_251) (fun hc251 => ?_) (fun hc251 => (?_ : False).elim)
        rotate_left
        · have lit32_1 : (0 : Int32).toInt = 0 := rfl
          have lit32_2 : (1 : Int32).toInt = 1 := rfl
          have lit32_3 : (2 : Int32).toInt = 2 := rfl
          have lit32_4 : (3 : Int32).toInt = 3 := rfl
          have lit32_5 : (4 : Int32).toInt = 4 := rfl
          have lit32_6 : (5 : Int32).toInt = 5 := rfl
          have lit32_7 : (6 : Int32).toInt = 6 := rfl
          have lit32_8 : (7 : Int32).toInt = 7 := rfl
          have lk : (8 : Int32).toInt = 8 := rfl
          omega
        have ag0 : Agr 0 (fun _ => (0 : Int32)) g0_123 := fun i hi => by omega
        have ag1 : Agr 1 g0_142 g0_123 := by rw [hg0_142]; exact agr_upd ag0 hS
        have ag2 : Agr 2 g0_156 g0_123 := by rw [hg0_156]; exact agr_upd ag1 hS
        have lk : (2 : Int32).toInt = 2 := rfl
        exact J264 T _ h15 g0_156 ⟨X, eT, Z0, N, A_b12, A_b126, fun i hi => ag2 i (by omega)⟩
      · refine w_aload X hx (dq hby d0_163) rfl rfl ?_
        refine w_iconst X hx (dq hby d0_165) (z := 2) rfl ?_
        refine w_aload X hx (dq hby d0_166) rfl rfl ?_
        refine w_iconst X hx (dq hby d0_168) (z := 2) rfl ?_
        refine w_baload X hx hZ eT A_b12 (i := 2) (rfl) (by decide) (z := (g0_123 2)) (rfl) (dq hby d0_169) ?_
        refine w_bastore X hx hZ eT A_b126 (i := 2) (rfl) (by have lk : (2 : Int32).toInt = 2 := rfl; omega) (dq hby d0_170) fun T h16 X eT W A' => ?_
        replace A_b12 := AV.other A_b12 W ne_b12_b126
        replace Z0 := Nat.le_trans Z0 (Nat.le_of_eq W.size.symm)
        replace N := Fr.snoc X N g_b126
        replace A_b126 := A'
        obtain ⟨g0_170, hg0_170⟩ : ∃ gg, gg = (upd g0_156 2 (((g0_123 2)).toInt8.toInt32)) := ⟨_, rfl⟩
        rw [← hg0_170] at A_b126
        refine w_iload X hx (dq hby d0_171) rfl ?_
        refine w_iconst X hx (dq hby d0_173) (z := 3) rfl ?_
        refine w_icmp_le X hx (dj hby d0_174) (fun hc174 => ?_) (fun hc174 => ?_)
        · refine w_iload X hx (dq hby d0_185) rfl ?_
          refine w_iconst X hx (dq hby d0_187) (z := 4) rfl ?_
          refine w_icmp_le X hx (dj hby d0_188) (fun hc188 => ?_) (fun hc188 => (?_ : False).elim)
          rotate_left
          · have lit32_1 : (0 : Int32).toInt = 0 := rfl
            have lit32_2 : (1 : Int32).toInt = 1 := rfl
            have lit32_3 : (2 : Int32).toInt = 2 := rfl
            have lit32_4 : (3 : Int32).toInt = 3 := rfl
            have lk : (4 : Int32).toInt = 4 := rfl
            omega
          refine w_iload X hx (dq hby d0_199) rfl ?_
          refine w_iconst X hx (dq hby d0_201) (z := 5) rfl ?_
          refine w_icmp_le X hx (dj hby d0_202) (fun hc202 => ?_) (fun hc202 => (?_ : False).elim)
          rotate_left
          · have lit32_1 : (0 : Int32).toInt = 0 := rfl
            have lit32_2 : (1 : Int32).toInt = 1 := rfl
            have lit32_3 : (2 : Int32).toInt = 2 := rfl
            have lit32_4 : (3 : Int32).toInt = 3 := rfl
            have lit32_5 : (4 : Int32).toInt = 4 := rfl
            have lk : (5 : Int32).toInt = 5 := rfl
            omega
          refine w_iload X hx (dq hby d0_213) rfl ?_
          refine w_bipush X hx (dq hby d0_215) (z := 6) rfl ?_
          refine w_icmp_le X hx (dj hby d0_217) (fun hc217 => ?_) (fun hc217 => (?_ : False).elim)
          rotate_left
          · have lit32_1 : (0 : Int32).toInt = 0 := rfl
            have lit32_2 : (1 : Int32).toInt = 1 := rfl
            have lit32_3 : (2 : Int32).toInt = 2 := rfl
            have lit32_4 : (3 : Int32).toInt = 3 := rfl
            have lit32_5 : (4 : Int32).toInt = 4 := rfl
            have lit32_6 : (5 : Int32).toInt = 5 := rfl
            have lk : (6 : Int32).toInt = 6 := rfl
            omega
          refine w_iload X hx (dq hby d0_230) rfl ?_
          refine w_bipush X hx (dq hby d0_232) (z := 7) rfl ?_
          refine w_icmp_le X hx (dj hby d0_234) (fun hc234 => ?_) (fun hc234 => (?_ : False).elim)
          rotate_left
          · have lit32_1 : (0 : Int32).toInt = 0 := rfl
            have lit32_2 : (1 : Int32).toInt = 1 := rfl
            have lit32_3 : (2 : Int32).toInt = 2 := rfl
            have lit32_4 : (3 : Int32).toInt = 3 := rfl
            have lit32_5 : (4 : Int32).toInt = 4 := rfl
            have lit32_6 : (5 : Int32).toInt = 5 := rfl
            have lit32_7 : (6 : Int32).toInt = 6 := rfl
            have lk : (7 : Int32).toInt = 7 := rfl
            omega
          refine w_iload X hx (dq hby d0_247) rfl ?_
          refine w_bipush X hx (dq hby d0_249) (z := 8) rfl ?_
          refine w_icmp_le X hx (dj hby d0_251) (fun hc251 => ?_) (fun hc251 => (?_ : False).elim)
          rotate_left
          · have lit32_1 : (0 : Int32).toInt = 0 := rfl
            have lit32_2 : (1 : Int32).toInt = 1 := rfl
            have lit32_3 : (2 : Int32).toInt = 2 := rfl
            have lit32_4 : (3 : Int32).toInt = 3 := rfl
            have lit32_5 : (4 : Int32).toInt = 4 := rfl
            have lit32_6 : (5 : Int32).toInt = 5 := rfl
            have lit32_7 : (6 : Int32).toInt = 6 := rfl
            have lit32_8 : (7 : Int32).toInt = 7 := rfl
            have lk : (8 : Int32).toInt = 8 := rfl
            omega
          have ag0 : Agr 0 (fun _ => (0 : Int32)) g0_123 := fun i hi => by omega
          have ag1 : Agr 1 g0_142 g0_123 := by rw [hg0_142]; exact agr_upd ag0 hS
          have ag2 : Agr 2 g0_156 g0_123 := by rw [hg0_156]; exact agr_upd ag1 hS
          have ag3 : Agr 3 g0_170 g0_123 := by rw [hg0_170]; exact agr_upd ag2 hS
          have lk : (3 : Int32).toInt = 3 := rfl
          exact J264 T _ h16 g0_170 ⟨X, eT, Z0, N, A_b12, A_b126, fun i hi => ag3 i (by omega)⟩
        · refine w_aload X hx (dq hby d0_177) rfl rfl ?_
          refine w_iconst X hx (dq hby d0_179) (z := 3) rfl ?_
          refine w_aload X hx (dq hby d0_180) rfl rfl ?_
          refine w_iconst X hx (dq hby d0_182) (z := 3) rfl ?_
          refine w_baload X hx hZ eT A_b12 (i := 3) (rfl) (by decide) (z := (g0_123 3)) (rfl) (dq hby d0_183) ?_
          refine w_bastore X hx hZ eT A_b126 (i := 3) (rfl) (by have lk : (3 : Int32).toInt = 3 := rfl; omega) (dq hby d0_184) fun T h17 X eT W A' => ?_
          replace A_b12 := AV.other A_b12 W ne_b12_b126
          replace Z0 := Nat.le_trans Z0 (Nat.le_of_eq W.size.symm)
          replace N := Fr.snoc X N g_b126
          replace A_b126 := A'
          obtain ⟨g0_184, hg0_184⟩ : ∃ gg, gg = (upd g0_170 3 (((g0_123 3)).toInt8.toInt32)) := ⟨_, rfl⟩
          rw [← hg0_184] at A_b126
          refine w_iload X hx (dq hby d0_185) rfl ?_
          refine w_iconst X hx (dq hby d0_187) (z := 4) rfl ?_
          refine w_icmp_le X hx (dj hby d0_188) (fun hc188 => ?_) (fun hc188 => ?_)
          · refine w_iload X hx (dq hby d0_199) rfl ?_
            refine w_iconst X hx (dq hby d0_201) (z := 5) rfl ?_
            refine w_icmp_le X hx (dj hby d0_202) (fun hc202 => ?_) (fun hc202 => (?_ : False).elim)
            rotate_left
            · have lit32_1 : (0 : Int32).toInt = 0 := rfl
              have lit32_2 : (1 : Int32).toInt = 1 := rfl
              have lit32_3 : (2 : Int32).toInt = 2 := rfl
              have lit32_4 : (3 : Int32).toInt = 3 := rfl
              have lit32_5 : (4 : Int32).toInt = 4 := rfl
              have lk : (5 : Int32).toInt = 5 := rfl
              omega
            refine w_iload X hx (dq hby d0_213) rfl ?_
            refine w_bipush X hx (dq hby d0_215) (z := 6) rfl ?_
            refine w_icmp_le X hx (dj hby d0_217) (fun hc217 => ?_) (fun hc217 => (?_ : False).elim)
            rotate_left
            · have lit32_1 : (0 : Int32).toInt = 0 := rfl
              have lit32_2 : (1 : Int32).toInt = 1 := rfl
              have lit32_3 : (2 : Int32).toInt = 2 := rfl
              have lit32_4 : (3 : Int32).toInt = 3 := rfl
              have lit32_5 : (4 : Int32).toInt = 4 := rfl
              have lit32_6 : (5 : Int32).toInt = 5 := rfl
              have lk : (6 : Int32).toInt = 6 := rfl
              omega
            refine w_iload X hx (dq hby d0_230) rfl ?_
            refine w_bipush X hx (dq hby d0_232) (z := 7) rfl ?_
            refine w_icmp_le X hx (dj hby d0_234) (fun hc234 => ?_) (fun hc234 => (?_ : False).elim)
            rotate_left
            · have lit32_1 : (0 : Int32).toInt = 0 := rfl
              have lit32_2 : (1 : Int32).toInt = 1 := rfl
              have lit32_3 : (2 : Int32).toInt = 2 := rfl
              have lit32_4 : (3 : Int32).toInt = 3 := rfl
              have lit32_5 : (4 : Int32).toInt = 4 := rfl
              have lit32_6 : (5 : Int32).toInt = 5 := rfl
              have lit32_7 : (6 : Int32).toInt = 6 := rfl
              have lk : (7 : Int32).toInt = 7 := rfl
              omega
            refine w_iload X hx (dq hby d0_247) rfl ?_
            refine w_bipush X hx (dq hby d0_249) (z := 8) rfl ?_
            refine w_icmp_le X hx (dj hby d0_251) (fun hc251 => ?_) (fun hc251 => (?_ : False).elim)
            rotate_left
            · have lit32_1 : (0 : Int32).toInt = 0 := rfl
              have lit32_2 : (1 : Int32).toInt = 1 := rfl
              have lit32_3 : (2 : Int32).toInt = 2 := rfl
              have lit32_4 : (3 : Int32).toInt = 3 := rfl
              have lit32_5 : (4 : Int32).toInt = 4 := rfl
              have lit32_6 : (5 : Int32).toInt = 5 := rfl
              have lit32_7 : (6 : Int32).toInt = 6 := rfl
              have lit32_8 : (7 : Int32).toInt = 7 := rfl
              have lk : (8 : Int32).toInt = 8 := rfl
              omega
            have ag0 : Agr 0 (fun _ => (0 : Int32)) g0_123 := fun i hi => by omega
            have ag1 : Agr 1 g0_142 g0_123 := by rw [hg0_142]; exact agr_upd ag0 hS
            have ag2 : Agr 2 g0_156 g0_123 := by rw [hg0_156]; exact agr_upd ag1 hS
            have ag3 : Agr 3 g0_170 g0_123 := by rw [hg0_170]; exact agr_upd ag2 hS
            have ag4 : Agr 4 g0_184 g0_123 := by rw [hg0_184]; exact agr_upd ag3 hS
            have lk : (4 : Int32).toInt = 4 := rfl
            exact J264 T _ h17 g0_184 ⟨X, eT, Z0, N, A_b12, A_b126, fun i hi => ag4 i (by omega)⟩
          · refine w_aload X hx (dq hby d0_191) rfl rfl ?_
            refine w_iconst X hx (dq hby d0_193) (z := 4) rfl ?_
            refine w_aload X hx (dq hby d0_194) rfl rfl ?_
            refine w_iconst X hx (dq hby d0_196) (z := 4) rfl ?_
            refine w_baload X hx hZ eT A_b12 (i := 4) (rfl) (by decide) (z := (g0_123 4)) (rfl) (dq hby d0_197) ?_
            refine w_bastore X hx hZ eT A_b126 (i := 4) (rfl) (by have lk : (4 : Int32).toInt = 4 := rfl; omega) (dq hby d0_198) fun T h18 X eT W A' => ?_
            replace A_b12 := AV.other A_b12 W ne_b12_b126
            replace Z0 := Nat.le_trans Z0 (Nat.le_of_eq W.size.symm)
            replace N := Fr.snoc X N g_b126
            replace A_b126 := A'
            obtain ⟨g0_198, hg0_198⟩ : ∃ gg, gg = (upd g0_184 4 (((g0_123 4)).toInt8.toInt32)) := ⟨_, rfl⟩
            rw [← hg0_198] at A_b126
            refine w_iload X hx (dq hby d0_199) rfl ?_
            refine w_iconst X hx (dq hby d0_201) (z := 5) rfl ?_
            refine w_icmp_le X hx (dj hby d0_202) (fun hc202 => ?_) (fun hc202 => ?_)
            · refine w_iload X hx (dq hby d0_213) rfl ?_
              refine w_bipush X hx (dq hby d0_215) (z := 6) rfl ?_
              refine w_icmp_le X hx (dj hby d0_217) (fun hc217 => ?_) (fun hc217 => (?_ : False).elim)
              rotate_left
              · have lit32_1 : (0 : Int32).toInt = 0 := rfl
                have lit32_2 : (1 : Int32).toInt = 1 := rfl
                have lit32_3 : (2 : Int32).toInt = 2 := rfl
                have lit32_4 : (3 : Int32).toInt = 3 := rfl
                have lit32_5 : (4 : Int32).toInt = 4 := rfl
                have lit32_6 : (5 : Int32).toInt = 5 := rfl
                have lk : (6 : Int32).toInt = 6 := rfl
                omega
              refine w_iload X hx (dq hby d0_230) rfl ?_
              refine w_bipush X hx (dq hby d0_232) (z := 7) rfl ?_
              refine w_icmp_le X hx (dj hby d0_234) (fun hc234 => ?_) (fun hc234 => (?_ : False).elim)
              rotate_left
              · have lit32_1 : (0 : Int32).toInt = 0 := rfl
                have lit32_2 : (1 : Int32).toInt = 1 := rfl
                have lit32_3 : (2 : Int32).toInt = 2 := rfl
                have lit32_4 : (3 : Int32).toInt = 3 := rfl
                have lit32_5 : (4 : Int32).toInt = 4 := rfl
                have lit32_6 : (5 : Int32).toInt = 5 := rfl
                have lit32_7 : (6 : Int32).toInt = 6 := rfl
                have lk : (7 : Int32).toInt = 7 := rfl
                omega
              refine w_iload X hx (dq hby d0_247) rfl ?_
              refine w_bipush X hx (dq hby d0_249) (z := 8) rfl ?_
              refine w_icmp_le X hx (dj hby d0_251) (fun hc251 => ?_) (fun hc251 => (?_ : False).elim)
              rotate_left
              · have lit32_1 : (0 : Int32).toInt = 0 := rfl
                have lit32_2 : (1 : Int32).toInt = 1 := rfl
                have lit32_3 : (2 : Int32).toInt = 2 := rfl
                have lit32_4 : (3 : Int32).toInt = 3 := rfl
                have lit32_5 : (4 : Int32).toInt = 4 := rfl
                have lit32_6 : (5 : Int32).toInt = 5 := rfl
                have lit32_7 : (6 : Int32).toInt = 6 := rfl
                have lit32_8 : (7 : Int32).toInt = 7 := rfl
                have lk : (8 : Int32).toInt = 8 := rfl
                omega
              have ag0 : Agr 0 (fun _ => (0 : Int32)) g0_123 := fun i hi => by omega
              have ag1 : Agr 1 g0_142 g0_123 := by rw [hg0_142]; exact agr_upd ag0 hS
              have ag2 : Agr 2 g0_156 g0_123 := by rw [hg0_156]; exact agr_upd ag1 hS
              have ag3 : Agr 3 g0_170 g0_123 := by rw [hg0_170]; exact agr_upd ag2 hS
              have ag4 : Agr 4 g0_184 g0_123 := by rw [hg0_184]; exact agr_upd ag3 hS
              have ag5 : Agr 5 g0_198 g0_123 := by rw [hg0_198]; exact agr_upd ag4 hS
              have lk : (5 : Int32).toInt = 5 := rfl
              exact J264 T _ h18 g0_198 ⟨X, eT, Z0, N, A_b12, A_b126, fun i hi => ag5 i (by omega)⟩
            · refine w_aload X hx (dq hby d0_205) rfl rfl ?_
              refine w_iconst X hx (dq hby d0_207) (z := 5) rfl ?_
              refine w_aload X hx (dq hby d0_208) rfl rfl ?_
              refine w_iconst X hx (dq hby d0_210) (z := 5) rfl ?_
              refine w_baload X hx hZ eT A_b12 (i := 5) (rfl) (by decide) (z := (g0_123 5)) (rfl) (dq hby d0_211) ?_
              refine w_bastore X hx hZ eT A_b126 (i := 5) (rfl) (by have lk : (5 : Int32).toInt = 5 := rfl; omega) (dq hby d0_212) fun T h19 X eT W A' => ?_
              replace A_b12 := AV.other A_b12 W ne_b12_b126
              replace Z0 := Nat.le_trans Z0 (Nat.le_of_eq W.size.symm)
              replace N := Fr.snoc X N g_b126
              replace A_b126 := A'
              obtain ⟨g0_212, hg0_212⟩ : ∃ gg, gg = (upd g0_198 5 (((g0_123 5)).toInt8.toInt32)) := ⟨_, rfl⟩
              rw [← hg0_212] at A_b126
              refine w_iload X hx (dq hby d0_213) rfl ?_
              refine w_bipush X hx (dq hby d0_215) (z := 6) rfl ?_
              refine w_icmp_le X hx (dj hby d0_217) (fun hc217 => ?_) (fun hc217 => ?_)
              · refine w_iload X hx (dq hby d0_230) rfl ?_
                refine w_bipush X hx (dq hby d0_232) (z := 7) rfl ?_
                refine w_icmp_le X hx (dj hby d0_234) (fun hc234 => ?_) (fun hc234 => (?_ : False).elim)
                rotate_left
                · have lit32_1 : (0 : Int32).toInt = 0 := rfl
                  have lit32_2 : (1 : Int32).toInt = 1 := rfl
                  have lit32_3 : (2 : Int32).toInt = 2 := rfl
                  have lit32_4 : (3 : Int32).toInt = 3 := rfl
                  have lit32_5 : (4 : Int32).toInt = 4 := rfl
                  have lit32_6 : (5 : Int32).toInt = 5 := rfl
                  have lit32_7 : (6 : Int32).toInt = 6 := rfl
                  have lk : (7 : Int32).toInt = 7 := rfl
                  omega
                refine w_iload X hx (dq hby d0_247) rfl ?_
                refine w_bipush X hx (dq hby d0_249) (z := 8) rfl ?_
                refine w_icmp_le X hx (dj hby d0_251) (fun hc251 => ?_) (fun hc251 => (?_ : False).elim)
                rotate_left
                · have lit32_1 : (0 : Int32).toInt = 0 := rfl
                  have lit32_2 : (1 : Int32).toInt = 1 := rfl
                  have lit32_3 : (2 : Int32).toInt = 2 := rfl
                  have lit32_4 : (3 : Int32).toInt = 3 := rfl
                  have lit32_5 : (4 : Int32).toInt = 4 := rfl
                  have lit32_6 : (5 : Int32).toInt = 5 := rfl
                  have lit32_7 : (6 : Int32).toInt = 6 := rfl
                  have lit32_8 : (7 : Int32).toInt = 7 := rfl
                  have lk : (8 : Int32).toInt = 8 := rfl
                  omega
                have ag0 : Agr 0 (fun _ => (0 : Int32)) g0_123 := fun i hi => by omega
                have ag1 : Agr 1 g0_142 g0_123 := by rw [hg0_142]; exact agr_upd ag0 hS
                have ag2 : Agr 2 g0_156 g0_123 := by rw [hg0_156]; exact agr_upd ag1 hS
                have ag3 : Agr 3 g0_170 g0_123 := by rw [hg0_170]; exact agr_upd ag2 hS
                have ag4 : Agr 4 g0_184 g0_123 := by rw [hg0_184]; exact agr_upd ag3 hS
                have ag5 : Agr 5 g0_198 g0_123 := by rw [hg0_198]; exact agr_upd ag4 hS
                have ag6 : Agr 6 g0_212 g0_123 := by rw [hg0_212]; exact agr_upd ag5 hS
                have lk : (6 : Int32).toInt = 6 := rfl
                exact J264 T _ h19 g0_212 ⟨X, eT, Z0, N, A_b12, A_b126, fun i hi => ag6 i (by omega)⟩
              · refine w_aload X hx (dq hby d0_220) rfl rfl ?_
                refine w_bipush X hx (dq hby d0_222) (z := 6) rfl ?_
                refine w_aload X hx (dq hby d0_224) rfl rfl ?_
                refine w_bipush X hx (dq hby d0_226) (z := 6) rfl ?_
                refine w_baload X hx hZ eT A_b12 (i := 6) (rfl) (by decide) (z := (g0_123 6)) (rfl) (dq hby d0_228) ?_
                refine w_bastore X hx hZ eT A_b126 (i := 6) (rfl) (by have lk : (6 : Int32).toInt = 6 := rfl; omega) (dq hby d0_229) fun T h20 X eT W A' => ?_
                replace A_b12 := AV.other A_b12 W ne_b12_b126
                replace Z0 := Nat.le_trans Z0 (Nat.le_of_eq W.size.symm)
                replace N := Fr.snoc X N g_b126
                replace A_b126 := A'
                obtain ⟨g0_229, hg0_229⟩ : ∃ gg, gg = (upd g0_212 6 (((g0_123 6)).toInt8.toInt32)) := ⟨_, rfl⟩
                rw [← hg0_229] at A_b126
                refine w_iload X hx (dq hby d0_230) rfl ?_
                refine w_bipush X hx (dq hby d0_232) (z := 7) rfl ?_
                refine w_icmp_le X hx (dj hby d0_234) (fun hc234 => ?_) (fun hc234 => ?_)
                · refine w_iload X hx (dq hby d0_247) rfl ?_
                  refine w_bipush X hx (dq hby d0_249) (z := 8) rfl ?_
                  refine w_icmp_le X hx (dj hby d0_251) (fun hc251 => ?_) (fun hc251 => (?_ : False).elim)
                  rotate_left
                  · have lit32_1 : (0 : Int32).toInt = 0 := rfl
                    have lit32_2 : (1 : Int32).toInt = 1 := rfl
                    have lit32_3 : (2 : Int32).toInt = 2 := rfl
                    have lit32_4 : (3 : Int32).toInt = 3 := rfl
                    have lit32_5 : (4 : Int32).toInt = 4 := rfl
                    have lit32_6 : (5 : Int32).toInt = 5 := rfl
                    have lit32_7 : (6 : Int32).toInt = 6 := rfl
                    have lit32_8 : (7 : Int32).toInt = 7 := rfl
                    have lk : (8 : Int32).toInt = 8 := rfl
                    omega
                  have ag0 : Agr 0 (fun _ => (0 : Int32)) g0_123 := fun i hi => by omega
                  have ag1 : Agr 1 g0_142 g0_123 := by rw [hg0_142]; exact agr_upd ag0 hS
                  have ag2 : Agr 2 g0_156 g0_123 := by rw [hg0_156]; exact agr_upd ag1 hS
                  have ag3 : Agr 3 g0_170 g0_123 := by rw [hg0_170]; exact agr_upd ag2 hS
                  have ag4 : Agr 4 g0_184 g0_123 := by rw [hg0_184]; exact agr_upd ag3 hS
                  have ag5 : Agr 5 g0_198 g0_123 := by rw [hg0_198]; exact agr_upd ag4 hS
                  have ag6 : Agr 6 g0_212 g0_123 := by rw [hg0_212]; exact agr_upd ag5 hS
                  have ag7 : Agr 7 g0_229 g0_123 := by rw [hg0_229]; exact agr_upd ag6 hS
                  have lk : (7 : Int32).toInt = 7 := rfl
                  exact J264 T _ h20 g0_229 ⟨X, eT, Z0, N, A_b12, A_b126, fun i hi => ag7 i (by omega)⟩
                · refine w_aload X hx (dq hby d0_237) rfl rfl ?_
                  refine w_bipush X hx (dq hby d0_239) (z := 7) rfl ?_
                  refine w_aload X hx (dq hby d0_241) rfl rfl ?_
                  refine w_bipush X hx (dq hby d0_243) (z := 7) rfl ?_
                  refine w_baload X hx hZ eT A_b12 (i := 7) (rfl) (by decide) (z := (g0_123 7)) (rfl) (dq hby d0_245) ?_
                  refine w_bastore X hx hZ eT A_b126 (i := 7) (rfl) (by have lk : (7 : Int32).toInt = 7 := rfl; omega) (dq hby d0_246) fun T h21 X eT W A' => ?_
                  replace A_b12 := AV.other A_b12 W ne_b12_b126
                  replace Z0 := Nat.le_trans Z0 (Nat.le_of_eq W.size.symm)
                  replace N := Fr.snoc X N g_b126
                  replace A_b126 := A'
                  obtain ⟨g0_246, hg0_246⟩ : ∃ gg, gg = (upd g0_229 7 (((g0_123 7)).toInt8.toInt32)) := ⟨_, rfl⟩
                  rw [← hg0_246] at A_b126
                  refine w_iload X hx (dq hby d0_247) rfl ?_
                  refine w_bipush X hx (dq hby d0_249) (z := 8) rfl ?_
                  refine w_icmp_le X hx (dj hby d0_251) (fun hc251 => ?_) (fun hc251 => ?_)
                  · have ag0 : Agr 0 (fun _ => (0 : Int32)) g0_123 := fun i hi => by omega
                    have ag1 : Agr 1 g0_142 g0_123 := by rw [hg0_142]; exact agr_upd ag0 hS
                    have ag2 : Agr 2 g0_156 g0_123 := by rw [hg0_156]; exact agr_upd ag1 hS
                    have ag3 : Agr 3 g0_170 g0_123 := by rw [hg0_170]; exact agr_upd ag2 hS
                    have ag4 : Agr 4 g0_184 g0_123 := by rw [hg0_184]; exact agr_upd ag3 hS
                    have ag5 : Agr 5 g0_198 g0_123 := by rw [hg0_198]; exact agr_upd ag4 hS
                    have ag6 : Agr 6 g0_212 g0_123 := by rw [hg0_212]; exact agr_upd ag5 hS
                    have ag7 : Agr 7 g0_229 g0_123 := by rw [hg0_229]; exact agr_upd ag6 hS
                    have ag8 : Agr 8 g0_246 g0_123 := by rw [hg0_246]; exact agr_upd ag7 hS
                    have lk : (8 : Int32).toInt = 8 := rfl
                    exact J264 T _ h21 g0_246 ⟨X, eT, Z0, N, A_b12, A_b126, fun i hi => ag8 i (by omega)⟩
                  · refine w_aload X hx (dq hby d0_254) rfl rfl ?_
                    refine w_bipush X hx (dq hby d0_256) (z := 8) rfl ?_
                    refine w_aload X hx (dq hby d0_258) rfl rfl ?_
                    refine w_bipush X hx (dq hby d0_260) (z := 8) rfl ?_
                    refine w_baload X hx hZ eT A_b12 (i := 8) (rfl) (by decide) (z := (g0_123 8)) (rfl) (dq hby d0_262) ?_
                    refine w_bastore X hx hZ eT A_b126 (i := 8) (rfl) (by have lk : (8 : Int32).toInt = 8 := rfl; omega) (dq hby d0_263) fun T h22 X eT W A' => ?_
                    replace A_b12 := AV.other A_b12 W ne_b12_b126
                    replace Z0 := Nat.le_trans Z0 (Nat.le_of_eq W.size.symm)
                    replace N := Fr.snoc X N g_b126
                    replace A_b126 := A'
                    obtain ⟨g0_263, hg0_263⟩ : ∃ gg, gg = (upd g0_246 8 (((g0_123 8)).toInt8.toInt32)) := ⟨_, rfl⟩
                    rw [← hg0_263] at A_b126
                    have ag0 : Agr 0 (fun _ => (0 : Int32)) g0_123 := fun i hi => by omega
                    have ag1 : Agr 1 g0_142 g0_123 := by rw [hg0_142]; exact agr_upd ag0 hS
                    have ag2 : Agr 2 g0_156 g0_123 := by rw [hg0_156]; exact agr_upd ag1 hS
                    have ag3 : Agr 3 g0_170 g0_123 := by rw [hg0_170]; exact agr_upd ag2 hS
                    have ag4 : Agr 4 g0_184 g0_123 := by rw [hg0_184]; exact agr_upd ag3 hS
                    have ag5 : Agr 5 g0_198 g0_123 := by rw [hg0_198]; exact agr_upd ag4 hS
                    have ag6 : Agr 6 g0_212 g0_123 := by rw [hg0_212]; exact agr_upd ag5 hS
                    have ag7 : Agr 7 g0_229 g0_123 := by rw [hg0_229]; exact agr_upd ag6 hS
                    have ag8 : Agr 8 g0_246 g0_123 := by rw [hg0_246]; exact agr_upd ag7 hS
                    have ag9 : Agr 9 g0_263 g0_123 := by rw [hg0_263]; exact agr_upd ag8 hS
                    have lk : (9 : Int32).toInt = 9 := rfl
                    exact J264 T _ h22 g0_263 ⟨X, eT, Z0, N, A_b12, A_b126, fun i hi => ag9 i (by omega)⟩
set_option maxRecDepth 65536 in
set_option maxHeartbeats 40000000 in
theorem comes_1 {Post : Tables → Env → Array Value → State → Outcome → State → Prop} (hpost : ∀ tb e args s v u, (limb_1_1.after args s (.returned v) u = true ∧ limb_1_2.after args s (.returned v) u = true) → FrameEnd s (.returned v) u (Jvm.fieldLocs frame_1_writes args s ++ Jvm.arrayLocs frame_1_arrays args s ++ Jvm.staticLocs frame_1_statics s) 16 128 → Post tb e args s (.returned v) u) :
    ArmFor flags0 classFile x code maxLocals ret World_1 tables_1 room_1 Calls_1 rest_1 Pre_1 Post := by
  intro l hfl _ _ p e ha hc hk s m args below hf hA hF happ hP
  obtain ⟨hcalls, hrest, hpre⟩ := hP
  obtain ⟨-, -, -, hnamed, -, -, -, hat⟩ := (Spec.applies_iff hf).mp happ
  obtain ⟨hg, hn⟩ := and_e (Cond.before_iff.mp (show (Jvm.Cond.and given_1 narrow_1).before args s = true from hpre))
  obtain ⟨g0, k0⟩ := and_e hg
  obtain ⟨g1, k1⟩ := and_e k0
  obtain ⟨g2, k2⟩ := and_e k1
  obtain ⟨w0, w1, w2, rfl⟩ : ∃ w0 w1 w2 : Value, args = #[w0, w1, w2] := by
    have hs : args.size = 3 := by simpa [Cond.value, given_1] using g0
    obtain ⟨L⟩ := args
    match L, hs with
    | [w0, w1, w2], _ => exact ⟨w0, w1, w2, rfl⟩
  have hw := fun d (hd : d ∈ tables_1) => atoms_spec (ws := Jvm.Cond.code x code maxLocals ret :: tables_1) hat d (List.mem_cons_of_mem _ hd)
  obtain ⟨i0, ei0⟩ := isL_v g1
  obtain rfl : w0 = (.long i0) := Option.some.inj ei0
  obtain ⟨i1, ei1⟩ := isL_v g2
  obtain rfl : w1 = (.long i1) := Option.some.inj ei1
  obtain ⟨i2, ei2⟩ := is_v k2
  obtain rfl : w2 = (.int i2) := Option.some.inj ei2
  obtain ⟨n, o, h1, h2, h3, _, L, rfl, ⟨rfl, N⟩, hq⟩ := rm0 l s _ hw tables_1 i0 i1 i2 s.heap s.heap.size (Nat.le_refl _) p e ha hc hk s m _ below hf ((Spec.applies_iff_loose hf).mp happ).1 ⟨rfl, State.Warmed39.refl s, rfl⟩ trivial
  exact ⟨n, _, h1, h2, h3, hpost _ _ _ _ _ _ ⟨Cond.after_iff.mpr rfl, Cond.after_iff.mpr (eq_i res_at (Term.int_eval (1)) rfl)⟩ ⟨hq.1, hq.2.1, hq.2.2.sift fun y hy => Or.inr (N y hy)⟩⟩
theorem main_1_1 : Claimed_1_1 := comes_1 fun _ _ _ _ _ _ h hF => ⟨h.1, hF⟩
theorem main_1_2 : Claimed_1_2 := comes_1 fun _ _ _ _ _ _ h hF => ⟨h.2, hF⟩

end Jvm.Pilot.@@N@@
namespace Jvm.Pilot.@@N@@
open Jvm Jvm.ClassFile Sem Op Lib Jvm.Free Jvm.Stand Jvm.Pilot.@@N@@.Jvm.D
/-! MADE BY PROGRAM (witnessworld.py) out of the Statement's table words and the real class files: 9 classes; the members and pool entries that the words name. The judged class is class 1, her method 3. -/
namespace start1
open Jvm.ClassFile
def u (s : String) : CpInfo := .utf8 (stringToUtf16 s)
/-- a pool by its gaps: so many unusable entries, then the entry; so many at the end -/
def gap : Nat → List CpInfo → List CpInfo
  | 0, r => r
  | n + 1, r => .unusable :: gap n r
def poolList (es : List (Nat × CpInfo)) (last : Nat) : List CpInfo := es.foldr (fun e r => gap e.1 (e.2 :: r)) (gap last [])
def pool (es : List (Nat × CpInfo)) (last : Nat) : Array CpInfo := ⟨poolList es last⟩
def fileOf (pool : Array CpInfo) (this : Nat) (attrs : Array Attribute := #[]) (ms : Array MethodInfo := #[]) (fl : Nat := 33) (sup : Nat := 0) (ifs : Array Nat := #[]) (fds : Array FieldInfo := #[]) : ClassFile where
  minorVersion := 0
  majorVersion := 65
  constantPool := pool
  accessFlags := fl
  thisClass := this
  superClass := sup
  interfaces := ifs
  fields := fds
  methods := ms
  attributes := attrs
def plain (name : String) (sup : Option ClassId) : Class where
  name := name
  kind := .ordinary
  loader := none
  accessFlags := 33
  super := sup
  interfaces := #[]
  cf := none
  fields := #[]
  methods := #[]
  instanceTypes := #[]
  staticTypes := #[]
  resolved := #[]
  callSites := []
  init := .initialized
  statics := none
  mirror := none

def pool0 : Array CpInfo := pool [(5, u "<init>"), (0, u "()V"), (1, .class_ 10), (1, u "java/lang/Object")] 113

def k0m0 : Method := { name := "<init>", desc := "()V", sig := { parameters := [], returnType := none }, accessFlags := 1, code := none }
/-- java/lang/Object -/
def k0 : Class := { plain "java/lang/Object" none with
  accessFlags := 33
  interfaces := #[]
  cf := some (fileOf pool0 8 #[] #[{ accessFlags := 1, nameIndex := 5, descriptorIndex := 6, attributes := #[] }] 33 0 #[] #[])
  fields := #[]
  methods := #[k0m0]
  instanceTypes := #[]
  staticTypes := #[]
  resolved := Array.replicate 124 none
  statics := none }

def pool1 : Array CpInfo := pool [(2, .class_ 4), (1, u "java/lang/Object"), (0, u "<init>"), (0, u "()V"), (0, .integer 2147483647), (0, .methodref 9 10), (0, .class_ 11), (0, .nameAndType 12 13), (0, u "com/example/bytewright/bytewright/zero/LayoutReversePinLaw"), (0, u "b"), (0, u "(JJI)B"), (0, .methodref 15 16), (0, .class_ 17), (0, .nameAndType 18 19), (0, u "com/example/bytewright/bytewright/zero/Layout"), (0, u "reverse"), (0, u "([B)V"), (0, .methodref 9 21), (0, .nameAndType 22 23), (0, u "at"), (0, u "([B[BII)Z"), (3, u "law"), (0, u "(JJI)Z")] 4

def k1m0 : Method := { name := "<init>", desc := "()V", sig := { parameters := [], returnType := none }, accessFlags := 2, code := none }
def k1c1 : Code := { maxStack := 5, maxLocals := 5, code := method_2_code, exceptionTable := #[], attributes := #[] }
def k1m1 : Method := { name := "b", desc := "(JJI)B", sig := { parameters := [.long, .long, .int], returnType := some .byte }, accessFlags := 10, code := some k1c1 }
def k1c2 : Code := { maxStack := 4, maxLocals := 4, code := method_3_code, exceptionTable := #[], attributes := #[] }
def k1m2 : Method := { name := "at", desc := "([B[BII)Z", sig := { parameters := [(.array .byte), (.array .byte), .int, .int], returnType := some .boolean }, accessFlags := 10, code := some k1c2 }
def k1c3 : Code := { maxStack := 7, maxLocals := 8, code := code, exceptionTable := #[], attributes := #[] }
def k1m3 : Method := { name := "law", desc := "(JJI)Z", sig := { parameters := [.long, .long, .int], returnType := some .boolean }, accessFlags := 9, code := some k1c3 }
/-- com/example/bytewright/bytewright/zero/LayoutReversePinLaw -/
def k1 : Class := { plain "com/example/bytewright/bytewright/zero/LayoutReversePinLaw" (some 0) with
  accessFlags := 49
  interfaces := #[]
  cf := some (fileOf pool1 9 #[] #[{ accessFlags := 2, nameIndex := 5, descriptorIndex := 6, attributes := #[] }, { accessFlags := 10, nameIndex := 12, descriptorIndex := 13, attributes := #[] }, { accessFlags := 10, nameIndex := 22, descriptorIndex := 23, attributes := #[] }, { accessFlags := 9, nameIndex := 27, descriptorIndex := 28, attributes := #[] }] 49 2 #[] #[])
  fields := #[]
  methods := #[k1m0, k1m1, k1m2, k1m3]
  instanceTypes := #[]
  staticTypes := #[]
  resolved := Array.replicate 33 none
  statics := none }

def pool2 : Array CpInfo := pool [(2, .class_ 4), (1, u "java/lang/Object"), (0, u "<init>"), (0, u "()V"), (1, .class_ 10), (1, u "com/example/bytewright/bytewright/zero/Layout"), (0, u "U16"), (0, u "Ljava/lang/invoke/VarHandle;"), (9, u "U32"), (7, u "U64"), (9, u "MAGIC"), (0, u "[B"), (18, u "MODE"), (0, u "I"), (2, u "RESERVED"), (1, u "ROOT_SIZE"), (1, u "ROOT_COUNT"), (1, u "HEADER"), (1, u "ENTRY_FIELDS"), (0, u "ELEMENT_FIELDS"), (0, u "DATA_TYPE"), (1, u "DATA_SIZE"), (0, u "NESTED_FIELDS"), (0, u "NESTED_COUNT"), (0, u "STRING_FIELDS"), (0, u "VERSION_NAME"), (0, u "Ljava/lang/String;"), (2, u "VERSION"), (2, u "MAX_CHARACTER_OCTETS"), (1, u "PAGE"), (10, u "reverse"), (0, u "([B)V")] 4

def k2m0 : Method := { name := "<init>", desc := "()V", sig := { parameters := [], returnType := none }, accessFlags := 2, code := none }
def k2c1 : Code := { maxStack := 5, maxLocals := 3, code := prog_64_method_7_code, exceptionTable := #[], attributes := #[] }
def k2m1 : Method := { name := "reverse", desc := "([B)V", sig := { parameters := [(.array .byte)], returnType := none }, accessFlags := 8, code := some k2c1 }
/-- com/example/bytewright/bytewright/zero/Layout -/
def k2 : Class := { plain "com/example/bytewright/bytewright/zero/Layout" (some 0) with
  accessFlags := 48
  interfaces := #[]
  cf := some (fileOf pool2 8 #[] #[{ accessFlags := 2, nameIndex := 5, descriptorIndex := 6, attributes := #[] }, { accessFlags := 8, nameIndex := 100, descriptorIndex := 101, attributes := #[] }] 48 2 #[] #[{ accessFlags := 24, nameIndex := 40, descriptorIndex := 41, attributes := #[] }, { accessFlags := 24, nameIndex := 60, descriptorIndex := 61, attributes := #[] }, { accessFlags := 24, nameIndex := 64, descriptorIndex := 61, attributes := #[] }, { accessFlags := 24, nameIndex := 66, descriptorIndex := 61, attributes := #[] }, { accessFlags := 24, nameIndex := 68, descriptorIndex := 61, attributes := #[] }, { accessFlags := 24, nameIndex := 70, descriptorIndex := 61, attributes := #[] }, { accessFlags := 24, nameIndex := 72, descriptorIndex := 61, attributes := #[] }, { accessFlags := 24, nameIndex := 73, descriptorIndex := 61, attributes := #[] }, { accessFlags := 24, nameIndex := 74, descriptorIndex := 61, attributes := #[] }, { accessFlags := 24, nameIndex := 76, descriptorIndex := 61, attributes := #[] }, { accessFlags := 24, nameIndex := 77, descriptorIndex := 61, attributes := #[] }, { accessFlags := 24, nameIndex := 78, descriptorIndex := 61, attributes := #[] }, { accessFlags := 24, nameIndex := 79, descriptorIndex := 61, attributes := #[] }, { accessFlags := 24, nameIndex := 80, descriptorIndex := 81, attributes := #[] }, { accessFlags := 24, nameIndex := 84, descriptorIndex := 81, attributes := #[] }, { accessFlags := 24, nameIndex := 87, descriptorIndex := 61, attributes := #[] }, { accessFlags := 24, nameIndex := 89, descriptorIndex := 61, attributes := #[] }, { accessFlags := 26, nameIndex := 11, descriptorIndex := 12, attributes := #[] }, { accessFlags := 26, nameIndex := 22, descriptorIndex := 12, attributes := #[] }, { accessFlags := 26, nameIndex := 30, descriptorIndex := 12, attributes := #[] }])
  fields := #[{ name := "MAGIC", type := (.array .byte), accessFlags := 24, slot := 0, constantValue := 0 }, { name := "MODE", type := .int, accessFlags := 24, slot := 1, constantValue := 0 }, { name := "RESERVED", type := .int, accessFlags := 24, slot := 2, constantValue := 0 }, { name := "ROOT_SIZE", type := .int, accessFlags := 24, slot := 3, constantValue := 0 }, { name := "ROOT_COUNT", type := .int, accessFlags := 24, slot := 4, constantValue := 0 }, { name := "HEADER", type := .int, accessFlags := 24, slot := 5, constantValue := 0 }, { name := "ENTRY_FIELDS", type := .int, accessFlags := 24, slot := 6, constantValue := 0 }, { name := "ELEMENT_FIELDS", type := .int, accessFlags := 24, slot := 7, constantValue := 0 }, { name := "DATA_TYPE", type := .int, accessFlags := 24, slot := 8, constantValue := 0 }, { name := "DATA_SIZE", type := .int, accessFlags := 24, slot := 9, constantValue := 0 }, { name := "NESTED_FIELDS", type := .int, accessFlags := 24, slot := 10, constantValue := 0 }, { name := "NESTED_COUNT", type := .int, accessFlags := 24, slot := 11, constantValue := 0 }, { name := "STRING_FIELDS", type := .int, accessFlags := 24, slot := 12, constantValue := 0 }, { name := "VERSION_NAME", type := (.object "java/lang/String"), accessFlags := 24, slot := 13, constantValue := 0 }, { name := "VERSION", type := (.object "java/lang/String"), accessFlags := 24, slot := 14, constantValue := 0 }, { name := "MAX_CHARACTER_OCTETS", type := .int, accessFlags := 24, slot := 15, constantValue := 0 }, { name := "PAGE", type := .int, accessFlags := 24, slot := 16, constantValue := 0 }, { name := "U16", type := (.object "java/lang/invoke/VarHandle"), accessFlags := 26, slot := 17, constantValue := 0 }, { name := "U32", type := (.object "java/lang/invoke/VarHandle"), accessFlags := 26, slot := 18, constantValue := 0 }, { name := "U64", type := (.object "java/lang/invoke/VarHandle"), accessFlags := 26, slot := 19, constantValue := 0 }]
  methods := #[k2m0, k2m1]
  instanceTypes := #[]
  staticTypes := #[(.array .byte), .int, .int, .int, .int, .int, .int, .int, .int, .int, .int, .int, .int, (.object "java/lang/String"), (.object "java/lang/String"), .int, .int, (.object "java/lang/invoke/VarHandle"), (.object "java/lang/invoke/VarHandle"), (.object "java/lang/invoke/VarHandle")]
  resolved := Array.replicate 106 none
  statics := none }

def pool3 : Array CpInfo := pool [(1, u "java/lang/Cloneable"), (0, .class_ 1), (0, u "java/lang/Object"), (0, .class_ 3)] 3

/-- java/lang/Cloneable -/
def k3 : Class := { plain "java/lang/Cloneable" (some 0) with
  accessFlags := 1537
  interfaces := #[]
  cf := some (fileOf pool3 2 #[] #[] 1537 4 #[] #[])
  fields := #[]
  methods := #[]
  instanceTypes := #[]
  staticTypes := #[]
  resolved := Array.replicate 8 none
  statics := none }

def pool4 : Array CpInfo := pool [(1, u "java/io/Serializable"), (0, .class_ 1), (0, u "java/lang/Object"), (0, .class_ 3)] 3

/-- java/io/Serializable -/
def k4 : Class := { plain "java/io/Serializable" (some 0) with
  accessFlags := 1537
  interfaces := #[]
  cf := some (fileOf pool4 2 #[] #[] 1537 4 #[] #[])
  fields := #[]
  methods := #[]
  instanceTypes := #[]
  staticTypes := #[]
  resolved := Array.replicate 8 none
  statics := none }

/-- the primitive byte -/
def k5 : Class := { plain "byte" none with kind := .primitive 'B', accessFlags := 0x411 }
/-- [B -/
def k6 : Class := { plain "[B" (some 0) with kind := .array 5 .byte, interfaces := #[3, 4], accessFlags := 1041 }

/-- the primitive int -/
def k7 : Class := { plain "int" none with kind := .primitive 'I', accessFlags := 0x411 }
/-- [I -/
def k8 : Class := { plain "[I" (some 0) with kind := .array 7 .int, interfaces := #[3, 4], accessFlags := 1041 }

def heap : Heap := #[]
def classes : Array Class := #[k0, k1, k2, k3, k4, k5, k6, k7, k8]
def interned : List (Array UInt16 × Addr) := []
def slotsUsed : Nat := 0
def theMethod : MethodId := ⟨1, 3⟩
def args0 : Array Value := #[.long 5, .long 7, .int 3]
def aboutOver (below : List Frame) : State where
  vm := { classes := classes, interned := interned.toArray }
  heap := heap
  slotsUsed := slotsUsed
  threads := #[{ frames := .invoking theMethod args0 :: below }]
def below0 : List Frame := [.native { method := ⟨0, 0⟩, args := #[] }]
def about1 : State := aboutOver below0
def p0 : Program := .bare "" "" ""
def e0 : Env := launch0.env 0 0 0
theorem w_frames : about1.frames = Frame.invoking theMethod args0 :: below0 := rfl
set_option maxRecDepth 65536 in
theorem w_args : argsFit about1.vm theMethod args0 = true := by decide +kernel
set_option maxRecDepth 65536 in
theorem w_heap : heapFits about1 = true := by decide +kernel
set_option maxRecDepth 65536 in
theorem w_runnable : about1.curStatus? = some .runnable := by decide +kernel
set_option maxRecDepth 65536 in
theorem w_alone : about1.alone = true := by decide +kernel
set_option maxRecDepth 65536 in
theorem w_named : about1.methodNamed? x = some theMethod := by decide +kernel
set_option maxRecDepth 65536 in
theorem w_hears : about1.hears theMethod below0 = true := by decide +kernel
set_option maxRecDepth 65536 in
theorem w_ripe : about1.ripe theMethod args0 below0 = true := by decide +kernel
theorem w_running : about1.status = .running := rfl
set_option maxRecDepth 65536 in
theorem w_room : about1.hasRoom e0.platform room_1 = true :=
  launch0.hasRoom_least _ room_1 (by decide +kernel) (by decide +kernel) (by decide +kernel) (by decide +kernel) (by decide +kernel) (by decide +kernel)
theorem allAtoms_all (ts : List Jvm.Cond) (a : Array Jvm.Value) (st : Jvm.State) : (allAtoms ts).before a st = ts.all (fun c => c.before a st) := by
  induction ts with
  | nil => rfl
  | cons c t ih =>
    show (Jvm.Cond.and c (allAtoms t)).before a st = _
    rw [Jvm.Cond.before_and, ih, List.all_cons]
def words1 : List Jvm.Cond := Jvm.Cond.code x code maxLocals ret :: tables_1
/-- a 'code' word, met by the world's own term for the bytes: nothing is compared byte by byte -/
theorem code_word {y : MethodName} {bytes : ByteArray} {mx : Nat} {rt : Option FieldType} {a : Array Value} {s : State} {m : MethodId} {meth : Method} {c : Code} (h1 : s.methodNamed? y = some m) (h2 : s.vm.method? m = some meth) (h3 : meth.code = some c) (h4 : c.code = bytes)
    (h5 : (c.maxLocals == mx && c.exceptionTable.isEmpty && decide (c.maxStack ≤ mostOperands) && decide (meth.sig.returnType = rt) && !meth.locks && decide (parseMethodDescriptor y.desc = some meth.sig)) = true) : (Jvm.Cond.code y bytes mx rt).before a s = true := by
  simp only [Bool.and_eq_true, beq_iff_eq, Bool.not_eq_true', decide_eq_true_eq] at h5
  obtain ⟨⟨⟨⟨⟨g1, g2⟩, g3⟩, g4⟩, g5⟩, g6⟩ := h5
  simp [Cond.before, Cond.holds, Cond.value, h1, h2, h3, h4, g1, g2, g3, g4, g5, g6]
def isCode : Jvm.Cond → Bool
  | .code _ _ _ _ => true
  | _ => false
theorem all_split {L : List Jvm.Cond} {P : Jvm.Cond → Bool} (h1 : L.all (fun c => isCode c || P c) = true) (h2 : ∀ c ∈ L.filter isCode, P c = true) : L.all P = true := by
  refine List.all_eq_true.mpr fun c hc => ?_
  have h := List.all_eq_true.mp h1 c hc
  rcases Bool.eq_false_or_eq_true (isCode c) with hi | hi
  · exact h2 c (List.mem_filter.mpr ⟨hc, hi⟩)
  · simpa [hi] using h
set_option maxRecDepth 65536 in
theorem w_c0 : (Jvm.Cond.code x code maxLocals ret).before args0 about1 = true := code_word (m := ⟨1, 3⟩) (meth := k1m3) (c := k1c3) (by decide +kernel) rfl rfl rfl (by decide +kernel)
set_option maxRecDepth 65536 in
theorem w_c1 : (Jvm.Cond.code ({ cls := "com/example/bytewright/bytewright/zero/LayoutReversePinLaw", name := "b", desc := "(JJI)B" } : Jvm.MethodName) method_2_code (5 : Nat) (Option.some Jvm.ClassFile.FieldType.byte)).before args0 about1 = true := code_word (m := ⟨1, 1⟩) (meth := k1m1) (c := k1c1) (by decide +kernel) rfl rfl rfl (by decide +kernel)
set_option maxRecDepth 65536 in
theorem w_c2 : (Jvm.Cond.code ({ cls := "com/example/bytewright/bytewright/zero/Layout", name := "reverse", desc := "([B)V" } : Jvm.MethodName) prog_64_method_7_code (3 : Nat) (Option.none : Option Jvm.ClassFile.FieldType)).before args0 about1 = true := code_word (m := ⟨2, 1⟩) (meth := k2m1) (c := k2c1) (by decide +kernel) rfl rfl rfl (by decide +kernel)
set_option maxRecDepth 65536 in
theorem w_c3 : (Jvm.Cond.code ({ cls := "com/example/bytewright/bytewright/zero/LayoutReversePinLaw", name := "at", desc := "([B[BII)Z" } : Jvm.MethodName) method_3_code (4 : Nat) (Option.some Jvm.ClassFile.FieldType.boolean)).before args0 about1 = true := code_word (m := ⟨1, 2⟩) (meth := k1m2) (c := k1c2) (by decide +kernel) rfl rfl rfl (by decide +kernel)
def codes1 : List Jvm.Cond := [Jvm.Cond.code x code maxLocals ret, Jvm.Cond.code ({ cls := "com/example/bytewright/bytewright/zero/LayoutReversePinLaw", name := "b", desc := "(JJI)B" } : Jvm.MethodName) method_2_code (5 : Nat) (Option.some Jvm.ClassFile.FieldType.byte), Jvm.Cond.code ({ cls := "com/example/bytewright/bytewright/zero/Layout", name := "reverse", desc := "([B)V" } : Jvm.MethodName) prog_64_method_7_code (3 : Nat) (Option.none : Option Jvm.ClassFile.FieldType), Jvm.Cond.code ({ cls := "com/example/bytewright/bytewright/zero/LayoutReversePinLaw", name := "at", desc := "([B[BII)Z" } : Jvm.MethodName) method_3_code (4 : Nat) (Option.some Jvm.ClassFile.FieldType.boolean)]
set_option maxRecDepth 65536 in
theorem codes_eq : words1.filter isCode = codes1 := rfl
theorem w_codes : ∀ c ∈ words1.filter isCode, c.before args0 about1 = true := by
  rw [codes_eq]
  intro c hc
  simp only [codes1, List.mem_cons, List.not_mem_nil, or_false] at hc
  rcases hc with rfl | rfl | rfl | rfl
  · exact w_c0
  · exact w_c1
  · exact w_c2
  · exact w_c3
set_option maxRecDepth 65536 in
theorem w_t1 : words1.all (fun c => isCode c || c.before args0 about1) = true := by decide +kernel
theorem w_tables : (allAtoms (Jvm.Cond.code x code maxLocals ret :: tables_1)).before args0 about1 = true := by
  rw [allAtoms_all]
  show words1.all (fun c => c.before args0 about1) = true
  refine all_split ?_ w_codes
  rw [w_t1]
set_option maxRecDepth 65536 in
theorem w_case : (Jvm.Cond.and given_1 narrow_1).before args0 about1 = true := by decide +kernel
theorem w_applies : (headSpec (Jvm.Cond.code x code maxLocals ret :: tables_1) room_1).applies x e0.platform about1 = true :=
  (Spec.applies_iff w_frames).mpr ⟨w_running, w_runnable, w_alone, w_named, w_hears, w_ripe, w_room, w_tables⟩
theorem atStart : AtStart classFile x code maxLocals ret World_1 tables_1 room_1 Calls_1 rest_1 Pre_1 launch0 p0 e0 about1 theMethod args0 below0 :=
  ⟨lists_1, trivial, launch0.admits_env _ _ _, launch0.least_env, fairChoices_fair.cas, fairChoices_fair.clock, w_frames, w_args, w_heap, w_applies, trivial, trivial, w_case⟩
end start1
theorem witness_1 : WitnessClaimed_1 := ⟨start1.p0, start1.e0, start1.about1, start1.theMethod, start1.args0, start1.below0, start1.atStart⟩
end Jvm.Pilot.@@N@@
