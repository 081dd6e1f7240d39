import JvmDerived
import JvmDerived.Pilot.@@N@@Statement
import JvmDerived.Pilot.@@N@@Code
set_option linter.unusedVariables false
set_option linter.unusedSimpArgs false
@@BLOCK:NumsL.lean.txt@@
namespace Jvm.Pilot.@@N@@
open Jvm Jvm.ClassFile Sem Op Lib Jvm.Free Jvm.Stand Jvm.LawKit Jvm.RoadKit Bundle Jvm.Pilot.@@N@@.Jvm.D
section Kit
variable {p : Program} {l : Launch} {e : Env} {R : Room} {s : State} {m : MethodId} {args : Array Value} {below : List Frame} {meth : Method} {c : Code} {T : State} {locs : List Loc} {cells slots : Nat} {Z : State} {a0 : Array Value} {h : Heap}
variable {Q : Option Value → Heap → List Loc → Prop} {C S : Nat} {pc pc' : Nat} {Ls Ls' : Array Slot} {rest : List Value}
/-- the goal of a walk: from the state σ the run comes to its end, which is as Q says -/
def Go (p : Program) (e : Env) (below : List Frame) (s : State) (Q : Option Value → Heap → List Loc → Prop) (C S : Nat) (σ : State) : Prop :=
  ∃ s₂ o, Steps p.tables e below σ s₂ ∧ s₂.status = .running ∧ Ended s₂ below o ∧ ∃ v L, o = .returned v ∧ Q v s₂.heap L ∧ FrameEnd s o s₂ L C S
theorem Go.step {σ τ : State} (st : ∀ t, Steps p.tables e below τ t → Steps p.tables e below σ t) (k : Go p e below s Q C S τ) : Go p e below s Q C S σ := by
  obtain ⟨s₂, o, h1, h2⟩ := k
  exact ⟨s₂, o, st _ h1, h2⟩
theorem Go.mono {Q' : Option Value → Heap → List Loc → Prop} {σ : State} (k : Go p e below s Q C S σ) (hq : ∀ v h L, Q v h L → Q' v h L) : Go p e below s Q' C S σ := by
  obtain ⟨s₂, o, h1, h2, h3, v, L, h4, h5, h6⟩ := k
  exact ⟨s₂, o, h1, h2, h3, v, L, h4, hq _ _ _ h5, h6⟩
/-- a join: the road behind it is walked once -/
theorem w_j1 {A0 : Type} {σ : State} (F : A0 → State) (P : A0 → Prop) (hJ : ∀ a0, P a0 → Go p e below s Q C S (F a0)) (hB : (∀ a0, P a0 → Go p e below s Q C S (F a0)) → Go p e below s Q C S σ) : Go p e below s Q C S σ := hB hJ
theorem w_j2 {A0 A1 : Type} {σ : State} (F : A0 → A1 → State) (P : A0 → A1 → Prop) (hJ : ∀ a0 a1, P a0 a1 → Go p e below s Q C S (F a0 a1)) (hB : (∀ a0 a1, P a0 a1 → Go p e below s Q C S (F a0 a1)) → Go p e below s Q C S σ) : Go p e below s Q C S σ := hB hJ
theorem w_j3 {A0 A1 A2 : Type} {σ : State} (F : A0 → A1 → A2 → State) (P : A0 → A1 → A2 → Prop) (hJ : ∀ a0 a1 a2, P a0 a1 a2 → Go p e below s Q C S (F a0 a1 a2)) (hB : (∀ a0 a1 a2, P a0 a1 a2 → Go p e below s Q C S (F a0 a1 a2)) → Go p e below s Q C S σ) : Go p e below s Q C S σ := hB hJ
theorem w_j4 {A0 A1 A2 A3 : Type} {σ : State} (F : A0 → A1 → A2 → A3 → State) (P : A0 → A1 → A2 → A3 → Prop) (hJ : ∀ a0 a1 a2 a3, P a0 a1 a2 a3 → Go p e below s Q C S (F a0 a1 a2 a3)) (hB : (∀ a0 a1 a2 a3, P a0 a1 a2 a3 → Go p e below s Q C S (F a0 a1 a2 a3)) → Go p e below s Q C S σ) : Go p e below s Q C S σ := hB hJ
theorem w_j5 {A0 A1 A2 A3 A4 : Type} {σ : State} (F : A0 → A1 → A2 → A3 → A4 → State) (P : A0 → A1 → A2 → A3 → A4 → Prop) (hJ : ∀ a0 a1 a2 a3 a4, P a0 a1 a2 a3 a4 → Go p e below s Q C S (F a0 a1 a2 a3 a4)) (hB : (∀ a0 a1 a2 a3 a4, P a0 a1 a2 a3 a4 → Go p e below s Q C S (F a0 a1 a2 a3 a4)) → Go p e below s Q C S σ) : Go p e below s Q C S σ := hB hJ
theorem w_j6 {A0 A1 A2 A3 A4 A5 : Type} {σ : State} (F : A0 → A1 → A2 → A3 → A4 → A5 → State) (P : A0 → A1 → A2 → A3 → A4 → A5 → Prop) (hJ : ∀ a0 a1 a2 a3 a4 a5, P a0 a1 a2 a3 a4 a5 → Go p e below s Q C S (F a0 a1 a2 a3 a4 a5)) (hB : (∀ a0 a1 a2 a3 a4 a5, P a0 a1 a2 a3 a4 a5 → Go p e below s Q C S (F a0 a1 a2 a3 a4 a5)) → Go p e below s Q C S σ) : Go p e below s Q C S σ := hB hJ
theorem w_j7 {A0 A1 A2 A3 A4 A5 A6 : Type} {σ : State} (F : A0 → A1 → A2 → A3 → A4 → A5 → A6 → State) (P : A0 → A1 → A2 → A3 → A4 → A5 → A6 → Prop) (hJ : ∀ a0 a1 a2 a3 a4 a5 a6, P a0 a1 a2 a3 a4 a5 a6 → Go p e below s Q C S (F a0 a1 a2 a3 a4 a5 a6)) (hB : (∀ a0 a1 a2 a3 a4 a5 a6, P a0 a1 a2 a3 a4 a5 a6 → Go p e below s Q C S (F a0 a1 a2 a3 a4 a5 a6)) → Go p e below s Q C S σ) : Go p e below s Q C S σ := hB hJ
theorem w_eqI {x z : Int32} (hz : x = z) (k : Go p e below s Q C S (T.setTop (mkF m pc Ls (.int z :: rest)))) : Go p e below s Q C S (T.setTop (mkF m pc Ls (.int x :: rest))) := hz ▸ k
theorem w_eqJ {x z : Int64} (hz : x = z) (k : Go p e below s Q C S (T.setTop (mkF m pc Ls (.long z :: rest)))) : Go p e below s Q C S (T.setTop (mkF m pc Ls (.long x :: rest))) := hz ▸ k
def Dc (code : ByteArray) (pc : Nat) (i : Instr) (n pc' : Nat) : Prop := decode code pc = .ok (i, n) ∧ pc + n = pc'
def Dj (code : ByteArray) (pc : Nat) (i : Instr) (o : Int) (pcT pcF : Nat) : Prop := decode code pc = .ok (i, 3) ∧ 0 ≤ (pc : Int) + o ∧ ((pc : Int) + o).toNat = pcT ∧ pc + 3 = pcF
theorem dq {code : ByteArray} {i : Instr} {n : Nat} (hq : c.code = code) (d : Dc code pc i n pc') : Dc c.code pc i n pc' := hq ▸ d
theorem dj {code : ByteArray} {i : Instr} {o : Int} {pcT pcF : Nat} (hq : c.code = code) (d : Dj code pc i o pcT pcF) : Dj c.code pc i o pcT pcF := hq ▸ d
abbrev St (p : Program) (l : Launch) (e : Env) (R : Room) (s : State) (m : MethodId) (args : Array Value) (below : List Frame) (meth : Method) (c : Code) (T : State) (locs : List Loc) (cells slots : Nat) : Prop := Stand p l e R s m args below meth c T locs cells slots
/-! loads, stores, constants -/
theorem w_iload (X : Stand p l e R s m args below meth c T locs cells slots) (hx : p.tables.exec = Jvm.exec) {n : Nat} {z : Int32} (hd : Dc c.code pc (.iload n) 2 pc') (hl : Ls[n]? = some (.val (.int z))) (k : Go p e below s Q C S (T.setTop (mkF m pc' Ls (.int z :: rest)))) : Go p e below s Q C S (T.setTop (mkF m pc Ls (rest))) := by
  obtain ⟨hd, rfl⟩ := hd; exact k.step fun _ t => XS.iload X.here hx rfl hd hl t
theorem w_iloadN (X : Stand p l e R s m args below meth c T locs cells slots) (hx : p.tables.exec = Jvm.exec) {n : Fin 4} {z : Int32} (hd : Dc c.code pc (.iload_n n) 1 pc') (hl : Ls[n.val]? = some (.val (.int z))) (k : Go p e below s Q C S (T.setTop (mkF m pc' Ls (.int z :: rest)))) : Go p e below s Q C S (T.setTop (mkF m pc Ls (rest))) := by
  obtain ⟨hd, rfl⟩ := hd; exact k.step fun _ t => XS.iloadN X.here hx rfl hd hl t
theorem w_istore (X : Stand p l e R s m args below meth c T locs cells slots) (hx : p.tables.exec = Jvm.exec) {n : Nat} {x z : Int32} (hd : Dc c.code pc (.istore n) 2 pc') (hz : z = x) (hs : storeLocals Ls n (.int z) = some Ls') (k : Go p e below s Q C S (T.setTop (mkF m pc' Ls' (rest)))) : Go p e below s Q C S (T.setTop (mkF m pc Ls (.int x :: rest))) := by
  obtain ⟨hd, rfl⟩ := hd; subst hz; exact k.step fun _ t => XS.istore X.here hx rfl hd rfl hs t
theorem w_istoreN (X : Stand p l e R s m args below meth c T locs cells slots) (hx : p.tables.exec = Jvm.exec) {n : Fin 4} {x z : Int32} (hd : Dc c.code pc (.istore_n n) 1 pc') (hz : z = x) (hs : storeLocals Ls n.val (.int z) = some Ls') (k : Go p e below s Q C S (T.setTop (mkF m pc' Ls' (rest)))) : Go p e below s Q C S (T.setTop (mkF m pc Ls (.int x :: rest))) := by
  obtain ⟨hd, rfl⟩ := hd; subst hz; exact k.step fun _ t => XS.istoreN X.here hx rfl hd rfl hs t
theorem w_lload (X : Stand p l e R s m args below meth c T locs cells slots) (hx : p.tables.exec = Jvm.exec) {n : Nat} {z : Int64} (hd : Dc c.code pc (.lload n) 2 pc') (hl : Ls[n]? = some (.val (.long z))) (k : Go p e below s Q C S (T.setTop (mkF m pc' Ls (.long z :: rest)))) : Go p e below s Q C S (T.setTop (mkF m pc Ls (rest))) := by
  obtain ⟨hd, rfl⟩ := hd; exact k.step fun _ t => XS.lload X.here hx rfl hd hl t
theorem w_lloadN (X : Stand p l e R s m args below meth c T locs cells slots) (hx : p.tables.exec = Jvm.exec) {n : Fin 4} {z : Int64} (hd : Dc c.code pc (.lload_n n) 1 pc') (hl : Ls[n.val]? = some (.val (.long z))) (k : Go p e below s Q C S (T.setTop (mkF m pc' Ls (.long z :: rest)))) : Go p e below s Q C S (T.setTop (mkF m pc Ls (rest))) := by
  obtain ⟨hd, rfl⟩ := hd; exact k.step fun _ t => XS.lloadN X.here hx rfl hd hl t
theorem w_lstore (X : Stand p l e R s m args below meth c T locs cells slots) (hx : p.tables.exec = Jvm.exec) {n : Nat} {x z : Int64} (hd : Dc c.code pc (.lstore n) 2 pc') (hz : z = x) (hs : storeLocals Ls n (.long z) = some Ls') (k : Go p e below s Q C S (T.setTop (mkF m pc' Ls' (rest)))) : Go p e below s Q C S (T.setTop (mkF m pc Ls (.long x :: rest))) := by
  obtain ⟨hd, rfl⟩ := hd; subst hz; exact k.step fun _ t => XS.lstore X.here hx rfl hd rfl hs t
theorem w_lstoreN (X : Stand p l e R s m args below meth c T locs cells slots) (hx : p.tables.exec = Jvm.exec) {n : Fin 4} {x z : Int64} (hd : Dc c.code pc (.lstore_n n) 1 pc') (hz : z = x) (hs : storeLocals Ls n.val (.long z) = some Ls') (k : Go p e below s Q C S (T.setTop (mkF m pc' Ls' (rest)))) : Go p e below s Q C S (T.setTop (mkF m pc Ls (.long x :: rest))) := by
  obtain ⟨hd, rfl⟩ := hd; subst hz; exact k.step fun _ t => XS.lstoreN X.here hx rfl hd rfl hs t
theorem w_aload (X : Stand p l e R s m args below meth c T locs cells slots) (hx : p.tables.exec = Jvm.exec) {n : Nat} {v : Value} (hd : Dc c.code pc (.aload n) 2 pc') (hl : Ls[n]? = some (.val v)) (hv : v.isRef = true) (k : Go p e below s Q C S (T.setTop (mkF m pc' Ls (v :: rest)))) : Go p e below s Q C S (T.setTop (mkF m pc Ls (rest))) := by
  obtain ⟨hd, rfl⟩ := hd; exact k.step fun _ t => XS.aload X.here hx rfl hd hl hv t
theorem w_aloadN (X : Stand p l e R s m args below meth c T locs cells slots) (hx : p.tables.exec = Jvm.exec) {n : Fin 4} {v : Value} (hd : Dc c.code pc (.aload_n n) 1 pc') (hl : Ls[n.val]? = some (.val v)) (hv : v.isRef = true) (k : Go p e below s Q C S (T.setTop (mkF m pc' Ls (v :: rest)))) : Go p e below s Q C S (T.setTop (mkF m pc Ls (rest))) := by
  obtain ⟨hd, rfl⟩ := hd; exact k.step fun _ t => XS.aloadN X.here hx rfl hd hl hv t
theorem w_astore (X : Stand p l e R s m args below meth c T locs cells slots) (hx : p.tables.exec = Jvm.exec) {n : Nat} {v : Value} (hd : Dc c.code pc (.astore n) 2 pc') (hv : v.isRef = true) (hs : storeLocals Ls n v = some Ls') (k : Go p e below s Q C S (T.setTop (mkF m pc' Ls' (rest)))) : Go p e below s Q C S (T.setTop (mkF m pc Ls (v :: rest))) := by
  obtain ⟨hd, rfl⟩ := hd; exact k.step fun _ t => XS.astore X.here hx rfl hd rfl hv hs t
theorem w_astoreN (X : Stand p l e R s m args below meth c T locs cells slots) (hx : p.tables.exec = Jvm.exec) {n : Fin 4} {v : Value} (hd : Dc c.code pc (.astore_n n) 1 pc') (hv : v.isRef = true) (hs : storeLocals Ls n.val v = some Ls') (k : Go p e below s Q C S (T.setTop (mkF m pc' Ls' (rest)))) : Go p e below s Q C S (T.setTop (mkF m pc Ls (v :: rest))) := by
  obtain ⟨hd, rfl⟩ := hd; exact k.step fun _ t => XS.astoreN X.here hx rfl hd rfl hv hs t
theorem w_iconst (X : Stand p l e R s m args below meth c T locs cells slots) (hx : p.tables.exec = Jvm.exec) {i : Int} {z : Int32} (hd : Dc c.code pc (.iconst i) 1 pc') (hz : Int32.ofInt i = z) (k : Go p e below s Q C S (T.setTop (mkF m pc' Ls (.int z :: rest)))) : Go p e below s Q C S (T.setTop (mkF m pc Ls rest)) := by
  obtain ⟨hd, rfl⟩ := hd; subst hz; exact k.step fun _ t => XS.iconst X.here hx rfl hd t
theorem w_bipush (X : Stand p l e R s m args below meth c T locs cells slots) (hx : p.tables.exec = Jvm.exec) {i : Int} {z : Int32} (hd : Dc c.code pc (.bipush i) 2 pc') (hz : (Int8.ofInt i).toInt32 = z) (k : Go p e below s Q C S (T.setTop (mkF m pc' Ls (.int z :: rest)))) : Go p e below s Q C S (T.setTop (mkF m pc Ls rest)) := by
  obtain ⟨hd, rfl⟩ := hd; subst hz; exact k.step fun _ t => XS.bipush X.here hx rfl hd t
theorem w_sipush (X : Stand p l e R s m args below meth c T locs cells slots) (hx : p.tables.exec = Jvm.exec) {i : Int} {z : Int32} (hd : Dc c.code pc (.sipush i) 3 pc') (hz : (Int16.ofInt i).toInt32 = z) (k : Go p e below s Q C S (T.setTop (mkF m pc' Ls (.int z :: rest)))) : Go p e below s Q C S (T.setTop (mkF m pc Ls rest)) := by
  obtain ⟨hd, rfl⟩ := hd; subst hz; exact k.step fun _ t => XS.sipush X.here hx rfl hd t
theorem w_lconst (X : Stand p l e R s m args below meth c T locs cells slots) (hx : p.tables.exec = Jvm.exec) {i : Fin 2} {z : Int64} (hd : Dc c.code pc (.lconst i) 1 pc') (hz : Int64.ofNat i = z) (k : Go p e below s Q C S (T.setTop (mkF m pc' Ls (.long z :: rest)))) : Go p e below s Q C S (T.setTop (mkF m pc Ls rest)) := by
  obtain ⟨hd, rfl⟩ := hd; subst hz; exact k.step fun _ t => XS.lconst X.here hx rfl hd t
theorem w_null (X : Stand p l e R s m args below meth c T locs cells slots) (hx : p.tables.exec = Jvm.exec) (hd : Dc c.code pc .aconst_null 1 pc') (k : Go p e below s Q C S (T.setTop (mkF m pc' Ls (.null :: rest)))) : Go p e below s Q C S (T.setTop (mkF m pc Ls rest)) := by
  obtain ⟨hd, rfl⟩ := hd; exact k.step fun _ t => XS.aconstNull X.here hx rfl hd t
theorem w_ldc (X : Stand p l e R s m args below meth c T locs cells slots) (hx : p.tables.exec = Jvm.exec) (hZ : Z.Warmed39 s.vm) {own : String} {index : Nat} {z : Int32} (hown : s.vm.findClass own = some m.cls) (w : (Jvm.Cond.constant own index z).before a0 Z = true) (hd : Dc c.code pc (.ldc index) 2 pc') (k : Go p e below s Q C S (T.setTop (mkF m pc' Ls (.int z :: rest)))) : Go p e below s Q C S (T.setTop (mkF m pc Ls rest)) := by
  obtain ⟨hd, rfl⟩ := hd; exact k.step fun t q => X.ldcInt hx hown (mvT hZ w) (g := mkF m pc Ls rest) rfl hd t q
theorem w_ldcw (X : Stand p l e R s m args below meth c T locs cells slots) (hx : p.tables.exec = Jvm.exec) (hZ : Z.Warmed39 s.vm) {own : String} {index : Nat} {z : Int32} (hown : s.vm.findClass own = some m.cls) (w : (Jvm.Cond.constant own index z).before a0 Z = true) (hd : Dc c.code pc (.ldc_w index) 3 pc') (k : Go p e below s Q C S (T.setTop (mkF m pc' Ls (.int z :: rest)))) : Go p e below s Q C S (T.setTop (mkF m pc Ls rest)) := by
  obtain ⟨hd, rfl⟩ := hd; exact k.step fun t q => X.ldcwInt hx hown (mvT hZ w) (g := mkF m pc Ls rest) rfl hd t q
theorem w_ldc2 (X : Stand p l e R s m args below meth c T locs cells slots) (hx : p.tables.exec = Jvm.exec) (hZ : Z.Warmed39 s.vm) {own : String} {index : Nat} {z : Int64} (hown : s.vm.findClass own = some m.cls) (w : (Jvm.Cond.constantLong own index z).before a0 Z = true) (hd : Dc c.code pc (.ldc2_w index) 3 pc') (k : Go p e below s Q C S (T.setTop (mkF m pc' Ls (.long z :: rest)))) : Go p e below s Q C S (T.setTop (mkF m pc Ls rest)) := by
  obtain ⟨hd, rfl⟩ := hd; exact k.step fun t q => X.ldc2Long hx hown (mvT hZ w) (g := mkF m pc Ls rest) rfl hd t q
theorem w_iinc (X : Stand p l e R s m args below meth c T locs cells slots) (hx : p.tables.exec = Jvm.exec) {n : Nat} {i : Int} {x z : Int32} (hd : Dc c.code pc (.iinc n i) 3 pc') (hl : Ls[n]? = some (.val (.int x))) (hz : x + Int32.ofInt i = z) (hs : storeLocals Ls n (.int z) = some Ls') (k : Go p e below s Q C S (T.setTop (mkF m pc' Ls' rest))) : Go p e below s Q C S (T.setTop (mkF m pc Ls rest)) := by
  obtain ⟨hd, rfl⟩ := hd; subst hz; exact k.step fun _ t => XS.iinc X.here hx rfl hd hl hs t
/-! arithmetic -/
def IShl (x y : Int32) : Int32 := x <<< (y &&& 31)
def IShr (x y : Int32) : Int32 := x >>> (y &&& 31)
def IUshr (x y : Int32) : Int32 := (x.toUInt32 >>> (y &&& 31).toUInt32).toInt32
def LShl (x : Int64) (y : Int32) : Int64 := x <<< (y &&& 0x3f).toInt64
def LShr (x : Int64) (y : Int32) : Int64 := x >>> (y &&& 0x3f).toInt64
def LUshr (x : Int64) (y : Int32) : Int64 := (x.toUInt64 >>> (y &&& 0x3f).toInt64.toUInt64).toInt64
theorem w_iadd (X : Stand p l e R s m args below meth c T locs cells slots) (hx : p.tables.exec = Jvm.exec) {x y : Int32} (hd : Dc c.code pc .iadd 1 pc') (k : Go p e below s Q C S (T.setTop (mkF m pc' Ls (.int (x + y) :: rest)))) : Go p e below s Q C S (T.setTop (mkF m pc Ls (.int y :: .int x :: rest))) := by
  obtain ⟨hd, rfl⟩ := hd; exact k.step fun _ t => XS.iadd X.here hx rfl hd rfl t
theorem w_isub (X : Stand p l e R s m args below meth c T locs cells slots) (hx : p.tables.exec = Jvm.exec) {x y : Int32} (hd : Dc c.code pc .isub 1 pc') (k : Go p e below s Q C S (T.setTop (mkF m pc' Ls (.int (x - y) :: rest)))) : Go p e below s Q C S (T.setTop (mkF m pc Ls (.int y :: .int x :: rest))) := by
  obtain ⟨hd, rfl⟩ := hd; exact k.step fun _ t => XS.isub X.here hx rfl hd rfl t
theorem w_imul (X : Stand p l e R s m args below meth c T locs cells slots) (hx : p.tables.exec = Jvm.exec) {x y : Int32} (hd : Dc c.code pc .imul 1 pc') (k : Go p e below s Q C S (T.setTop (mkF m pc' Ls (.int (x * y) :: rest)))) : Go p e below s Q C S (T.setTop (mkF m pc Ls (.int y :: .int x :: rest))) := by
  obtain ⟨hd, rfl⟩ := hd; exact k.step fun _ t => XS.imul X.here hx rfl hd rfl t
theorem w_iand (X : Stand p l e R s m args below meth c T locs cells slots) (hx : p.tables.exec = Jvm.exec) {x y : Int32} (hd : Dc c.code pc .iand 1 pc') (k : Go p e below s Q C S (T.setTop (mkF m pc' Ls (.int (x &&& y) :: rest)))) : Go p e below s Q C S (T.setTop (mkF m pc Ls (.int y :: .int x :: rest))) := by
  obtain ⟨hd, rfl⟩ := hd; exact k.step fun _ t => XS.iand X.here hx rfl hd rfl t
theorem w_ior (X : Stand p l e R s m args below meth c T locs cells slots) (hx : p.tables.exec = Jvm.exec) {x y : Int32} (hd : Dc c.code pc .ior 1 pc') (k : Go p e below s Q C S (T.setTop (mkF m pc' Ls (.int (x ||| y) :: rest)))) : Go p e below s Q C S (T.setTop (mkF m pc Ls (.int y :: .int x :: rest))) := by
  obtain ⟨hd, rfl⟩ := hd; exact k.step fun _ t => XS.ior X.here hx rfl hd rfl t
theorem w_ixor (X : Stand p l e R s m args below meth c T locs cells slots) (hx : p.tables.exec = Jvm.exec) {x y : Int32} (hd : Dc c.code pc .ixor 1 pc') (k : Go p e below s Q C S (T.setTop (mkF m pc' Ls (.int (x ^^^ y) :: rest)))) : Go p e below s Q C S (T.setTop (mkF m pc Ls (.int y :: .int x :: rest))) := by
  obtain ⟨hd, rfl⟩ := hd; exact k.step fun _ t => XS.ixor X.here hx rfl hd rfl t
theorem w_ishl (X : Stand p l e R s m args below meth c T locs cells slots) (hx : p.tables.exec = Jvm.exec) {x : Int32} {y : Int32} (hd : Dc c.code pc .ishl 1 pc') (k : Go p e below s Q C S (T.setTop (mkF m pc' Ls (.int (IShl x y) :: rest)))) : Go p e below s Q C S (T.setTop (mkF m pc Ls (.int y :: .int x :: rest))) := by
  obtain ⟨hd, rfl⟩ := hd; exact k.step fun _ t => XS.ishl X.here hx rfl hd rfl t
theorem w_ishr (X : Stand p l e R s m args below meth c T locs cells slots) (hx : p.tables.exec = Jvm.exec) {x : Int32} {y : Int32} (hd : Dc c.code pc .ishr 1 pc') (k : Go p e below s Q C S (T.setTop (mkF m pc' Ls (.int (IShr x y) :: rest)))) : Go p e below s Q C S (T.setTop (mkF m pc Ls (.int y :: .int x :: rest))) := by
  obtain ⟨hd, rfl⟩ := hd; exact k.step fun _ t => XS.ishr X.here hx rfl hd rfl t
theorem w_iushr (X : Stand p l e R s m args below meth c T locs cells slots) (hx : p.tables.exec = Jvm.exec) {x : Int32} {y : Int32} (hd : Dc c.code pc .iushr 1 pc') (k : Go p e below s Q C S (T.setTop (mkF m pc' Ls (.int (IUshr x y) :: rest)))) : Go p e below s Q C S (T.setTop (mkF m pc Ls (.int y :: .int x :: rest))) := by
  obtain ⟨hd, rfl⟩ := hd; exact k.step fun _ t => XS.iushr X.here hx rfl hd rfl t
theorem w_ladd (X : Stand p l e R s m args below meth c T locs cells slots) (hx : p.tables.exec = Jvm.exec) {x y : Int64} (hd : Dc c.code pc .ladd 1 pc') (k : Go p e below s Q C S (T.setTop (mkF m pc' Ls (.long (x + y) :: rest)))) : Go p e below s Q C S (T.setTop (mkF m pc Ls (.long y :: .long x :: rest))) := by
  obtain ⟨hd, rfl⟩ := hd; exact k.step fun _ t => XS.ladd X.here hx rfl hd rfl t
theorem w_lsub (X : Stand p l e R s m args below meth c T locs cells slots) (hx : p.tables.exec = Jvm.exec) {x y : Int64} (hd : Dc c.code pc .lsub 1 pc') (k : Go p e below s Q C S (T.setTop (mkF m pc' Ls (.long (x - y) :: rest)))) : Go p e below s Q C S (T.setTop (mkF m pc Ls (.long y :: .long x :: rest))) := by
  obtain ⟨hd, rfl⟩ := hd; exact k.step fun _ t => XS.lsub X.here hx rfl hd rfl t
theorem w_lmul (X : Stand p l e R s m args below meth c T locs cells slots) (hx : p.tables.exec = Jvm.exec) {x y : Int64} (hd : Dc c.code pc .lmul 1 pc') (k : Go p e below s Q C S (T.setTop (mkF m pc' Ls (.long (x * y) :: rest)))) : Go p e below s Q C S (T.setTop (mkF m pc Ls (.long y :: .long x :: rest))) := by
  obtain ⟨hd, rfl⟩ := hd; exact k.step fun _ t => XS.lmul X.here hx rfl hd rfl t
theorem w_land (X : Stand p l e R s m args below meth c T locs cells slots) (hx : p.tables.exec = Jvm.exec) {x y : Int64} (hd : Dc c.code pc .land 1 pc') (k : Go p e below s Q C S (T.setTop (mkF m pc' Ls (.long (x &&& y) :: rest)))) : Go p e below s Q C S (T.setTop (mkF m pc Ls (.long y :: .long x :: rest))) := by
  obtain ⟨hd, rfl⟩ := hd; exact k.step fun _ t => XS.land X.here hx rfl hd rfl t
theorem w_lor (X : Stand p l e R s m args below meth c T locs cells slots) (hx : p.tables.exec = Jvm.exec) {x y : Int64} (hd : Dc c.code pc .lor 1 pc') (k : Go p e below s Q C S (T.setTop (mkF m pc' Ls (.long (x ||| y) :: rest)))) : Go p e below s Q C S (T.setTop (mkF m pc Ls (.long y :: .long x :: rest))) := by
  obtain ⟨hd, rfl⟩ := hd; exact k.step fun _ t => XS.lor X.here hx rfl hd rfl t
theorem w_lxor (X : Stand p l e R s m args below meth c T locs cells slots) (hx : p.tables.exec = Jvm.exec) {x y : Int64} (hd : Dc c.code pc .lxor 1 pc') (k : Go p e below s Q C S (T.setTop (mkF m pc' Ls (.long (x ^^^ y) :: rest)))) : Go p e below s Q C S (T.setTop (mkF m pc Ls (.long y :: .long x :: rest))) := by
  obtain ⟨hd, rfl⟩ := hd; exact k.step fun _ t => XS.lxor X.here hx rfl hd rfl t
theorem w_lshl (X : Stand p l e R s m args below meth c T locs cells slots) (hx : p.tables.exec = Jvm.exec) {x : Int64} {y : Int32} (hd : Dc c.code pc .lshl 1 pc') (k : Go p e below s Q C S (T.setTop (mkF m pc' Ls (.long (LShl x y) :: rest)))) : Go p e below s Q C S (T.setTop (mkF m pc Ls (.int y :: .long x :: rest))) := by
  obtain ⟨hd, rfl⟩ := hd; exact k.step fun _ t => XS.lshl X.here hx rfl hd rfl t
theorem w_lshr (X : Stand p l e R s m args below meth c T locs cells slots) (hx : p.tables.exec = Jvm.exec) {x : Int64} {y : Int32} (hd : Dc c.code pc .lshr 1 pc') (k : Go p e below s Q C S (T.setTop (mkF m pc' Ls (.long (LShr x y) :: rest)))) : Go p e below s Q C S (T.setTop (mkF m pc Ls (.int y :: .long x :: rest))) := by
  obtain ⟨hd, rfl⟩ := hd; exact k.step fun _ t => XS.lshr X.here hx rfl hd rfl t
theorem w_lushr (X : Stand p l e R s m args below meth c T locs cells slots) (hx : p.tables.exec = Jvm.exec) {x : Int64} {y : Int32} (hd : Dc c.code pc .lushr 1 pc') (k : Go p e below s Q C S (T.setTop (mkF m pc' Ls (.long (LUshr x y) :: rest)))) : Go p e below s Q C S (T.setTop (mkF m pc Ls (.int y :: .long x :: rest))) := by
  obtain ⟨hd, rfl⟩ := hd; exact k.step fun _ t => XS.lushr X.here hx rfl hd rfl t
theorem w_ineg (X : Stand p l e R s m args below meth c T locs cells slots) (hx : p.tables.exec = Jvm.exec) {x : Int32} (hd : Dc c.code pc .ineg 1 pc') (k : Go p e below s Q C S (T.setTop (mkF m pc' Ls (.int (-x) :: rest)))) : Go p e below s Q C S (T.setTop (mkF m pc Ls (.int x :: rest))) := by
  obtain ⟨hd, rfl⟩ := hd; exact k.step fun _ t => XS.ineg X.here hx rfl hd rfl t
theorem w_lneg (X : Stand p l e R s m args below meth c T locs cells slots) (hx : p.tables.exec = Jvm.exec) {x : Int64} (hd : Dc c.code pc .lneg 1 pc') (k : Go p e below s Q C S (T.setTop (mkF m pc' Ls (.long (-x) :: rest)))) : Go p e below s Q C S (T.setTop (mkF m pc Ls (.long x :: rest))) := by
  obtain ⟨hd, rfl⟩ := hd; exact k.step fun _ t => XS.lneg X.here hx rfl hd rfl t
theorem w_i2l (X : Stand p l e R s m args below meth c T locs cells slots) (hx : p.tables.exec = Jvm.exec) {x : Int32} (hd : Dc c.code pc .i2l 1 pc') (k : Go p e below s Q C S (T.setTop (mkF m pc' Ls (.long (x.toInt64) :: rest)))) : Go p e below s Q C S (T.setTop (mkF m pc Ls (.int x :: rest))) := by
  obtain ⟨hd, rfl⟩ := hd; exact k.step fun _ t => XS.i2l X.here hx rfl hd rfl t
theorem w_l2i (X : Stand p l e R s m args below meth c T locs cells slots) (hx : p.tables.exec = Jvm.exec) {x : Int64} (hd : Dc c.code pc .l2i 1 pc') (k : Go p e below s Q C S (T.setTop (mkF m pc' Ls (.int (x.toInt32) :: rest)))) : Go p e below s Q C S (T.setTop (mkF m pc Ls (.long x :: rest))) := by
  obtain ⟨hd, rfl⟩ := hd; exact k.step fun _ t => XS.l2i X.here hx rfl hd rfl t
theorem w_i2b (X : Stand p l e R s m args below meth c T locs cells slots) (hx : p.tables.exec = Jvm.exec) {x : Int32} (hd : Dc c.code pc .i2b 1 pc') (k : Go p e below s Q C S (T.setTop (mkF m pc' Ls (.int (x.toInt8.toInt32) :: rest)))) : Go p e below s Q C S (T.setTop (mkF m pc Ls (.int x :: rest))) := by
  obtain ⟨hd, rfl⟩ := hd; exact k.step fun _ t => XS.i2b X.here hx rfl hd rfl t
theorem w_i2c (X : Stand p l e R s m args below meth c T locs cells slots) (hx : p.tables.exec = Jvm.exec) {x : Int32} (hd : Dc c.code pc .i2c 1 pc') (k : Go p e below s Q C S (T.setTop (mkF m pc' Ls (.int (x.toUInt32.toUInt16.toUInt32.toInt32) :: rest)))) : Go p e below s Q C S (T.setTop (mkF m pc Ls (.int x :: rest))) := by
  obtain ⟨hd, rfl⟩ := hd; exact k.step fun _ t => XS.i2c X.here hx rfl hd rfl t
theorem w_i2s (X : Stand p l e R s m args below meth c T locs cells slots) (hx : p.tables.exec = Jvm.exec) {x : Int32} (hd : Dc c.code pc .i2s 1 pc') (k : Go p e below s Q C S (T.setTop (mkF m pc' Ls (.int (x.toInt16.toInt32) :: rest)))) : Go p e below s Q C S (T.setTop (mkF m pc Ls (.int x :: rest))) := by
  obtain ⟨hd, rfl⟩ := hd; exact k.step fun _ t => XS.i2s X.here hx rfl hd rfl t
theorem w_idiv (X : Stand p l e R s m args below meth c T locs cells slots) (hx : p.tables.exec = Jvm.exec) {x y : Int32} (hd : Dc c.code pc .idiv 1 pc') (hy : y ≠ 0) (k : Go p e below s Q C S (T.setTop (mkF m pc' Ls (.int (x / y) :: rest)))) : Go p e below s Q C S (T.setTop (mkF m pc Ls (.int y :: .int x :: rest))) := by
  obtain ⟨hd, rfl⟩ := hd; exact k.step fun _ t => XS.idiv X.here hx rfl hd rfl hy t
theorem w_irem (X : Stand p l e R s m args below meth c T locs cells slots) (hx : p.tables.exec = Jvm.exec) {x y : Int32} (hd : Dc c.code pc .irem 1 pc') (hy : y ≠ 0) (k : Go p e below s Q C S (T.setTop (mkF m pc' Ls (.int (x % y) :: rest)))) : Go p e below s Q C S (T.setTop (mkF m pc Ls (.int y :: .int x :: rest))) := by
  obtain ⟨hd, rfl⟩ := hd; exact k.step fun _ t => iremM X hx rfl hd rfl hy t
theorem w_ldiv (X : Stand p l e R s m args below meth c T locs cells slots) (hx : p.tables.exec = Jvm.exec) {x y : Int64} (hd : Dc c.code pc .ldiv 1 pc') (hy : y ≠ 0) (k : Go p e below s Q C S (T.setTop (mkF m pc' Ls (.long (x / y) :: rest)))) : Go p e below s Q C S (T.setTop (mkF m pc Ls (.long y :: .long x :: rest))) := by
  obtain ⟨hd, rfl⟩ := hd; exact k.step fun _ t => XS.ldiv X.here hx rfl hd rfl hy t
theorem w_dup (X : Stand p l e R s m args below meth c T locs cells slots) (hx : p.tables.exec = Jvm.exec) {v : Value} (hd : Dc c.code pc .dup 1 pc') (hc : v.category = 1) (k : Go p e below s Q C S (T.setTop (mkF m pc' Ls (v :: v :: rest)))) : Go p e below s Q C S (T.setTop (mkF m pc Ls (v :: rest))) := by
  obtain ⟨hd, rfl⟩ := hd; exact k.step fun _ t => XS.dup X.here hx rfl hd rfl hc t
theorem w_dupx1 (X : Stand p l e R s m args below meth c T locs cells slots) (hx : p.tables.exec = Jvm.exec) {v w : Value} (hd : Dc c.code pc .dup_x1 1 pc') (hc : v.category = 1) (hc' : w.category = 1) (k : Go p e below s Q C S (T.setTop (mkF m pc' Ls (v :: w :: v :: rest)))) : Go p e below s Q C S (T.setTop (mkF m pc Ls (v :: w :: rest))) := by
  obtain ⟨hd, rfl⟩ := hd; exact k.step fun _ t => XS.dupX1 X.here hx rfl hd rfl hc hc' t
theorem w_dup2 (X : Stand p l e R s m args below meth c T locs cells slots) (hx : p.tables.exec = Jvm.exec) {v w : Value} (hd : Dc c.code pc .dup2 1 pc') (hc : v.category = 1) (hc' : w.category = 1) (k : Go p e below s Q C S (T.setTop (mkF m pc' Ls (v :: w :: v :: w :: rest)))) : Go p e below s Q C S (T.setTop (mkF m pc Ls (v :: w :: rest))) := by
  obtain ⟨hd, rfl⟩ := hd; exact k.step fun _ t => XT.dup2 X.here hx rfl hd rfl hc hc' t
theorem w_dup2L (X : Stand p l e R s m args below meth c T locs cells slots) (hx : p.tables.exec = Jvm.exec) {x : Int64} (hd : Dc c.code pc .dup2 1 pc') (k : Go p e below s Q C S (T.setTop (mkF m pc' Ls (.long x :: .long x :: rest)))) : Go p e below s Q C S (T.setTop (mkF m pc Ls (.long x :: rest))) := by
  obtain ⟨hd, rfl⟩ := hd; exact k.step fun _ t => XT.dup2L X.here hx rfl hd rfl t
theorem w_pop (X : Stand p l e R s m args below meth c T locs cells slots) (hx : p.tables.exec = Jvm.exec) {v : Value} (hd : Dc c.code pc .pop 1 pc') (hc : v.category = 1) (k : Go p e below s Q C S (T.setTop (mkF m pc' Ls rest))) : Go p e below s Q C S (T.setTop (mkF m pc Ls (v :: rest))) := by
  obtain ⟨hd, rfl⟩ := hd; exact k.step fun _ t => XS.pop X.here hx rfl hd rfl hc t
/-! branches -/
theorem w_goto (X : Stand p l e R s m args below meth c T locs cells slots) (hx : p.tables.exec = Jvm.exec) {o : Int} {pcT pcF : Nat} (hd : Dj c.code pc (.goto o) o pcT pcF) (k : Go p e below s Q C S (T.setTop (mkF m pcT Ls rest))) : Go p e below s Q C S (T.setTop (mkF m pc Ls rest)) := by
  obtain ⟨hd, ho, rfl, -⟩ := hd; exact k.step fun _ t => XS.goto X.here hx rfl rfl hd ho rfl t
theorem w_icmp_eq (X : Stand p l e R s m args below meth c T locs cells slots) (hx : p.tables.exec = Jvm.exec) {o : Int} {x y : Int32} {pcT pcF : Nat} (hd : Dj c.code pc (.if_icmp .eq o) o pcT pcF) (kt : x = y → Go p e below s Q C S (T.setTop (mkF m pcT Ls (rest)))) (kf : x ≠ y → Go p e below s Q C S (T.setTop (mkF m pcF Ls (rest)))) : Go p e below s Q C S (T.setTop (mkF m pc Ls (.int y :: .int x :: rest))) := by
  obtain ⟨hd, ho, rfl, rfl⟩ := hd
  by_cases hb : x = y
  · exact (kt hb).step fun _ t => XS.icmpYes X.here hx rfl rfl hd rfl (teq hb).1 ho rfl t
  · exact (kf hb).step fun _ t => XS.icmpNo X.here hx rfl hd rfl (feq hb).1 t
theorem w_if_eq (X : Stand p l e R s m args below meth c T locs cells slots) (hx : p.tables.exec = Jvm.exec) {o : Int} {x : Int32} {pcT pcF : Nat} (hd : Dj c.code pc (.ifCond .eq o) o pcT pcF) (kt : x = 0 → Go p e below s Q C S (T.setTop (mkF m pcT Ls (rest)))) (kf : x ≠ 0 → Go p e below s Q C S (T.setTop (mkF m pcF Ls (rest)))) : Go p e below s Q C S (T.setTop (mkF m pc Ls (.int x :: rest))) := by
  obtain ⟨hd, ho, rfl, rfl⟩ := hd
  have e0 : (0 : Int32).toInt = 0 := rfl
  by_cases hb : x = (0 : Int32)
  · exact (kt hb).step fun _ t => XS.ifYes X.here hx rfl rfl hd rfl ((if0 _ _).trans (teq hb).1) ho rfl t
  · exact (kf hb).step fun _ t => XS.ifNo X.here hx rfl hd rfl ((if0 _ _).trans (feq hb).1) t
theorem w_lcmp_eq (X : Stand p l e R s m args below meth c T locs cells slots) (hx : p.tables.exec = Jvm.exec) {o : Int} {x y : Int64} {pc1 pcT pcF : Nat} (hd1 : Dc c.code pc .lcmp 1 pc1) (hd : Dj c.code pc1 (.ifCond .eq o) o pcT pcF) (kt : x = y → Go p e below s Q C S (T.setTop (mkF m pcT Ls (rest)))) (kf : x ≠ y → Go p e below s Q C S (T.setTop (mkF m pcF Ls (rest)))) : Go p e below s Q C S (T.setTop (mkF m pc Ls (.long y :: .long x :: rest))) := by
  obtain ⟨hd1, rfl⟩ := hd1
  refine Go.step (fun _ t => XS.lcmp X.here hx rfl hd1 rfl t) ?_
  exact w_if_eq X hx hd (fun q => kt ((lw_eq x y).mp q)) (fun q => kf (fun r => q ((lw_eq x y).mpr r)))
theorem w_icmp_ne (X : Stand p l e R s m args below meth c T locs cells slots) (hx : p.tables.exec = Jvm.exec) {o : Int} {x y : Int32} {pcT pcF : Nat} (hd : Dj c.code pc (.if_icmp .ne o) o pcT pcF) (kt : x ≠ y → Go p e below s Q C S (T.setTop (mkF m pcT Ls (rest)))) (kf : x = y → Go p e below s Q C S (T.setTop (mkF m pcF Ls (rest)))) : Go p e below s Q C S (T.setTop (mkF m pc Ls (.int y :: .int x :: rest))) := by
  obtain ⟨hd, ho, rfl, rfl⟩ := hd
  by_cases hb : x = y
  · exact (kf hb).step fun _ t => XS.icmpNo X.here hx rfl hd rfl (teq hb).2 t
  · exact (kt hb).step fun _ t => XS.icmpYes X.here hx rfl rfl hd rfl (feq hb).2 ho rfl t
theorem w_if_ne (X : Stand p l e R s m args below meth c T locs cells slots) (hx : p.tables.exec = Jvm.exec) {o : Int} {x : Int32} {pcT pcF : Nat} (hd : Dj c.code pc (.ifCond .ne o) o pcT pcF) (kt : x ≠ 0 → Go p e below s Q C S (T.setTop (mkF m pcT Ls (rest)))) (kf : x = 0 → Go p e below s Q C S (T.setTop (mkF m pcF Ls (rest)))) : Go p e below s Q C S (T.setTop (mkF m pc Ls (.int x :: rest))) := by
  obtain ⟨hd, ho, rfl, rfl⟩ := hd
  have e0 : (0 : Int32).toInt = 0 := rfl
  by_cases hb : x = (0 : Int32)
  · exact (kf hb).step fun _ t => XS.ifNo X.here hx rfl hd rfl ((if0 _ _).trans (teq hb).2) t
  · exact (kt hb).step fun _ t => XS.ifYes X.here hx rfl rfl hd rfl ((if0 _ _).trans (feq hb).2) ho rfl t
theorem w_lcmp_ne (X : Stand p l e R s m args below meth c T locs cells slots) (hx : p.tables.exec = Jvm.exec) {o : Int} {x y : Int64} {pc1 pcT pcF : Nat} (hd1 : Dc c.code pc .lcmp 1 pc1) (hd : Dj c.code pc1 (.ifCond .ne o) o pcT pcF) (kt : x ≠ y → Go p e below s Q C S (T.setTop (mkF m pcT Ls (rest)))) (kf : x = y → Go p e below s Q C S (T.setTop (mkF m pcF Ls (rest)))) : Go p e below s Q C S (T.setTop (mkF m pc Ls (.long y :: .long x :: rest))) := by
  obtain ⟨hd1, rfl⟩ := hd1
  refine Go.step (fun _ t => XS.lcmp X.here hx rfl hd1 rfl t) ?_
  exact w_if_ne X hx hd (fun q => kt (fun r => q ((lw_eq x y).mpr r))) (fun q => kf ((lw_eq x y).mp q))
theorem w_icmp_lt (X : Stand p l e R s m args below meth c T locs cells slots) (hx : p.tables.exec = Jvm.exec) {o : Int} {x y : Int32} {pcT pcF : Nat} (hd : Dj c.code pc (.if_icmp .lt o) o pcT pcF) (kt : x.toInt < y.toInt → Go p e below s Q C S (T.setTop (mkF m pcT Ls (rest)))) (kf : y.toInt ≤ x.toInt → Go p e below s Q C S (T.setTop (mkF m pcF Ls (rest)))) : Go p e below s Q C S (T.setTop (mkF m pc Ls (.int y :: .int x :: rest))) := by
  obtain ⟨hd, ho, rfl, rfl⟩ := hd
  by_cases hb : x < y
  · exact (kt (Int32.lt_iff_toInt_lt.mp hb)).step fun _ t => XS.icmpYes X.here hx rfl rfl hd rfl (tlt hb).1 ho rfl t
  · exact (kf (by rw [Int32.lt_iff_toInt_lt] at hb; omega)).step fun _ t => XS.icmpNo X.here hx rfl hd rfl (flt hb).1 t
theorem w_if_lt (X : Stand p l e R s m args below meth c T locs cells slots) (hx : p.tables.exec = Jvm.exec) {o : Int} {x : Int32} {pcT pcF : Nat} (hd : Dj c.code pc (.ifCond .lt o) o pcT pcF) (kt : x.toInt < 0 → Go p e below s Q C S (T.setTop (mkF m pcT Ls (rest)))) (kf : 0 ≤ x.toInt → Go p e below s Q C S (T.setTop (mkF m pcF Ls (rest)))) : Go p e below s Q C S (T.setTop (mkF m pc Ls (.int x :: rest))) := by
  obtain ⟨hd, ho, rfl, rfl⟩ := hd
  have e0 : (0 : Int32).toInt = 0 := rfl
  by_cases hb : x < (0 : Int32)
  · exact (kt (by rw [Int32.lt_iff_toInt_lt] at hb; omega)).step fun _ t => XS.ifYes X.here hx rfl rfl hd rfl ((if0 _ _).trans (tlt hb).1) ho rfl t
  · exact (kf (by rw [Int32.lt_iff_toInt_lt] at hb; omega)).step fun _ t => XS.ifNo X.here hx rfl hd rfl ((if0 _ _).trans (flt hb).1) t
theorem w_lcmp_lt (X : Stand p l e R s m args below meth c T locs cells slots) (hx : p.tables.exec = Jvm.exec) {o : Int} {x y : Int64} {pc1 pcT pcF : Nat} (hd1 : Dc c.code pc .lcmp 1 pc1) (hd : Dj c.code pc1 (.ifCond .lt o) o pcT pcF) (kt : x.toInt < y.toInt → Go p e below s Q C S (T.setTop (mkF m pcT Ls (rest)))) (kf : y.toInt ≤ x.toInt → Go p e below s Q C S (T.setTop (mkF m pcF Ls (rest)))) : Go p e below s Q C S (T.setTop (mkF m pc Ls (.long y :: .long x :: rest))) := by
  obtain ⟨hd1, rfl⟩ := hd1
  have e0 : (0 : Int32).toInt = 0 := rfl
  have L : (lcmpW x y).toInt < 0 → x.toInt < y.toInt := fun q => by have := (lw_lt x y).mp (by rw [Int32.lt_iff_toInt_lt]; omega); rwa [Int64.lt_iff_toInt_lt] at this
  have N : 0 ≤ (lcmpW x y).toInt → y.toInt ≤ x.toInt := fun q => by
    have h1 : ¬ x < y := fun r => by have := (lw_lt x y).mpr r; rw [Int32.lt_iff_toInt_lt] at this; omega
    rw [Int64.lt_iff_toInt_lt] at h1; omega
  have M : 0 < (lcmpW x y).toInt → y.toInt < x.toInt := fun q => by have := (lw_gt x y).mp (by rw [Int32.lt_iff_toInt_lt]; omega); rwa [Int64.lt_iff_toInt_lt] at this
  have P : (lcmpW x y).toInt ≤ 0 → x.toInt ≤ y.toInt := fun q => by
    have h1 : ¬ y < x := fun r => by have := (lw_gt x y).mpr r; rw [Int32.lt_iff_toInt_lt] at this; omega
    rw [Int64.lt_iff_toInt_lt] at h1; omega
  refine Go.step (fun _ t => XS.lcmp X.here hx rfl hd1 rfl t) ?_
  exact w_if_lt X hx hd (fun q => kt (L q)) (fun q => kf (N q))
theorem w_icmp_ge (X : Stand p l e R s m args below meth c T locs cells slots) (hx : p.tables.exec = Jvm.exec) {o : Int} {x y : Int32} {pcT pcF : Nat} (hd : Dj c.code pc (.if_icmp .ge o) o pcT pcF) (kt : y.toInt ≤ x.toInt → Go p e below s Q C S (T.setTop (mkF m pcT Ls (rest)))) (kf : x.toInt < y.toInt → Go p e below s Q C S (T.setTop (mkF m pcF Ls (rest)))) : Go p e below s Q C S (T.setTop (mkF m pc Ls (.int y :: .int x :: rest))) := by
  obtain ⟨hd, ho, rfl, rfl⟩ := hd
  by_cases hb : x < y
  · exact (kf (Int32.lt_iff_toInt_lt.mp hb)).step fun _ t => XS.icmpNo X.here hx rfl hd rfl (tlt hb).2.1 t
  · exact (kt (by rw [Int32.lt_iff_toInt_lt] at hb; omega)).step fun _ t => XS.icmpYes X.here hx rfl rfl hd rfl (flt hb).2.1 ho rfl t
theorem w_if_ge (X : Stand p l e R s m args below meth c T locs cells slots) (hx : p.tables.exec = Jvm.exec) {o : Int} {x : Int32} {pcT pcF : Nat} (hd : Dj c.code pc (.ifCond .ge o) o pcT pcF) (kt : 0 ≤ x.toInt → Go p e below s Q C S (T.setTop (mkF m pcT Ls (rest)))) (kf : x.toInt < 0 → Go p e below s Q C S (T.setTop (mkF m pcF Ls (rest)))) : Go p e below s Q C S (T.setTop (mkF m pc Ls (.int x :: rest))) := by
  obtain ⟨hd, ho, rfl, rfl⟩ := hd
  have e0 : (0 : Int32).toInt = 0 := rfl
  by_cases hb : x < (0 : Int32)
  · exact (kf (by rw [Int32.lt_iff_toInt_lt] at hb; omega)).step fun _ t => XS.ifNo X.here hx rfl hd rfl ((if0 _ _).trans (tlt hb).2.1) t
  · exact (kt (by rw [Int32.lt_iff_toInt_lt] at hb; omega)).step fun _ t => XS.ifYes X.here hx rfl rfl hd rfl ((if0 _ _).trans (flt hb).2.1) ho rfl t
theorem w_lcmp_ge (X : Stand p l e R s m args below meth c T locs cells slots) (hx : p.tables.exec = Jvm.exec) {o : Int} {x y : Int64} {pc1 pcT pcF : Nat} (hd1 : Dc c.code pc .lcmp 1 pc1) (hd : Dj c.code pc1 (.ifCond .ge o) o pcT pcF) (kt : y.toInt ≤ x.toInt → Go p e below s Q C S (T.setTop (mkF m pcT Ls (rest)))) (kf : x.toInt < y.toInt → Go p e below s Q C S (T.setTop (mkF m pcF Ls (rest)))) : Go p e below s Q C S (T.setTop (mkF m pc Ls (.long y :: .long x :: rest))) := by
  obtain ⟨hd1, rfl⟩ := hd1
  have e0 : (0 : Int32).toInt = 0 := rfl
  have L : (lcmpW x y).toInt < 0 → x.toInt < y.toInt := fun q => by have := (lw_lt x y).mp (by rw [Int32.lt_iff_toInt_lt]; omega); rwa [Int64.lt_iff_toInt_lt] at this
  have N : 0 ≤ (lcmpW x y).toInt → y.toInt ≤ x.toInt := fun q => by
    have h1 : ¬ x < y := fun r => by have := (lw_lt x y).mpr r; rw [Int32.lt_iff_toInt_lt] at this; omega
    rw [Int64.lt_iff_toInt_lt] at h1; omega
  have M : 0 < (lcmpW x y).toInt → y.toInt < x.toInt := fun q => by have := (lw_gt x y).mp (by rw [Int32.lt_iff_toInt_lt]; omega); rwa [Int64.lt_iff_toInt_lt] at this
  have P : (lcmpW x y).toInt ≤ 0 → x.toInt ≤ y.toInt := fun q => by
    have h1 : ¬ y < x := fun r => by have := (lw_gt x y).mpr r; rw [Int32.lt_iff_toInt_lt] at this; omega
    rw [Int64.lt_iff_toInt_lt] at h1; omega
  refine Go.step (fun _ t => XS.lcmp X.here hx rfl hd1 rfl t) ?_
  exact w_if_ge X hx hd (fun q => kt (N q)) (fun q => kf (L q))
theorem w_icmp_gt (X : Stand p l e R s m args below meth c T locs cells slots) (hx : p.tables.exec = Jvm.exec) {o : Int} {x y : Int32} {pcT pcF : Nat} (hd : Dj c.code pc (.if_icmp .gt o) o pcT pcF) (kt : y.toInt < x.toInt → Go p e below s Q C S (T.setTop (mkF m pcT Ls (rest)))) (kf : x.toInt ≤ y.toInt → Go p e below s Q C S (T.setTop (mkF m pcF Ls (rest)))) : Go p e below s Q C S (T.setTop (mkF m pc Ls (.int y :: .int x :: rest))) := by
  obtain ⟨hd, ho, rfl, rfl⟩ := hd
  by_cases hb : y < x
  · exact (kt (Int32.lt_iff_toInt_lt.mp hb)).step fun _ t => XS.icmpYes X.here hx rfl rfl hd rfl (tlt hb).2.2.1 ho rfl t
  · exact (kf (by rw [Int32.lt_iff_toInt_lt] at hb; omega)).step fun _ t => XS.icmpNo X.here hx rfl hd rfl (flt hb).2.2.1 t
theorem w_if_gt (X : Stand p l e R s m args below meth c T locs cells slots) (hx : p.tables.exec = Jvm.exec) {o : Int} {x : Int32} {pcT pcF : Nat} (hd : Dj c.code pc (.ifCond .gt o) o pcT pcF) (kt : 0 < x.toInt → Go p e below s Q C S (T.setTop (mkF m pcT Ls (rest)))) (kf : x.toInt ≤ 0 → Go p e below s Q C S (T.setTop (mkF m pcF Ls (rest)))) : Go p e below s Q C S (T.setTop (mkF m pc Ls (.int x :: rest))) := by
  obtain ⟨hd, ho, rfl, rfl⟩ := hd
  have e0 : (0 : Int32).toInt = 0 := rfl
  by_cases hb : (0 : Int32) < x
  · exact (kt (by rw [Int32.lt_iff_toInt_lt] at hb; omega)).step fun _ t => XS.ifYes X.here hx rfl rfl hd rfl ((if0 _ _).trans (tlt hb).2.2.1) ho rfl t
  · exact (kf (by rw [Int32.lt_iff_toInt_lt] at hb; omega)).step fun _ t => XS.ifNo X.here hx rfl hd rfl ((if0 _ _).trans (flt hb).2.2.1) t
theorem w_lcmp_gt (X : Stand p l e R s m args below meth c T locs cells slots) (hx : p.tables.exec = Jvm.exec) {o : Int} {x y : Int64} {pc1 pcT pcF : Nat} (hd1 : Dc c.code pc .lcmp 1 pc1) (hd : Dj c.code pc1 (.ifCond .gt o) o pcT pcF) (kt : y.toInt < x.toInt → Go p e below s Q C S (T.setTop (mkF m pcT Ls (rest)))) (kf : x.toInt ≤ y.toInt → Go p e below s Q C S (T.setTop (mkF m pcF Ls (rest)))) : Go p e below s Q C S (T.setTop (mkF m pc Ls (.long y :: .long x :: rest))) := by
  obtain ⟨hd1, rfl⟩ := hd1
  have e0 : (0 : Int32).toInt = 0 := rfl
  have L : (lcmpW x y).toInt < 0 → x.toInt < y.toInt := fun q => by have := (lw_lt x y).mp (by rw [Int32.lt_iff_toInt_lt]; omega); rwa [Int64.lt_iff_toInt_lt] at this
  have N : 0 ≤ (lcmpW x y).toInt → y.toInt ≤ x.toInt := fun q => by
    have h1 : ¬ x < y := fun r => by have := (lw_lt x y).mpr r; rw [Int32.lt_iff_toInt_lt] at this; omega
    rw [Int64.lt_iff_toInt_lt] at h1; omega
  have M : 0 < (lcmpW x y).toInt → y.toInt < x.toInt := fun q => by have := (lw_gt x y).mp (by rw [Int32.lt_iff_toInt_lt]; omega); rwa [Int64.lt_iff_toInt_lt] at this
  have P : (lcmpW x y).toInt ≤ 0 → x.toInt ≤ y.toInt := fun q => by
    have h1 : ¬ y < x := fun r => by have := (lw_gt x y).mpr r; rw [Int32.lt_iff_toInt_lt] at this; omega
    rw [Int64.lt_iff_toInt_lt] at h1; omega
  refine Go.step (fun _ t => XS.lcmp X.here hx rfl hd1 rfl t) ?_
  exact w_if_gt X hx hd (fun q => kt (M q)) (fun q => kf (P q))
theorem w_icmp_le (X : Stand p l e R s m args below meth c T locs cells slots) (hx : p.tables.exec = Jvm.exec) {o : Int} {x y : Int32} {pcT pcF : Nat} (hd : Dj c.code pc (.if_icmp .le o) o pcT pcF) (kt : x.toInt ≤ y.toInt → Go p e below s Q C S (T.setTop (mkF m pcT Ls (rest)))) (kf : y.toInt < x.toInt → Go p e below s Q C S (T.setTop (mkF m pcF Ls (rest)))) : Go p e below s Q C S (T.setTop (mkF m pc Ls (.int y :: .int x :: rest))) := by
  obtain ⟨hd, ho, rfl, rfl⟩ := hd
  by_cases hb : y < x
  · exact (kf (Int32.lt_iff_toInt_lt.mp hb)).step fun _ t => XS.icmpNo X.here hx rfl hd rfl (tlt hb).2.2.2 t
  · exact (kt (by rw [Int32.lt_iff_toInt_lt] at hb; omega)).step fun _ t => XS.icmpYes X.here hx rfl rfl hd rfl (flt hb).2.2.2 ho rfl t
theorem w_if_le (X : Stand p l e R s m args below meth c T locs cells slots) (hx : p.tables.exec = Jvm.exec) {o : Int} {x : Int32} {pcT pcF : Nat} (hd : Dj c.code pc (.ifCond .le o) o pcT pcF) (kt : x.toInt ≤ 0 → Go p e below s Q C S (T.setTop (mkF m pcT Ls (rest)))) (kf : 0 < x.toInt → Go p e below s Q C S (T.setTop (mkF m pcF Ls (rest)))) : Go p e below s Q C S (T.setTop (mkF m pc Ls (.int x :: rest))) := by
  obtain ⟨hd, ho, rfl, rfl⟩ := hd
  have e0 : (0 : Int32).toInt = 0 := rfl
  by_cases hb : (0 : Int32) < x
  · exact (kf (by rw [Int32.lt_iff_toInt_lt] at hb; omega)).step fun _ t => XS.ifNo X.here hx rfl hd rfl ((if0 _ _).trans (tlt hb).2.2.2) t
  · exact (kt (by rw [Int32.lt_iff_toInt_lt] at hb; omega)).step fun _ t => XS.ifYes X.here hx rfl rfl hd rfl ((if0 _ _).trans (flt hb).2.2.2) ho rfl t
theorem w_lcmp_le (X : Stand p l e R s m args below meth c T locs cells slots) (hx : p.tables.exec = Jvm.exec) {o : Int} {x y : Int64} {pc1 pcT pcF : Nat} (hd1 : Dc c.code pc .lcmp 1 pc1) (hd : Dj c.code pc1 (.ifCond .le o) o pcT pcF) (kt : x.toInt ≤ y.toInt → Go p e below s Q C S (T.setTop (mkF m pcT Ls (rest)))) (kf : y.toInt < x.toInt → Go p e below s Q C S (T.setTop (mkF m pcF Ls (rest)))) : Go p e below s Q C S (T.setTop (mkF m pc Ls (.long y :: .long x :: rest))) := by
  obtain ⟨hd1, rfl⟩ := hd1
  have e0 : (0 : Int32).toInt = 0 := rfl
  have L : (lcmpW x y).toInt < 0 → x.toInt < y.toInt := fun q => by have := (lw_lt x y).mp (by rw [Int32.lt_iff_toInt_lt]; omega); rwa [Int64.lt_iff_toInt_lt] at this
  have N : 0 ≤ (lcmpW x y).toInt → y.toInt ≤ x.toInt := fun q => by
    have h1 : ¬ x < y := fun r => by have := (lw_lt x y).mpr r; rw [Int32.lt_iff_toInt_lt] at this; omega
    rw [Int64.lt_iff_toInt_lt] at h1; omega
  have M : 0 < (lcmpW x y).toInt → y.toInt < x.toInt := fun q => by have := (lw_gt x y).mp (by rw [Int32.lt_iff_toInt_lt]; omega); rwa [Int64.lt_iff_toInt_lt] at this
  have P : (lcmpW x y).toInt ≤ 0 → x.toInt ≤ y.toInt := fun q => by
    have h1 : ¬ y < x := fun r => by have := (lw_gt x y).mpr r; rw [Int32.lt_iff_toInt_lt] at this; omega
    rw [Int64.lt_iff_toInt_lt] at h1; omega
  refine Go.step (fun _ t => XS.lcmp X.here hx rfl hd1 rfl t) ?_
  exact w_if_le X hx hd (fun q => kt (P q)) (fun q => kf (M q))
theorem w_acmp (X : Stand p l e R s m args below meth c T locs cells slots) (hx : p.tables.exec = Jvm.exec) {o : Int} {cd : ClassFile.ACond} {x y : Value} {pcT pcF : Nat} (hd : Dj c.code pc (.if_acmp cd o) o pcT pcF) (h1 : x.isRef = true) (h2 : y.isRef = true) {b : Bool} (hb : acV cd (decide (x = y)) = b) (k : Go p e below s Q C S (T.setTop (mkF m (if b = true then pcT else pcF) Ls rest))) : Go p e below s Q C S (T.setTop (mkF m pc Ls (y :: x :: rest))) := by
  obtain ⟨hd, ho, rfl, rfl⟩ := hd; subst hb; exact k.step fun _ t => Jvm.RoadKit.acmp X hx rfl h1 h2 rfl hd rfl rfl ho rfl t
theorem w_ifnullR (X : Stand p l e R s m args below meth c T locs cells slots) (hx : p.tables.exec = Jvm.exec) {o : Int} {b : Addr} {pcT pcF : Nat} (hd : Dj c.code pc (.ifnull o) o pcT pcF) (k : Go p e below s Q C S (T.setTop (mkF m pcF Ls rest))) : Go p e below s Q C S (T.setTop (mkF m pc Ls (.ref b :: rest))) := by
  obtain ⟨hd, -, -, rfl⟩ := hd; exact k.step fun _ t => XS.ifnullNo X.here hx rfl hd rfl t
/-! returns -/
theorem w_ret (X : Stand p l e R s m args below meth c T locs cells slots) (hx : p.tables.exec = Jvm.exec) (hret : meth.sig.returnType = none) (hlk : meth.locks = false) (hd : Dc c.code pc .return_ 1 pc') (hC : cells ≤ C) (hS : slots ≤ S) (hQ : Q none T.heap locs) : Go p e below s Q C S (T.setTop (mkF m pc Ls [])) := by
  obtain ⟨fs, hr, hrun, hended, hW, hsame⟩ := X.leave (v := none) (fun _ => rfl) hlk
  exact ⟨_, _, X.returnOut hx hret hd.1 hr, hrun, hended, _, _, rfl, hQ, ⟨_, rfl⟩, hW, hsame.mono hC hS⟩
theorem w_retI (X : Stand p l e R s m args below meth c T locs cells slots) (hx : p.tables.exec = Jvm.exec) (hret : meth.sig.returnType = some .int) (hlk : meth.locks = false) {z : Int32} (hd : Dc c.code pc .ireturn 1 pc') (hC : cells ≤ C) (hS : slots ≤ S) (hQ : Q (some (.int z)) T.heap locs) : Go p e below s Q C S (T.setTop (mkF m pc Ls (.int z :: rest))) := by
  obtain ⟨fs, hr, hrun, hended, hW, hsame⟩ := X.leave (v := some (.int z)) (fun h => by rw [hret] at h; cases h) hlk
  exact ⟨_, _, retOut X hx hret rfl (Or.inl ⟨rfl, Or.inl rfl, _, rfl⟩) hd.1 hr, hrun, hended, _, _, rfl, hQ, ⟨_, rfl⟩, hW, hsame.mono hC hS⟩
theorem w_retN (X : Stand p l e R s m args below meth c T locs cells slots) (hx : p.tables.exec = Jvm.exec) {t : FieldType} (hret : meth.sig.returnType = some t) (ht : t = .boolean ∨ t = .byte ∨ t = .char ∨ t = .short) (hlk : meth.locks = false) {z : Int32} (hd : Dc c.code pc .ireturn 1 pc') (hC : cells ≤ C) (hS : slots ≤ S) (hQ : Q (some (.int (nar t z))) T.heap locs) : Go p e below s Q C S (T.setTop (mkF m pc Ls (.int z :: rest))) := by
  obtain ⟨fs, hr, hrun, hended, hW, hsame⟩ := X.leave (v := some (.int (nar t z))) (fun h => by rw [hret] at h; cases h) hlk
  exact ⟨_, _, retN X hx hret ht hd.1 hr, hrun, hended, _, _, rfl, hQ, ⟨_, rfl⟩, hW, hsame.mono hC hS⟩
theorem w_retJ (X : Stand p l e R s m args below meth c T locs cells slots) (hx : p.tables.exec = Jvm.exec) (hret : meth.sig.returnType = some .long) (hlk : meth.locks = false) {z : Int64} (hd : Dc c.code pc .lreturn 1 pc') (hC : cells ≤ C) (hS : slots ≤ S) (hQ : Q (some (.long z)) T.heap locs) : Go p e below s Q C S (T.setTop (mkF m pc Ls (.long z :: rest))) := by
  obtain ⟨fs, hr, hrun, hended, hW, hsame⟩ := X.leave (v := some (.long z)) (fun h => by rw [hret] at h; cases h) hlk
  exact ⟨_, _, retOut X hx hret rfl (Or.inr (Or.inl ⟨rfl, rfl, _, rfl⟩)) hd.1 hr, hrun, hended, _, _, rfl, hQ, ⟨_, rfl⟩, hW, hsame.mono hC hS⟩
theorem w_retA (X : Stand p l e R s m args below meth c T locs cells slots) (hx : p.tables.exec = Jvm.exec) {t : FieldType} {a : Addr} (hret : meth.sig.returnType = some t) (ht : t.isReference = true) (hn : narrow t (.ref a) = .ref a) (hlk : meth.locks = false) (hd : Dc c.code pc .areturn 1 pc') (hC : cells ≤ C) (hS : slots ≤ S) (hQ : Q (some (.ref a)) T.heap locs) : Go p e below s Q C S (T.setTop (mkF m pc Ls (.ref a :: rest))) := by
  obtain ⟨fs, hr, hrun, hended, hW, hsame⟩ := X.leave (v := some (.ref a)) (fun h => by rw [hret] at h; cases h) hlk
  exact ⟨_, _, retOut X hx hret hn (Or.inr (Or.inr (Or.inr (Or.inr ⟨rfl, ht, rfl⟩)))) hd.1 hr, hrun, hended, _, _, rfl, hQ, ⟨_, rfl⟩, hW, hsame.mono hC hS⟩
/-! contracts -/
def Ct (l : Launch) (Z : State) (y : MethodName) (bytes : ByteArray) (maxL : Nat) (ret : Option FieldType) (rm : Room) (as' : Array Value) (h : Heap) (Q : Option Value → Heap → List Loc → Prop) : Prop :=
  MetFree l y (head1 [Jvm.Cond.code y bytes maxL ret] rm) (fun a U => a = as' ∧ Z.Warmed39 U.vm ∧ U.heap = h) (fun _ _ _ _ _ => True) (fun _ U o U' => ∃ v L, o = .returned v ∧ Q v U'.heap L ∧ FrameEnd U o U' L rm.cells rm.slots)
theorem w_body {y : MethodName} {bytes : ByteArray} {maxL : Nat} {ret : Option FieldType} {rm : Room} {as' : Array Value} {ws : List Jvm.Cond} (hp : plainFor y = true)
    (body : ∀ (p : Program) (e : Env) (s : State) (m : MethodId) (below : List Frame) (meth : Method) (c : Code) (T : State), Stand p l e rm s m as' below meth c T [] 0 0 → p.tables.exec = Jvm.exec → c.code = bytes → c.maxLocals = maxL → s.vm.findClass y.cls = some m.cls → meth.name = y.name → meth.sig.returnType = ret → meth.locks = false → Z.Warmed39 s.vm → T.heap = h → Go p e below s Q C S (T.setTop (entryFrame m as' maxL))) :
    MetFree l y (head1 (Jvm.Cond.code y bytes maxL ret :: ws) rm) (fun a U => a = as' ∧ Z.Warmed39 U.vm ∧ U.heap = h) (fun _ _ _ _ _ => True) (fun _ U o U' => ∃ v L, o = .returned v ∧ Q v U'.heap L ∧ FrameEnd U o U' L C S) := by
  refine MetFree.of_bodySF hp hisR ?_
  intro p e s m args below meth c s₁ Bd hml0 hP hK
  obtain ⟨rfl, hZ, hh⟩ := hP
  exact body p e s m below meth c s₁ (Stand.of_body Bd) Bd.exec Bd.bytes hml0 (findClass_of_methodNamed Bd.named) (name_of_methodNamed Bd.named Bd.method).1 Bd.returns Bd.notSynchronized hZ (by rw [← hh, Bd.state]; rfl)
theorem Ct.body {y : MethodName} {bytes : ByteArray} {maxL : Nat} {ret : Option FieldType} {rm : Room} {as' : Array Value} (hp : plainFor y = true)
    (body : ∀ (p : Program) (e : Env) (s : State) (m : MethodId) (below : List Frame) (meth : Method) (c : Code) (T : State), Stand p l e rm s m as' below meth c T [] 0 0 → p.tables.exec = Jvm.exec → c.code = bytes → c.maxLocals = maxL → s.vm.findClass y.cls = some m.cls → meth.name = y.name → meth.sig.returnType = ret → meth.locks = false → Z.Warmed39 s.vm → T.heap = h → Go p e below s Q rm.cells rm.slots (T.setTop (entryFrame m as' maxL))) :
    Ct l Z y bytes maxL ret rm as' h Q := w_body hp body
/-! calls -/
theorem w_callS (X : Stand p l e R s m args below meth c T locs cells slots) (hx : p.tables.exec = Jvm.exec) (hZ : Z.Warmed39 s.vm) (eT : T.heap = h) {kk : Nat} (hml : c.maxLocals = kk) (hkk : Ls.size = kk) {own : String} (hown : s.vm.findClass own = some m.cls) {index : Nat} {y : MethodName} {bytes : ByteArray} {maxL : Nat} {ret : Option FieldType} {rm : Room} {as' : Array Value} {Qc : Option Value → Heap → List Loc → Prop}
    (w1 : (Jvm.Cond.methodLink own index y).before a0 Z = true) (w2 : (Jvm.Cond.static y).before a0 Z = true) (w3 : (Jvm.Cond.initialized y.cls).before a0 Z = true) (w4 : (Jvm.Cond.code y bytes maxL ret).before a0 Z = true) (hy : y.cls ≠ "java/lang/invoke/MethodHandle" ∧ y.cls ≠ "java/lang/invoke/VarHandle")
    (hM : Ct l Z y bytes maxL ret rm as' h Qc) (hd : Dc c.code pc (.invokestatic index) 3 pc') {ps : List FieldType} {r : Option FieldType} (hpd : parseMethodDescriptor y.desc = some ⟨ps, r⟩) {argsL st rest : List Value} (has : argsL.toArray = as') (hst : st = argsL.reverse ++ rest) (hlen : argsL.length = ps.length) {W : Nat} (hW : (rest.map fun v => v.category).sum = W)
    (hf : rm.frames + 1 ≤ R.frames) (hl : W + (maxL + 11) + rm.locals ≤ R.locals) (hcl : cells + rm.cells ≤ R.cells) (hsl : slots + rm.slots ≤ R.slots)
    (k : ∀ (v : Option Value) (T' : State) (L : List Loc), Stand p l e R s m args below meth c T' (locs ++ L) (cells + rm.cells) (slots + rm.slots) → Qc v T'.heap L → Go p e below s Q C S (T'.setTop (mkF m pc' Ls (v.toList ++ rest)))) :
    Go p e below s Q C S (T.setTop (mkF m pc Ls st)) := by
  subst hst has hW
  obtain ⟨hd, rfl⟩ := hd
  obtain ⟨v, _, ⟨T', L', k', n'⟩, -, X', ⟨Lc, hQ, e1, e2, e3⟩, st⟩ := Jvm.LawKit.callS X hx (y := y) hown (mvT hZ w1) (mvT hZ w2) (mvT hZ w3) (mvT hZ w4) hy (backOf (W := (rest.map fun v => v.category).sum) hM hZ w4 w3 hf hl) (g := mkF m pc Ls (argsL.reverse ++ rest)) rfl (hkk.trans hml.symm) (argsL := argsL) (rest := rest) (lenOf hpd hlen) rfl (by show 2 * 0 + _ ≤ _; omega) hd (fun _ _ => ⟨rfl, eT, hcl, hsl⟩)
  dsimp only [Pt.U, Pt.locs, Pt.cells, Pt.slots] at X' e1 e2 e3 st hQ
  subst e1 e2 e3
  exact (k v T' Lc X' hQ).step st
theorem w_callV (X : Stand p l e R s m args below meth c T locs cells slots) (hx : p.tables.exec = Jvm.exec) (hZ : Z.Warmed39 s.vm) (eT : T.heap = h) {kk : Nat} (hml : c.maxLocals = kk) (hkk : Ls.size = kk) {own : String} (hown : s.vm.findClass own = some m.cls) {index : Nat} {y : MethodName} {bytes : ByteArray} {maxL : Nat} {ret : Option FieldType} {rm : Room} {as' : Array Value} {Qc : Option Value → Heap → List Loc → Prop}
    (w1 : (Jvm.Cond.methodLink own index y).before a0 Z = true) (w2 : (Jvm.Cond.declares y).before a0 Z = true) (w5 : (Jvm.Cond.selects y.cls y y).before a0 Z = true) (w6 : (Jvm.Cond.instanceMethod y).before a0 Z = true) (w3 : (Jvm.Cond.initialized y.cls).before a0 Z = true) (w4 : (Jvm.Cond.code y bytes maxL ret).before a0 Z = true) (hy : y.cls ≠ "java/lang/invoke/MethodHandle" ∧ y.cls ≠ "java/lang/invoke/VarHandle")
    (hM : Ct l Z y bytes maxL ret rm as' h Qc) {b : Addr} (E : Exa Z h b y.cls) (hd : Dc c.code pc (.invokevirtual index) 3 pc') {ps : List FieldType} {r : Option FieldType} (hpd : parseMethodDescriptor y.desc = some ⟨ps, r⟩) {argsL st rest : List Value} (has : (.ref b :: argsL).toArray = as') (hst : st = argsL.reverse ++ .ref b :: rest) (hlen : argsL.length = ps.length) {W : Nat} (hW : (rest.map fun v => v.category).sum = W)
    (hf : rm.frames + 1 ≤ R.frames) (hl : W + (maxL + 11) + rm.locals ≤ R.locals) (hcl : cells + rm.cells ≤ R.cells) (hsl : slots + rm.slots ≤ R.slots)
    (k : ∀ (v : Option Value) (T' : State) (L : List Loc), Stand p l e R s m args below meth c T' (locs ++ L) (cells + rm.cells) (slots + rm.slots) → Qc v T'.heap L → Go p e below s Q C S (T'.setTop (mkF m pc' Ls (v.toList ++ rest)))) :
    Go p e below s Q C S (T.setTop (mkF m pc Ls st)) := by
  subst hst has hW
  obtain ⟨hd, rfl⟩ := hd
  obtain ⟨cq, kq, qa, qb, qc⟩ := isOf hZ eT E
  obtain ⟨v, _, ⟨T', L', k', n'⟩, -, X', ⟨Lc, hQ, e1, e2, e3⟩, st⟩ := X.virtualBack hx (y := y) (z := y) hown (mvT hZ w1) (mvT hZ w2) (notFace_of_selects (args := #[]) (mvT hZ w5)) (mvT hZ w5) (mvT hZ w6) hy (backOf (W := (rest.map fun v => v.category).sum) hM hZ w4 w3 hf hl) qa qc (g := mkF m pc Ls (argsL.reverse ++ .ref b :: rest)) rfl (hkk.trans hml.symm) (Steps.refl _) (argsL := argsL) (rest := rest) (lenOf hpd hlen) rfl (by show 2 * 0 + _ ≤ _; omega) hd (fun _ _ => ⟨rfl, eT, hcl, hsl⟩)
  dsimp only [Pt.U, Pt.locs, Pt.cells, Pt.slots] at X' e1 e2 e3 st hQ
  subst e1 e2 e3
  exact (k v T' Lc X' hQ).step fun _ q => st.trans q
theorem w_callSP (X : Stand p l e R s m args below meth c T locs cells slots) (hx : p.tables.exec = Jvm.exec) (hZ : Z.Warmed39 s.vm) (eT : T.heap = h) {kk : Nat} (hml : c.maxLocals = kk) (hkk : Ls.size = kk) {own : String} (hown : s.vm.findClass own = some m.cls) {index : Nat} {y : MethodName} {bytes : ByteArray} {maxL : Nat} {ret : Option FieldType} {f lo : Nat} {as' : Array Value} {rv : Value}
    (w1 : (Jvm.Cond.methodLink own index y).before a0 Z = true) (w2 : (Jvm.Cond.static y).before a0 Z = true) (w3 : (Jvm.Cond.initialized y.cls).before a0 Z = true) (w4 : (Jvm.Cond.code y bytes maxL ret).before a0 Z = true) (hy : y.cls ≠ "java/lang/invoke/MethodHandle" ∧ y.cls ≠ "java/lang/invoke/VarHandle")
    (hM : Ct l Z y bytes maxL ret ({ frames := f, cells := 0, slots := 0, locals := lo } : Room) as' h (fun v h' L => v = some rv ∧ h' = h ∧ L = [])) (hd : Dc c.code pc (.invokestatic index) 3 pc') {ps : List FieldType} {r : Option FieldType} (hpd : parseMethodDescriptor y.desc = some ⟨ps, r⟩) {argsL st rest : List Value} (has : argsL.toArray = as') (hst : st = argsL.reverse ++ rest) (hlen : argsL.length = ps.length) {W : Nat} (hW : (rest.map fun v => v.category).sum = W)
    (hf : f + 1 ≤ R.frames) (hl : W + (maxL + 11) + lo ≤ R.locals) (hcl : cells ≤ R.cells) (hsl : slots ≤ R.slots)
    (k : ∀ T', Stand p l e R s m args below meth c T' locs cells slots → T'.heap = h → Go p e below s Q C S (T'.setTop (mkF m pc' Ls (rv :: rest)))) :
    Go p e below s Q C S (T.setTop (mkF m pc Ls st)) := by
  refine w_callS X hx hZ eT hml hkk hown w1 w2 w3 w4 hy hM hd hpd has hst hlen hW hf hl hcl hsl fun v T' L X' hQ => ?_
  obtain ⟨rfl, e', rfl⟩ := hQ
  rw [List.append_nil] at X'
  exact k T' X' e'
theorem w_callVP (X : Stand p l e R s m args below meth c T locs cells slots) (hx : p.tables.exec = Jvm.exec) (hZ : Z.Warmed39 s.vm) (eT : T.heap = h) {kk : Nat} (hml : c.maxLocals = kk) (hkk : Ls.size = kk) {own : String} (hown : s.vm.findClass own = some m.cls) {index : Nat} {y : MethodName} {bytes : ByteArray} {maxL : Nat} {ret : Option FieldType} {f lo : Nat} {as' : Array Value} {rv : Value}
    (w1 : (Jvm.Cond.methodLink own index y).before a0 Z = true) (w2 : (Jvm.Cond.declares y).before a0 Z = true) (w5 : (Jvm.Cond.selects y.cls y y).before a0 Z = true) (w6 : (Jvm.Cond.instanceMethod y).before a0 Z = true) (w3 : (Jvm.Cond.initialized y.cls).before a0 Z = true) (w4 : (Jvm.Cond.code y bytes maxL ret).before a0 Z = true) (hy : y.cls ≠ "java/lang/invoke/MethodHandle" ∧ y.cls ≠ "java/lang/invoke/VarHandle")
    (hM : Ct l Z y bytes maxL ret ({ frames := f, cells := 0, slots := 0, locals := lo } : Room) as' h (fun v h' L => v = some rv ∧ h' = h ∧ L = [])) {b : Addr} (E : Exa Z h b y.cls) (hd : Dc c.code pc (.invokevirtual index) 3 pc') {ps : List FieldType} {r : Option FieldType} (hpd : parseMethodDescriptor y.desc = some ⟨ps, r⟩) {argsL st rest : List Value} (has : (.ref b :: argsL).toArray = as') (hst : st = argsL.reverse ++ .ref b :: rest) (hlen : argsL.length = ps.length) {W : Nat} (hW : (rest.map fun v => v.category).sum = W)
    (hf : f + 1 ≤ R.frames) (hl : W + (maxL + 11) + lo ≤ R.locals) (hcl : cells ≤ R.cells) (hsl : slots ≤ R.slots)
    (k : ∀ T', Stand p l e R s m args below meth c T' locs cells slots → T'.heap = h → Go p e below s Q C S (T'.setTop (mkF m pc' Ls (rv :: rest)))) :
    Go p e below s Q C S (T.setTop (mkF m pc Ls st)) := by
  refine w_callV X hx hZ eT hml hkk hown w1 w2 w5 w6 w3 w4 hy hM E hd hpd has hst hlen hW hf hl hcl hsl fun v T' L X' hQ => ?_
  obtain ⟨rfl, e', rfl⟩ := hQ
  rw [List.append_nil] at X'
  exact k T' X' e'
theorem w_callI (X : Stand p l e R s m args below meth c T locs cells slots) (hx : p.tables.exec = Jvm.exec) (hZ : Z.Warmed39 s.vm) (eT : T.heap = h) {kk : Nat} (hml : c.maxLocals = kk) (hkk : Ls.size = kk) {own : String} (hown : s.vm.findClass own = some m.cls) {index : Nat} {y : MethodName} {bytes : ByteArray} {maxL : Nat} {rm : Room} {as' : Array Value} {Qc : Option Value → Heap → List Loc → Prop} (hy1 : y.name = "<init>")
    (w1 : (Jvm.Cond.methodLink own index y).before a0 Z = true) (w6 : (Jvm.Cond.instanceMethod y).before a0 Z = true) (w3 : (Jvm.Cond.initialized y.cls).before a0 Z = true) (w4 : (Jvm.Cond.code y bytes maxL none).before a0 Z = true) (hy : y.cls ≠ "java/lang/invoke/MethodHandle" ∧ y.cls ≠ "java/lang/invoke/VarHandle")
    (hM : Ct l Z y bytes maxL none rm as' h Qc) {b : Addr} (hd : Dc c.code pc (.invokespecial index) 3 pc') {ps : List FieldType} {r : Option FieldType} (hpd : parseMethodDescriptor y.desc = some ⟨ps, r⟩) {argsL st rest : List Value} (has : (.ref b :: argsL).toArray = as') (hst : st = argsL.reverse ++ .ref b :: rest) (hlen : argsL.length = ps.length) {W : Nat} (hW : (rest.map fun v => v.category).sum = W)
    (hf : rm.frames + 1 ≤ R.frames) (hl : W + (maxL + 11) + rm.locals ≤ R.locals) (hcl : cells + rm.cells ≤ R.cells) (hsl : slots + rm.slots ≤ R.slots)
    (k : ∀ (v : Option Value) (T' : State) (L : List Loc), Stand p l e R s m args below meth c T' (locs ++ L) (cells + rm.cells) (slots + rm.slots) → Qc v T'.heap L → Go p e below s Q C S (T'.setTop (mkF m pc' Ls (v.toList ++ rest)))) :
    Go p e below s Q C S (T.setTop (mkF m pc Ls st)) := by
  subst hst has hW
  obtain ⟨hd, rfl⟩ := hd
  obtain ⟨v, _, ⟨T', L', k', n'⟩, -, X', ⟨Lc, hQ, e1, e2, e3⟩, st⟩ := X.specialBack hx (y := y) hy1 hown (mvT hZ w1) (mvT hZ w6) (mvT hZ w4) hy (backOf (W := (rest.map fun v => v.category).sum) hM hZ w4 w3 hf hl) (g := mkF m pc Ls (argsL.reverse ++ .ref b :: rest)) rfl (hkk.trans hml.symm) (Steps.refl _) (a := b) (argsL := argsL) (rest := rest) (lenOf hpd hlen) rfl (by show 2 * 0 + _ ≤ _; omega) hd (fun _ _ => ⟨rfl, eT, hcl, hsl⟩)
  dsimp only [Pt.U, Pt.locs, Pt.cells, Pt.slots] at X' e1 e2 e3 st hQ
  subst e1 e2 e3
  exact (k v T' Lc X' hQ).step fun _ q => st.trans q
theorem w_objinit (X : Stand p l e R s m args below meth c T locs cells slots) (hx : p.tables.exec = Jvm.exec) (hZ : Z.Warmed39 s.vm) (eT : T.heap = h) {kk : Nat} (hml : c.maxLocals = kk) (hkk : Ls.size = kk) {own : String} (hown : s.vm.findClass own = some m.cls) {index : Nat}
    (w1 : (Jvm.Cond.methodLink own index Lib.objectInit).before a0 Z = true) (w2 : (Jvm.Cond.instanceMethod Lib.objectInit).before a0 Z = true) (w3 : (Jvm.Cond.code Lib.objectInit ⟨#[0xb1]⟩ 1 none).before a0 Z = true) (hd : Dc c.code pc (.invokespecial index) 3 pc') {a : Addr} (hf : 1 ≤ R.frames) {W : Nat} (hW : (rest.map fun v => v.category).sum = W) (hl : W + 12 ≤ R.locals)
    (k : ∀ T', Stand p l e R s m args below meth c T' locs cells slots → T'.heap = h → Go p e below s Q C S (T'.setTop (mkF m pc' Ls rest))) : Go p e below s Q C S (T.setTop (mkF m pc Ls (.ref a :: rest))) := by
  obtain ⟨hd, rfl⟩ := hd
  obtain ⟨T', X', e', st⟩ := initO X hx hZ hown w1 w2 w3 eT (g := mkF m pc Ls (.ref a :: rest)) rfl (hkk.trans hml.symm) rfl hd hf (W := W) (by show 2 * 0 + _ ≤ _; omega) hl
  exact (k T' X' e').step st
/-! fields -/
theorem w_getf (X : Stand p l e R s m args below meth c T locs cells slots) (hx : p.tables.exec = Jvm.exec) (hZ : Z.Warmed39 s.vm) (eT : T.heap = h) {own O n d : String} {index : Nat} (hown : s.vm.findClass own = some m.cls) (w : (Jvm.Cond.fieldLink own index O n d).before a0 Z = true) {a : Addr} {v : Value} (F : Fld Z h a O n d v) (hd : Dc c.code pc (.getfield index) 3 pc')
    (k : ∀ T', Stand p l e R s m args below meth c T' locs cells slots → T'.heap = h → Go p e below s Q C S (T'.setTop (mkF m pc' Ls (v :: rest)))) : Go p e below s Q C S (T.setTop (mkF m pc Ls (.ref a :: rest))) := by
  obtain ⟨hd, rfl⟩ := hd
  obtain ⟨T', X', e', st⟩ := getF X hx hZ hown (host := "") (Or.inl w) Via.refl eT F (g := mkF m pc Ls (.ref a :: rest)) rfl rfl hd
  exact (k T' X' e').step st
theorem w_putf (X : Stand p l e R s m args below meth c T locs cells slots) (hx : p.tables.exec = Jvm.exec) (hZ : Z.Warmed39 s.vm) (eT : T.heap = h) {own O n d : String} {index kk : Nat} {ty : FieldType} (hown : s.vm.findClass own = some m.cls) (w : (Jvm.Cond.fieldLink own index O n d).before a0 Z = true) {a : Addr} {v old : Value} (F : Fld Z h a O n d old) (E : Exa Z h a O) (L : (Jvm.Cond.lays O O n d).before a0 Z = true ∨ ((Jvm.Cond.laysFinal O O n d).before a0 Z = true ∧ own = O ∧ meth.name = "<init>")) (wi : (Jvm.Cond.instantiable O kk).before a0 Z = true)
    (hty : parseFieldDescriptor d = some ty) (hn : narrow ty v = v) (hf : fits ty v = true) (hd : Dc c.code pc (.putfield index) 3 pc')
    (k : ∀ T' h', Stand p l e R s m args below meth c T' (locs ++ [⟨a, Jvm.RoadKit.slotOf Z O n d⟩]) cells slots → T'.heap = h' → Wr h h' a (Jvm.RoadKit.slotOf Z O n d) v → Go p e below s Q C S (T'.setTop (mkF m pc' Ls rest))) : Go p e below s Q C S (T.setTop (mkF m pc Ls (v :: .ref a :: rest))) := by
  obtain ⟨hd, rfl⟩ := hd
  obtain ⟨T', h', X', e', W, st⟩ := putF X hx hZ hown (host := "") (Or.inl w) Via.refl eT F E L wi hty hn hf (g := mkF m pc Ls (v :: .ref a :: rest)) rfl rfl hd
  exact (k T' h' X' e' W).step st
theorem w_new (X : Stand p l e R s m args below meth c T locs cells slots) (hx : p.tables.exec = Jvm.exec) (hZ : Z.Warmed39 s.vm) (eT : T.heap = h) {own K : String} {index n : Nat} (hown : s.vm.findClass own = some m.cls) (w : (Jvm.Cond.classLink own index K).before a0 Z = true) (wi : (Jvm.Cond.instantiable K n).before a0 Z = true) (wz : (Jvm.Cond.initialized K).before a0 Z = true) (hd : Dc c.code pc (.new index) 3 pc') (hcl : cells + 1 ≤ R.cells) (hsl : slots + n ≤ R.slots)
    (k : ∀ T' h' b, b = h.size → Stand p l e R s m args below meth c T' locs (cells + 1) (slots + n) → T'.heap = h' → Ext h h' → Exa Z h' b K → (∀ {O nm d : String} {ty : FieldType}, Laid Z a0 K O nm d → parseFieldDescriptor d = some ty → Fld Z h' b O nm d (defaultValue ty)) → Go p e below s Q C S (T'.setTop (mkF m pc' Ls (.ref b :: rest)))) : Go p e below s Q C S (T.setTop (mkF m pc Ls rest)) := by
  obtain ⟨hd, rfl⟩ := hd
  obtain ⟨T', h', X', e', E, A, D, -, st⟩ := newO X hx hZ hown w wi wz eT (g := mkF m pc Ls rest) rfl hd hcl hsl
  exact (k T' h' _ rfl X' e' E A D).step st
/-! arrays: n places, place i holds f i -/
def AV (Z : State) (h : Heap) (a : Addr) (ty : FieldType) (n : Nat) (f : Nat → Value) : Prop := n < 2 ^ 31 ∧ ∃ cl : Cell, Arr Z h a cl ty ∧ cl.slots.size = n ∧ ∀ i, i < n → cl.slots[i]? = some (f i)
theorem AV.lt {a : Addr} {ty : FieldType} {n : Nat} {f : Nat → Value} (A : AV Z h a ty n f) : a < h.size := by obtain ⟨-, c, A, -⟩ := A; exact A.lt
theorem AV.ext {a : Addr} {ty : FieldType} {n : Nat} {f : Nat → Value} {h' : Heap} (A : AV Z h a ty n f) (E : Ext h h') : AV Z h' a ty n f := by obtain ⟨h1, c, A, r⟩ := A; exact ⟨h1, c, A.ext E, r⟩
theorem AV.other {a b : Addr} {ty : FieldType} {n sl : Nat} {v : Value} {f : Nat → Value} {h' : Heap} (A : AV Z h a ty n f) (W : Wr h h' b sl v) (q : a ≠ b) : AV Z h' a ty n f := by obtain ⟨h1, c, A, r⟩ := A; exact ⟨h1, c, A.other W q, r⟩
theorem AV.keep {a : Addr} {ty : FieldType} {n : Nat} {ws : List Addr} {f : Nat → Value} {h' : Heap} (A : AV Z h a ty n f) (K : Keep h h' ws) (q : a ∉ ws) : AV Z h' a ty n f := by obtain ⟨h1, c, A, r⟩ := A; exact ⟨h1, c, ⟨K.2.1 a c A.1 q, A.2⟩, r⟩
theorem AV.congr {a : Addr} {ty : FieldType} {n : Nat} {f g : Nat → Value} (A : AV Z h a ty n f) (q : ∀ i, i < n → f i = g i) : AV Z h a ty n g := by obtain ⟨h1, c, A, r1, r2⟩ := A; exact ⟨h1, c, A, r1, fun i hi => by rw [r2 i hi, q i hi]⟩
theorem av_idx {j : Int32} {i n : Nat} {cl : Cell} (hj : j.toInt = (i : Int)) (hi : i < n) (hc : cl.slots.size = n) : ¬ (j < 0 ∨ cl.slots.size ≤ j.toNatClampNeg) ∧ j.toNatClampNeg = i := by
  have e0 : (0 : Int32).toInt = 0 := rfl
  simp only [Int32.lt_iff_toInt_lt, Int32.toNatClampNeg, e0, hj, hc]; omega
def put (f : Nat → Value) (i : Nat) (v : Value) : Nat → Value := fun k => if k = i then v else f k
theorem put_at (f : Nat → Value) (i : Nat) (v : Value) : put f i v i = v := by simp [put]
theorem put_ne (f : Nat → Value) {i k : Nat} (v : Value) (q : k ≠ i) : put f i v k = f k := by simp [put, q]
theorem AV.same {a : Addr} {ty : FieldType} {n : Nat} {v : Value} {f : Nat → Value} {h' : Heap} {i : Nat} (A : AV Z h a ty n f) (hi : i < n) (W : Wr h h' a i v) : AV Z h' a ty n (put f i v) := by
  obtain ⟨h1, c, A, r1, r2⟩ := A
  refine ⟨h1, _, A.same W, by rw [sz_set]; exact r1, fun k hk => ?_⟩
  by_cases u : k = i
  · subst u; rw [put_at]; simp [Cell.setSlot, r1, hk]
  · rw [put_ne _ _ u]; simp only [Cell.setSlot]; rw [Array.getElem?_setIfInBounds_ne (Ne.symm u)]; exact r2 k hk
theorem w_newarr (X : Stand p l e R s m args below meth c T locs cells slots) (hx : p.tables.exec = Jvm.exec) (hZ : Z.Warmed39 s.vm) (eT : T.heap = h) {aty : ArrayType} (w : (Jvm.Cond.arrayClass (newarray.typeOf aty)).before a0 Z = true) (hd : Dc c.code pc (.newarray aty) 2 pc') {z : Int32} {n cap : Nat} (hz : z.toInt = (n : Int)) (hcap : n ≤ cap) (hb : cap * 8 ≤ 536870912) (hcl : cells + 1 ≤ R.cells) (hsl : slots + cap ≤ R.slots)
    (k : ∀ T' h' b, b = h.size → Stand p l e R s m args below meth c T' locs (cells + 1) (slots + cap) → T'.heap = h' → Ext h h' → AV Z h' b (newarray.typeOf aty) n (fun _ => defaultValue (newarray.typeOf aty)) → Go p e below s Q C S (T'.setTop (mkF m pc' Ls (.ref b :: rest)))) : Go p e below s Q C S (T.setTop (mkF m pc Ls (.int z :: rest))) := by
  obtain ⟨hd, rfl⟩ := hd
  have e0 : (0 : Int32).toInt = 0 := rfl
  have hn : ¬ z < 0 := by rw [Int32.lt_iff_toInt_lt]; omega
  have en : z.toNatClampNeg = n := by simp only [Int32.toNatClampNeg]; omega
  have hlt := Int32.toInt_lt z
  obtain ⟨T', h', cA, X', e', E, A, st⟩ := newP X hx hZ w eT (g := mkF m pc Ls (.int z :: rest)) rfl hd rfl hn (cap := cap) (by omega) hb hcl hsl
  refine (k T' h' _ rfl X' e' E ⟨by omega, _, A, by rw [sz_new]; exact en, fun i hi => ?_⟩).step st
  simp [newA, en, hi]
theorem w_arrlen (X : Stand p l e R s m args below meth c T locs cells slots) (hx : p.tables.exec = Jvm.exec) (hZ : Z.Warmed39 s.vm) (eT : T.heap = h) {a : Addr} {ty : FieldType} {n : Nat} {f : Nat → Value} (A : AV Z h a ty n f) {z : Int32} (hz : z.toInt = (n : Int)) (hd : Dc c.code pc .arraylength 1 pc') (k : Go p e below s Q C S (T.setTop (mkF m pc' Ls (.int z :: rest)))) : Go p e below s Q C S (T.setTop (mkF m pc Ls (.ref a :: rest))) := by
  obtain ⟨hd, rfl⟩ := hd
  obtain ⟨h1, c, A, r1, -⟩ := A
  have ez : z = c.slots.size.toInt32 := Int32.toInt_inj.mp (by rw [len_toInt (by omega), hz, r1])
  subst ez
  exact k.step fun t q => X.arraylength hx (by rw [eT]; exact A.1) (State.isArrayOf_alike hZ.alike A.2.1) (g := mkF m pc Ls (.ref a :: rest)) rfl rfl hd t q
def iF (g : Nat → Int32) : Nat → Value := fun k => .int (g k)
def lF (g : Nat → Int64) : Nat → Value := fun k => .long (g k)
def upd {α : Type} (g : Nat → α) (i : Nat) (v : α) : Nat → α := fun k => if k = i then v else g k
theorem upd_at {α : Type} (g : Nat → α) (i : Nat) (v : α) : upd g i v i = v := by simp [upd]
theorem upd_ne {α : Type} (g : Nat → α) {i k : Nat} (v : α) (q : k ≠ i) : upd g i v k = g k := by simp [upd, q]
theorem put_iF (g : Nat → Int32) (i : Nat) (v : Int32) : put (iF g) i (.int v) = iF (upd g i v) := by funext k; simp only [put, iF, upd]; split <;> rfl
theorem put_lF (g : Nat → Int64) (i : Nat) (v : Int64) : put (lF g) i (.long v) = lF (upd g i v) := by funext k; simp only [put, lF, upd]; split <;> rfl
theorem w_baload (X : Stand p l e R s m args below meth c T locs cells slots) (hx : p.tables.exec = Jvm.exec) (hZ : Z.Warmed39 s.vm) (eT : T.heap = h) {a : Addr} {n : Nat} {g : Nat → Int32} (A : AV Z h a .byte n (iF g)) {j : Int32} {i : Nat} (hj : j.toInt = (i : Int)) (hi : i < n) {z : Int32} (hv : g i = z) (hd : Dc c.code pc .baload 1 pc') (k : Go p e below s Q C S (T.setTop (mkF m pc' Ls (.int z :: rest)))) : Go p e below s Q C S (T.setTop (mkF m pc Ls (.int j :: .ref a :: rest))) := by
  obtain ⟨hd, rfl⟩ := hd
  subst hv
  obtain ⟨h1, cl, A, r1, r2⟩ := A
  obtain ⟨q1, q2⟩ := av_idx hj hi r1
  exact k.step fun t q => X.baloadBytes hx (by rw [eT]; exact A.1) (State.isArrayOf_alike hZ.alike A.2.1) A.2.2 q1 (by rw [q2, r2 i hi]; rfl) (g := mkF m pc Ls (.int j :: .ref a :: rest)) rfl rfl hd t q
theorem w_iaload (X : Stand p l e R s m args below meth c T locs cells slots) (hx : p.tables.exec = Jvm.exec) (hZ : Z.Warmed39 s.vm) (eT : T.heap = h) {a : Addr} {n : Nat} {g : Nat → Int32} (A : AV Z h a .int n (iF g)) {j : Int32} {i : Nat} (hj : j.toInt = (i : Int)) (hi : i < n) {z : Int32} (hv : g i = z) (hd : Dc c.code pc .iaload 1 pc') (k : Go p e below s Q C S (T.setTop (mkF m pc' Ls (.int z :: rest)))) : Go p e below s Q C S (T.setTop (mkF m pc Ls (.int j :: .ref a :: rest))) := by
  obtain ⟨hd, rfl⟩ := hd
  subst hv
  obtain ⟨h1, cl, A, r1, r2⟩ := A
  obtain ⟨q1, q2⟩ := av_idx hj hi r1
  exact k.step fun t q => X.iaload hx (by rw [eT]; exact A.1) (State.isArrayOf_alike hZ.alike A.2.1) A.2.2 q1 (by rw [q2, r2 i hi]; rfl) (g := mkF m pc Ls (.int j :: .ref a :: rest)) rfl rfl hd t q
theorem w_laload (X : Stand p l e R s m args below meth c T locs cells slots) (hx : p.tables.exec = Jvm.exec) (hZ : Z.Warmed39 s.vm) (eT : T.heap = h) {a : Addr} {n : Nat} {g : Nat → Int64} (A : AV Z h a .long n (lF g)) {j : Int32} {i : Nat} (hj : j.toInt = (i : Int)) (hi : i < n) {z : Int64} (hv : g i = z) (hd : Dc c.code pc .laload 1 pc') (k : Go p e below s Q C S (T.setTop (mkF m pc' Ls (.long z :: rest)))) : Go p e below s Q C S (T.setTop (mkF m pc Ls (.int j :: .ref a :: rest))) := by
  obtain ⟨hd, rfl⟩ := hd
  subst hv
  obtain ⟨h1, cl, A, r1, r2⟩ := A
  obtain ⟨q1, q2⟩ := av_idx hj hi r1
  exact k.step fun t q => X.laload hx (by rw [eT]; exact A.1) (State.isArrayOf_alike hZ.alike A.2.1) A.2.2 q1 (by rw [q2, r2 i hi]; rfl) (g := mkF m pc Ls (.int j :: .ref a :: rest)) rfl rfl hd t q
theorem w_zaload (X : Stand p l e R s m args below meth c T locs cells slots) (hx : p.tables.exec = Jvm.exec) (hZ : Z.Warmed39 s.vm) (eT : T.heap = h) {a : Addr} {n : Nat} {g : Nat → Int32} (A : AV Z h a .boolean n (iF g)) {j : Int32} {i : Nat} (hj : j.toInt = (i : Int)) (hi : i < n) {z : Int32} (hv : g i = z) (hd : Dc c.code pc .baload 1 pc') (k : Go p e below s Q C S (T.setTop (mkF m pc' Ls (.int z :: rest)))) : Go p e below s Q C S (T.setTop (mkF m pc Ls (.int j :: .ref a :: rest))) := by
  obtain ⟨hd, rfl⟩ := hd
  subst hv
  obtain ⟨h1, cl, A, r1, r2⟩ := A
  obtain ⟨q1, q2⟩ := av_idx hj hi r1
  exact k.step fun t q => X.baloadBooleans hx (by rw [eT]; exact A.1) (State.isArrayOf_alike hZ.alike A.2.1) A.2.2 q1 (by rw [q2, r2 i hi]; rfl) (g := mkF m pc Ls (.int j :: .ref a :: rest)) rfl rfl hd t q
theorem w_bastore (X : Stand p l e R s m args below meth c T locs cells slots) (hx : p.tables.exec = Jvm.exec) (hZ : Z.Warmed39 s.vm) (eT : T.heap = h) {a : Addr} {n : Nat} {g : Nat → Int32} (A : AV Z h a .byte n (iF g)) {j : Int32} {x : Int32} {i : Nat} (hj : j.toInt = (i : Int)) (hi : i < n) (hd : Dc c.code pc .bastore 1 pc')
    (k : ∀ T' h', Stand p l e R s m args below meth c T' (locs ++ [⟨a, i⟩]) cells slots → T'.heap = h' → Wr h h' a i (.int (x.toInt8.toInt32)) → AV Z h' a .byte n (iF (upd g i (x.toInt8.toInt32))) → Go p e below s Q C S (T'.setTop (mkF m pc' Ls rest))) : Go p e below s Q C S (T.setTop (mkF m pc Ls (.int x :: .int j :: .ref a :: rest))) := by
  obtain ⟨hd, rfl⟩ := hd
  have A' := A
  obtain ⟨h1, cl, A, r1, r2⟩ := A
  obtain ⟨q1, q2⟩ := av_idx hj hi r1
  obtain ⟨T', h', X', e', W, st⟩ := stB X hx hZ eT A (j := j) q1 (g := mkF m pc Ls (.int x :: .int j :: .ref a :: rest)) rfl rfl hd
  rw [q2] at X' W
  exact (k T' h' X' e' W (put_iF g i _ ▸ A'.same hi W)).step st
theorem w_zastore (X : Stand p l e R s m args below meth c T locs cells slots) (hx : p.tables.exec = Jvm.exec) (hZ : Z.Warmed39 s.vm) (eT : T.heap = h) {a : Addr} {n : Nat} {g : Nat → Int32} (A : AV Z h a .boolean n (iF g)) {j : Int32} {x : Int32} {i : Nat} (hj : j.toInt = (i : Int)) (hi : i < n) (hd : Dc c.code pc .bastore 1 pc')
    (k : ∀ T' h', Stand p l e R s m args below meth c T' (locs ++ [⟨a, i⟩]) cells slots → T'.heap = h' → Wr h h' a i (.int (x &&& 1)) → AV Z h' a .boolean n (iF (upd g i (x &&& 1))) → Go p e below s Q C S (T'.setTop (mkF m pc' Ls rest))) : Go p e below s Q C S (T.setTop (mkF m pc Ls (.int x :: .int j :: .ref a :: rest))) := by
  obtain ⟨hd, rfl⟩ := hd
  have A' := A
  obtain ⟨h1, cl, A, r1, r2⟩ := A
  obtain ⟨q1, q2⟩ := av_idx hj hi r1
  obtain ⟨T', h', X', e', W, st⟩ := stZ X hx hZ eT A (j := j) q1 (g := mkF m pc Ls (.int x :: .int j :: .ref a :: rest)) rfl rfl hd
  rw [q2] at X' W
  exact (k T' h' X' e' W (put_iF g i _ ▸ A'.same hi W)).step st
theorem w_iastore (X : Stand p l e R s m args below meth c T locs cells slots) (hx : p.tables.exec = Jvm.exec) (hZ : Z.Warmed39 s.vm) (eT : T.heap = h) {a : Addr} {n : Nat} {g : Nat → Int32} (A : AV Z h a .int n (iF g)) {j : Int32} {x : Int32} {i : Nat} (hj : j.toInt = (i : Int)) (hi : i < n) (hd : Dc c.code pc .iastore 1 pc')
    (k : ∀ T' h', Stand p l e R s m args below meth c T' (locs ++ [⟨a, i⟩]) cells slots → T'.heap = h' → Wr h h' a i (.int (x)) → AV Z h' a .int n (iF (upd g i (x))) → Go p e below s Q C S (T'.setTop (mkF m pc' Ls rest))) : Go p e below s Q C S (T.setTop (mkF m pc Ls (.int x :: .int j :: .ref a :: rest))) := by
  obtain ⟨hd, rfl⟩ := hd
  have A' := A
  obtain ⟨h1, cl, A, r1, r2⟩ := A
  obtain ⟨q1, q2⟩ := av_idx hj hi r1
  obtain ⟨T', h', X', e', W, st⟩ := stI X hx hZ eT A (j := j) q1 (g := mkF m pc Ls (.int x :: .int j :: .ref a :: rest)) rfl rfl hd
  rw [q2] at X' W
  exact (k T' h' X' e' W (put_iF g i _ ▸ A'.same hi W)).step st
theorem w_lastore (X : Stand p l e R s m args below meth c T locs cells slots) (hx : p.tables.exec = Jvm.exec) (hZ : Z.Warmed39 s.vm) (eT : T.heap = h) {a : Addr} {n : Nat} {g : Nat → Int64} (A : AV Z h a .long n (lF g)) {j : Int32} {x : Int64} {i : Nat} (hj : j.toInt = (i : Int)) (hi : i < n) (hd : Dc c.code pc .lastore 1 pc')
    (k : ∀ T' h', Stand p l e R s m args below meth c T' (locs ++ [⟨a, i⟩]) cells slots → T'.heap = h' → Wr h h' a i (.long (x)) → AV Z h' a .long n (lF (upd g i (x))) → Go p e below s Q C S (T'.setTop (mkF m pc' Ls rest))) : Go p e below s Q C S (T.setTop (mkF m pc Ls (.long x :: .int j :: .ref a :: rest))) := by
  obtain ⟨hd, rfl⟩ := hd
  have A' := A
  obtain ⟨h1, cl, A, r1, r2⟩ := A
  obtain ⟨q1, q2⟩ := av_idx hj hi r1
  obtain ⟨T', h', X', e', W, st⟩ := stJ X hx hZ eT A (j := j) q1 (g := mkF m pc Ls (.long x :: .int j :: .ref a :: rest)) rfl rfl hd
  rw [q2] at X' W
  exact (k T' h' X' e' W (put_lF g i _ ▸ A'.same hi W)).step st
end Kit
section Num
/-! numbers: an int's or a long's unsigned worth -/
def u32 (x : Int32) : Nat := x.toBitVec.toNat
def u64 (x : Int64) : Nat := x.toBitVec.toNat
theorem u32_lt (x : Int32) : u32 x < 4294967296 := x.toBitVec.isLt
theorem u64_lt (x : Int64) : u64 x < 18446744073709551616 := x.toBitVec.isLt
theorem i_u32 (x : Int32) : x.toInt = if u32 x < 2147483648 then (u32 x : Int) else (u32 x : Int) - 4294967296 := by
  show x.toBitVec.toInt = _
  rw [BitVec.toInt_eq_toNat_cond]; unfold u32; split <;> split <;> omega
theorem i_u64 (x : Int64) : x.toInt = if u64 x < 9223372036854775808 then (u64 x : Int) else (u64 x : Int) - 18446744073709551616 := by
  show x.toBitVec.toInt = _
  rw [BitVec.toInt_eq_toNat_cond]; unfold u64; split <;> split <;> omega
theorem u32_i (x : Int32) : (u32 x : Int) = x.toInt % 4294967296 := by have := u32_lt x; rw [i_u32]; split <;> omega
theorem u64_i (x : Int64) : (u64 x : Int) = x.toInt % 18446744073709551616 := by have := u64_lt x; rw [i_u64]; split <;> omega
theorem u32_inj {x y : Int32} (q : u32 x = u32 y) : x = y := Int32.toBitVec_inj.mp (BitVec.eq_of_toNat_eq q)
theorem u64_inj {x y : Int64} (q : u64 x = u64 y) : x = y := Int64.toBitVec_inj.mp (BitVec.eq_of_toNat_eq q)
theorem i32_inj {x y : Int32} (q : x.toInt = y.toInt) : x = y := Int32.toInt_inj.mp q
theorem i64_inj {x y : Int64} (q : x.toInt = y.toInt) : x = y := Int64.toInt_inj.mp q
theorem i32_ne {x y : Int32} (q : x ≠ y) : x.toInt ≠ y.toInt := fun e => q (Int32.toInt_inj.mp e)
theorem i64_ne {x y : Int64} (q : x ≠ y) : x.toInt ≠ y.toInt := fun e => q (Int64.toInt_inj.mp e)
theorem i_rng32 (x : Int32) : -2147483648 ≤ x.toInt ∧ x.toInt ≤ 2147483647 := by have := u32_lt x; rw [i_u32]; split <;> omega
theorem i_rng64 (x : Int64) : -9223372036854775808 ≤ x.toInt ∧ x.toInt ≤ 9223372036854775807 := by have := u64_lt x; rw [i_u64]; split <;> omega
theorem u32_and (x m : Int32) {k : Nat} (hm : u32 m = 2 ^ k - 1) : u32 (x &&& m) = u32 x % 2 ^ k := by
  unfold u32 at *; rw [Int32.toBitVec_and, BitVec.toNat_and, hm, Nat.and_two_pow_sub_one_eq_mod]
theorem u64_and (x m : Int64) {k : Nat} (hm : u64 m = 2 ^ k - 1) : u64 (x &&& m) = u64 x % 2 ^ k := by
  unfold u64 at *; rw [Int64.toBitVec_and, BitVec.toNat_and, hm, Nat.and_two_pow_sub_one_eq_mod]
theorem and_or64 (x y z : Int64) : x &&& (y ||| z) = (x &&& y) ||| (x &&& z) := by
  apply Int64.toBitVec_inj.mp
  simp only [Int64.toBitVec_and, Int64.toBitVec_or]
  exact BitVec.and_or_distrib_left
theorem or_add {a b : Nat} (k : Nat) (ha : a % 2 ^ k = 0) (hb : b < 2 ^ k) : a ||| b = a + b := by
  obtain ⟨q, rfl⟩ := Nat.dvd_of_mod_eq_zero ha
  exact (Nat.two_pow_add_eq_or_of_lt hb q).symm
theorem u32_or {x y : Int32} (k : Nat) (ha : u32 x % 2 ^ k = 0) (hb : u32 y < 2 ^ k) : u32 (x ||| y) = u32 x + u32 y := by
  unfold u32 at *; rw [Int32.toBitVec_or, BitVec.toNat_or, or_add k ha hb]
theorem u64_or {x y : Int64} (k : Nat) (ha : u64 x % 2 ^ k = 0) (hb : u64 y < 2 ^ k) : u64 (x ||| y) = u64 x + u64 y := by
  unfold u64 at *; rw [Int64.toBitVec_or, BitVec.toNat_or, or_add k ha hb]
theorem u32_add (x y : Int32) : u32 (x + y) = (u32 x + u32 y) % 4294967296 := by unfold u32; rw [Int32.toBitVec_add, BitVec.toNat_add]
theorem u64_add (x y : Int64) : u64 (x + y) = (u64 x + u64 y) % 18446744073709551616 := by unfold u64; rw [Int64.toBitVec_add, BitVec.toNat_add]
theorem i_ofNat {k : Nat} (hk : k < 2147483648) : (Int32.ofNat k).toInt = (k : Int) := Int32.toInt_ofNat_of_lt (by omega)
theorem of_i {y : Int32} {k : Nat} (q : y.toInt = (k : Int)) : y = Int32.ofNat k := by
  have := i_rng32 y
  exact Int32.toInt_inj.mp (by rw [i_ofNat (by omega)]; exact q)
theorem sh64a : ∀ k : Fin 64, (((Int32.ofNat k.val &&& 0x3f).toInt64).toBitVec.smod 64).toNat = k.val := by decide +kernel
theorem sh64b : ∀ k : Fin 64, ((Int32.ofNat k.val &&& 0x3f).toInt64.toUInt64.toBitVec % 64).toNat = k.val := by decide +kernel
theorem sh32a : ∀ k : Fin 32, ((Int32.ofNat k.val &&& 31).toBitVec.smod 32).toNat = k.val := by decide +kernel
theorem sh32b : ∀ k : Fin 32, ((Int32.ofNat k.val &&& 31).toUInt32.toBitVec % 32).toNat = k.val := by decide +kernel
theorem u_lshl (x : Int64) {y : Int32} {k : Nat} (q : y.toInt = (k : Int)) (hk : k < 64) : u64 (LShl x y) = u64 x * 2 ^ k % 18446744073709551616 := by
  have e := sh64a ⟨k, hk⟩
  rw [of_i q]; unfold u64 LShl
  rw [Int64.toBitVec_shiftLeft, BitVec.shiftLeft_eq', e, BitVec.toNat_shiftLeft, Nat.shiftLeft_eq]
theorem i_lshr (x : Int64) {y : Int32} {k : Nat} (q : y.toInt = (k : Int)) (hk : k < 64) : (LShr x y).toInt = x.toInt / 2 ^ k := by
  have e := sh64a ⟨k, hk⟩
  rw [of_i q]; unfold LShr
  exact Jvm.Kit.i64_shr x _ e
theorem u_lushr (x : Int64) {y : Int32} {k : Nat} (q : y.toInt = (k : Int)) (hk : k < 64) : u64 (LUshr x y) = u64 x / 2 ^ k := by
  have e := sh64b ⟨k, hk⟩
  rw [of_i q]; unfold u64 LUshr
  show (x.toUInt64 >>> (Int32.ofNat k &&& 0x3f).toInt64.toUInt64).toBitVec.toNat = _
  rw [UInt64.toBitVec_shiftRight, BitVec.ushiftRight_eq', e, BitVec.toNat_ushiftRight, Nat.shiftRight_eq_div_pow]; rfl
theorem u_ishl (x : Int32) {y : Int32} {k : Nat} (q : y.toInt = (k : Int)) (hk : k < 32) : u32 (IShl x y) = u32 x * 2 ^ k % 4294967296 := by
  have e := sh32a ⟨k, hk⟩
  rw [of_i q]; unfold u32 IShl
  rw [Int32.toBitVec_shiftLeft, BitVec.shiftLeft_eq', e, BitVec.toNat_shiftLeft, Nat.shiftLeft_eq]
theorem i_ishr (x : Int32) {y : Int32} {k : Nat} (q : y.toInt = (k : Int)) (hk : k < 32) : (IShr x y).toInt = x.toInt / 2 ^ k := by
  have e := sh32a ⟨k, hk⟩
  rw [of_i q]; unfold IShr
  exact Jvm.Kit.i32_shr x _ e
theorem u_iushr (x : Int32) {y : Int32} {k : Nat} (q : y.toInt = (k : Int)) (hk : k < 32) : u32 (IUshr x y) = u32 x / 2 ^ k := by
  have e := sh32b ⟨k, hk⟩
  rw [of_i q]; unfold u32 IUshr
  show (x.toUInt32 >>> (Int32.ofNat k &&& 31).toUInt32).toBitVec.toNat = _
  rw [UInt32.toBitVec_shiftRight, BitVec.ushiftRight_eq', e, BitVec.toNat_ushiftRight, Nat.shiftRight_eq_div_pow]; rfl
theorem i_i2l (x : Int32) : x.toInt64.toInt = x.toInt := Int32.toInt_toInt64 x
theorem u_l2i (x : Int64) : u32 x.toInt32 = u64 x % 4294967296 := by
  have h1 := u32_i x.toInt32; have h2 := u64_i x
  have e : x.toInt.bmod (2 ^ 32) % 4294967296 = x.toInt % 4294967296 := Int.bmod_emod
  rw [Int64.toInt_toInt32, e] at h1
  omega
theorem i_i2b (x : Int32) : x.toInt8.toInt32.toInt = if x.toInt % 256 < 128 then x.toInt % 256 else x.toInt % 256 - 256 := by
  rw [Int8.toInt_toInt32, Int32.toInt_toInt8, Int.bmod_def]; split <;> split <;> omega
theorem u_i2b (x : Int32) : u32 x.toInt8.toInt32 % 256 = u32 x % 256 := by
  have h1 := u32_i x.toInt8.toInt32; have h2 := u32_i x; rw [i_i2b] at h1; split at h1 <;> omega
end Num
theorem d0_0 : Dc code 0 (.lload_n 0) 1 1 := ⟨at_0, rfl⟩
theorem d0_1 : Dc code 1 (.ldc2_w 9) 3 4 := ⟨at_1, rfl⟩
theorem d0_4 : Dc code 4 (.land) 1 5 := ⟨at_4, rfl⟩
theorem d0_5 : Dc code 5 (.lstore 6) 2 7 := ⟨at_5, rfl⟩
theorem d0_7 : Dc code 7 (.new 11) 3 10 := ⟨at_7, rfl⟩
theorem d0_10 : Dc code 10 (.dup) 1 11 := ⟨at_10, rfl⟩
theorem d0_11 : Dc code 11 (.lload 6) 2 13 := ⟨at_11, rfl⟩
theorem d0_13 : Dc code 13 (.invokespecial 13) 3 16 := ⟨at_13, rfl⟩
theorem d0_16 : Dc code 16 (.astore 8) 2 18 := ⟨at_16, rfl⟩
theorem d0_18 : Dc code 18 (.aload 8) 2 20 := ⟨at_18, rfl⟩
theorem d0_20 : Dc code 20 (.iload_n 2) 1 21 := ⟨at_20, rfl⟩
theorem d0_21 : Dc code 21 (.invokevirtual 16) 3 24 := ⟨at_21, rfl⟩
theorem d0_24 : Dc code 24 (.pop) 1 25 := ⟨at_24, rfl⟩
theorem d0_25 : Dc code 25 (.aload 8) 2 27 := ⟨at_25, rfl⟩
theorem d0_27 : Dc code 27 (.invokevirtual 20) 3 30 := ⟨at_27, rfl⟩
theorem d0_30 : Dc code 30 (.istore 9) 2 32 := ⟨at_30, rfl⟩
theorem d0_32 : Dc code 32 (.aload 8) 2 34 := ⟨at_32, rfl⟩
theorem d0_34 : Dc code 34 (.iload_n 3) 1 35 := ⟨at_34, rfl⟩
theorem d0_35 : Dc code 35 (.invokevirtual 16) 3 38 := ⟨at_35, rfl⟩
theorem d0_38 : Dc code 38 (.pop) 1 39 := ⟨at_38, rfl⟩
theorem d0_39 : Dc code 39 (.aload 8) 2 41 := ⟨at_39, rfl⟩
theorem d0_41 : Dc code 41 (.invokevirtual 20) 3 44 := ⟨at_41, rfl⟩
theorem d0_44 : Dc code 44 (.istore 10) 2 46 := ⟨at_44, rfl⟩
theorem d0_46 : Dc code 46 (.aload 8) 2 48 := ⟨at_46, rfl⟩
theorem d0_48 : Dc code 48 (.invokevirtual 24) 3 51 := ⟨at_48, rfl⟩
theorem d0_51 : Dc code 51 (.astore 11) 2 53 := ⟨at_51, rfl⟩
theorem d0_53 : Dc code 53 (.aload 11) 2 55 := ⟨at_53, rfl⟩
theorem d0_55 : Dc code 55 (.iload 4) 2 57 := ⟨at_55, rfl⟩
theorem d0_57 : Dc code 57 (.invokevirtual 16) 3 60 := ⟨at_57, rfl⟩
theorem d0_60 : Dc code 60 (.pop) 1 61 := ⟨at_60, rfl⟩
theorem d0_61 : Dc code 61 (.aload 11) 2 63 := ⟨at_61, rfl⟩
theorem d0_63 : Dc code 63 (.invokevirtual 20) 3 66 := ⟨at_63, rfl⟩
theorem d0_66 : Dc code 66 (.istore 12) 2 68 := ⟨at_66, rfl⟩
theorem d0_68 : Dc code 68 (.aload 11) 2 70 := ⟨at_68, rfl⟩
theorem d0_70 : Dc code 70 (.iload 5) 2 72 := ⟨at_70, rfl⟩
theorem d0_72 : Dc code 72 (.invokevirtual 16) 3 75 := ⟨at_72, rfl⟩
theorem d0_75 : Dc code 75 (.pop) 1 76 := ⟨at_75, rfl⟩
theorem d0_76 : Dc code 76 (.aload 11) 2 78 := ⟨at_76, rfl⟩
theorem d0_78 : Dc code 78 (.invokevirtual 20) 3 81 := ⟨at_78, rfl⟩
theorem d0_81 : Dc code 81 (.istore 13) 2 83 := ⟨at_81, rfl⟩
theorem d0_83 : Dc code 83 (.iload_n 2) 1 84 := ⟨at_83, rfl⟩
theorem d0_84 : Dc code 84 (.i2l) 1 85 := ⟨at_84, rfl⟩
theorem d0_85 : Dc code 85 (.lstore 14) 2 87 := ⟨at_85, rfl⟩
theorem d0_87 : Dc code 87 (.lload 14) 2 89 := ⟨at_87, rfl⟩
theorem d0_89 : Dc code 89 (.iload_n 3) 1 90 := ⟨at_89, rfl⟩
theorem d0_90 : Dc code 90 (.i2l) 1 91 := ⟨at_90, rfl⟩
theorem d0_91 : Dc code 91 (.ladd) 1 92 := ⟨at_91, rfl⟩
theorem d0_92 : Dc code 92 (.lstore 16) 2 94 := ⟨at_92, rfl⟩
theorem d0_94 : Dc code 94 (.lload 14) 2 96 := ⟨at_94, rfl⟩
theorem d0_96 : Dc code 96 (.lload 6) 2 98 := ⟨at_96, rfl⟩
theorem d0_98 : Dc code 98 (.lcmp) 1 99 := ⟨at_98, rfl⟩
theorem d0_99 : Dj code 99 (.ifCond .gt 7) 7 106 102 := ⟨at_99, by decide, by decide, rfl⟩
theorem d0_102 : Dc code 102 (.iconst 1) 1 103 := ⟨at_102, rfl⟩
theorem d0_103 : Dj code 103 (.goto 4) 4 107 106 := ⟨at_103, by decide, by decide, rfl⟩
theorem d0_106 : Dc code 106 (.iconst 0) 1 107 := ⟨at_106, rfl⟩
theorem d0_107 : Dc code 107 (.istore 18) 2 109 := ⟨at_107, rfl⟩
theorem d0_109 : Dc code 109 (.lload 16) 2 111 := ⟨at_109, rfl⟩
theorem d0_111 : Dc code 111 (.lload 6) 2 113 := ⟨at_111, rfl⟩
theorem d0_113 : Dc code 113 (.lcmp) 1 114 := ⟨at_113, rfl⟩
theorem d0_114 : Dj code 114 (.ifCond .gt 7) 7 121 117 := ⟨at_114, by decide, by decide, rfl⟩
theorem d0_117 : Dc code 117 (.iconst 1) 1 118 := ⟨at_117, rfl⟩
theorem d0_118 : Dj code 118 (.goto 4) 4 122 121 := ⟨at_118, by decide, by decide, rfl⟩
theorem d0_121 : Dc code 121 (.iconst 0) 1 122 := ⟨at_121, rfl⟩
theorem d0_122 : Dc code 122 (.istore 19) 2 124 := ⟨at_122, rfl⟩
theorem d0_124 : Dc code 124 (.iload 18) 2 126 := ⟨at_124, rfl⟩
theorem d0_126 : Dj code 126 (.ifCond .eq 7) 7 133 129 := ⟨at_126, by decide, by decide, rfl⟩
theorem d0_129 : Dc code 129 (.iconst 1) 1 130 := ⟨at_129, rfl⟩
theorem d0_130 : Dj code 130 (.goto 4) 4 134 133 := ⟨at_130, by decide, by decide, rfl⟩
theorem d0_133 : Dc code 133 (.iconst 0) 1 134 := ⟨at_133, rfl⟩
theorem d0_134 : Dc code 134 (.iload 19) 2 136 := ⟨at_134, rfl⟩
theorem d0_136 : Dj code 136 (.ifCond .eq 7) 7 143 139 := ⟨at_136, by decide, by decide, rfl⟩
theorem d0_139 : Dc code 139 (.iconst 1) 1 140 := ⟨at_139, rfl⟩
theorem d0_140 : Dj code 140 (.goto 4) 4 144 143 := ⟨at_140, by decide, by decide, rfl⟩
theorem d0_143 : Dc code 143 (.iconst 0) 1 144 := ⟨at_143, rfl⟩
theorem d0_144 : Dc code 144 (.iadd) 1 145 := ⟨at_144, rfl⟩
theorem d0_145 : Dc code 145 (.istore 20) 2 147 := ⟨at_145, rfl⟩
theorem d0_147 : Dc code 147 (.iload 4) 2 149 := ⟨at_147, rfl⟩
theorem d0_149 : Dc code 149 (.i2l) 1 150 := ⟨at_149, rfl⟩
theorem d0_150 : Dc code 150 (.lstore 21) 2 152 := ⟨at_150, rfl⟩
theorem d0_152 : Dc code 152 (.lload 21) 2 154 := ⟨at_152, rfl⟩
theorem d0_154 : Dc code 154 (.iload 5) 2 156 := ⟨at_154, rfl⟩
theorem d0_156 : Dc code 156 (.i2l) 1 157 := ⟨at_156, rfl⟩
theorem d0_157 : Dc code 157 (.ladd) 1 158 := ⟨at_157, rfl⟩
theorem d0_158 : Dc code 158 (.lstore 23) 2 160 := ⟨at_158, rfl⟩
theorem d0_160 : Dc code 160 (.lload 21) 2 162 := ⟨at_160, rfl⟩
theorem d0_162 : Dc code 162 (.lload 16) 2 164 := ⟨at_162, rfl⟩
theorem d0_164 : Dc code 164 (.lcmp) 1 165 := ⟨at_164, rfl⟩
theorem d0_165 : Dj code 165 (.ifCond .gt 7) 7 172 168 := ⟨at_165, by decide, by decide, rfl⟩
theorem d0_168 : Dc code 168 (.iconst 1) 1 169 := ⟨at_168, rfl⟩
theorem d0_169 : Dj code 169 (.goto 4) 4 173 172 := ⟨at_169, by decide, by decide, rfl⟩
theorem d0_172 : Dc code 172 (.iconst 0) 1 173 := ⟨at_172, rfl⟩
theorem d0_173 : Dc code 173 (.istore 25) 2 175 := ⟨at_173, rfl⟩
theorem d0_175 : Dc code 175 (.lload 23) 2 177 := ⟨at_175, rfl⟩
theorem d0_177 : Dc code 177 (.lload 16) 2 179 := ⟨at_177, rfl⟩
theorem d0_179 : Dc code 179 (.lcmp) 1 180 := ⟨at_179, rfl⟩
theorem d0_180 : Dj code 180 (.ifCond .gt 7) 7 187 183 := ⟨at_180, by decide, by decide, rfl⟩
theorem d0_183 : Dc code 183 (.iconst 1) 1 184 := ⟨at_183, rfl⟩
theorem d0_184 : Dj code 184 (.goto 4) 4 188 187 := ⟨at_184, by decide, by decide, rfl⟩
theorem d0_187 : Dc code 187 (.iconst 0) 1 188 := ⟨at_187, rfl⟩
theorem d0_188 : Dc code 188 (.istore 26) 2 190 := ⟨at_188, rfl⟩
theorem d0_190 : Dc code 190 (.iload 25) 2 192 := ⟨at_190, rfl⟩
theorem d0_192 : Dj code 192 (.ifCond .eq 13) 13 205 195 := ⟨at_192, by decide, by decide, rfl⟩
theorem d0_195 : Dc code 195 (.iconst 1) 1 196 := ⟨at_195, rfl⟩
theorem d0_196 : Dc code 196 (.iload 20) 2 198 := ⟨at_196, rfl⟩
theorem d0_198 : Dj code 198 (.if_icmp .le 7) 7 205 201 := ⟨at_198, by decide, by decide, rfl⟩
theorem d0_201 : Dc code 201 (.iconst 1) 1 202 := ⟨at_201, rfl⟩
theorem d0_202 : Dj code 202 (.goto 4) 4 206 205 := ⟨at_202, by decide, by decide, rfl⟩
theorem d0_205 : Dc code 205 (.iconst 0) 1 206 := ⟨at_205, rfl⟩
theorem d0_206 : Dc code 206 (.istore 27) 2 208 := ⟨at_206, rfl⟩
theorem d0_208 : Dc code 208 (.iload 26) 2 210 := ⟨at_208, rfl⟩
theorem d0_210 : Dj code 210 (.ifCond .eq 22) 22 232 213 := ⟨at_210, by decide, by decide, rfl⟩
theorem d0_213 : Dc code 213 (.iload 25) 2 215 := ⟨at_213, rfl⟩
theorem d0_215 : Dj code 215 (.ifCond .eq 7) 7 222 218 := ⟨at_215, by decide, by decide, rfl⟩
theorem d0_218 : Dc code 218 (.iconst 2) 1 219 := ⟨at_218, rfl⟩
theorem d0_219 : Dj code 219 (.goto 4) 4 223 222 := ⟨at_219, by decide, by decide, rfl⟩
theorem d0_222 : Dc code 222 (.iconst 1) 1 223 := ⟨at_222, rfl⟩
theorem d0_223 : Dc code 223 (.iload 20) 2 225 := ⟨at_223, rfl⟩
theorem d0_225 : Dj code 225 (.if_icmp .le 7) 7 232 228 := ⟨at_225, by decide, by decide, rfl⟩
theorem d0_228 : Dc code 228 (.iconst 1) 1 229 := ⟨at_228, rfl⟩
theorem d0_229 : Dj code 229 (.goto 4) 4 233 232 := ⟨at_229, by decide, by decide, rfl⟩
theorem d0_232 : Dc code 232 (.iconst 0) 1 233 := ⟨at_232, rfl⟩
theorem d0_233 : Dc code 233 (.istore 28) 2 235 := ⟨at_233, rfl⟩
theorem d0_235 : Dc code 235 (.iload 9) 2 237 := ⟨at_235, rfl⟩
theorem d0_237 : Dc code 237 (.iload 18) 2 239 := ⟨at_237, rfl⟩
theorem d0_239 : Dj code 239 (.if_icmp .ne 28) 28 267 242 := ⟨at_239, by decide, by decide, rfl⟩
theorem d0_242 : Dc code 242 (.iload 10) 2 244 := ⟨at_242, rfl⟩
theorem d0_244 : Dc code 244 (.iload 19) 2 246 := ⟨at_244, rfl⟩
theorem d0_246 : Dj code 246 (.if_icmp .ne 21) 21 267 249 := ⟨at_246, by decide, by decide, rfl⟩
theorem d0_249 : Dc code 249 (.iload 12) 2 251 := ⟨at_249, rfl⟩
theorem d0_251 : Dc code 251 (.iload 27) 2 253 := ⟨at_251, rfl⟩
theorem d0_253 : Dj code 253 (.if_icmp .ne 14) 14 267 256 := ⟨at_253, by decide, by decide, rfl⟩
theorem d0_256 : Dc code 256 (.iload 13) 2 258 := ⟨at_256, rfl⟩
theorem d0_258 : Dc code 258 (.iload 28) 2 260 := ⟨at_258, rfl⟩
theorem d0_260 : Dj code 260 (.if_icmp .ne 7) 7 267 263 := ⟨at_260, by decide, by decide, rfl⟩
theorem d0_263 : Dc code 263 (.iconst 1) 1 264 := ⟨at_263, rfl⟩
theorem d0_264 : Dj code 264 (.goto 4) 4 268 267 := ⟨at_264, by decide, by decide, rfl⟩
theorem d0_268 : Dc code 268 (.ireturn) 1 269 := ⟨at_268, rfl⟩
theorem pn_0 : plainFor x = true := plainFor_of_name (by first | (simp [plainName, overriddenIn]; done) | decide +kernel)
theorem ef_0 (m : MethodId) (x0 : Int64) (x1 : Int32) (x2 : Int32) (x3 : Int32) (x4 : Int32) : entryFrame m #[(.long x0), (.int x1), (.int x2), (.int x3), (.int x4)] maxLocals = mkF m 0 #[.val (.long x0), .second, .val (.int x1), .val (.int x2), .val (.int x3), .val (.int x4), .unset, .unset, .unset, .unset, .unset, .unset, .unset, .unset, .unset, .unset, .unset, .unset, .unset, .unset, .unset, .unset, .unset, .unset, .unset, .unset, .unset, .unset, .unset] [] := by first | (simp [entryFrame, mkF, argsToLocals, Value.category, maxLocals]; done) | rfl
theorem d1_0 : Dc prog_7_method_1_code 0 (.aload_n 0) 1 1 := ⟨by decide +kernel, rfl⟩
theorem d1_1 : Dc prog_7_method_1_code 1 (.lload_n 1) 1 2 := ⟨by decide +kernel, rfl⟩
theorem d1_2 : Dc prog_7_method_1_code 2 (.iconst 0) 1 3 := ⟨by decide +kernel, rfl⟩
theorem d1_3 : Dc prog_7_method_1_code 3 (.invokespecial 1) 3 6 := ⟨by decide +kernel, rfl⟩
theorem d1_6 : Dc prog_7_method_1_code 6 (.return_) 1 7 := ⟨by decide +kernel, rfl⟩
theorem pn_1 : plainFor (⟨"com/example/tidemark/tidemark/ReadRoom", "<init>", "(J)V"⟩ : MethodName) = true := plainFor_of_name (by first | (simp [plainName, overriddenIn]; done) | decide +kernel)
theorem ef_1 (m : MethodId) (x0 : Addr) (x1 : Int64) : entryFrame m #[(.ref x0), (.long x1)] 3 = mkF m 0 #[.val (.ref x0), .val (.long x1), .second] [] := by first | (simp [entryFrame, mkF, argsToLocals, Value.category]; done) | rfl
theorem d2_0 : Dc prog_7_method_2_code 0 (.aload_n 0) 1 1 := ⟨by decide +kernel, rfl⟩
theorem d2_1 : Dc prog_7_method_2_code 1 (.invokespecial 7) 3 4 := ⟨by decide +kernel, rfl⟩
theorem d2_4 : Dc prog_7_method_2_code 4 (.aload_n 0) 1 5 := ⟨by decide +kernel, rfl⟩
theorem d2_5 : Dc prog_7_method_2_code 5 (.lload_n 1) 1 6 := ⟨by decide +kernel, rfl⟩
theorem d2_6 : Dc prog_7_method_2_code 6 (.putfield 12) 3 9 := ⟨by decide +kernel, rfl⟩
theorem d2_9 : Dc prog_7_method_2_code 9 (.aload_n 0) 1 10 := ⟨by decide +kernel, rfl⟩
theorem d2_10 : Dc prog_7_method_2_code 10 (.iload_n 3) 1 11 := ⟨by decide +kernel, rfl⟩
theorem d2_11 : Dc prog_7_method_2_code 11 (.putfield 16) 3 14 := ⟨by decide +kernel, rfl⟩
theorem d2_14 : Dc prog_7_method_2_code 14 (.return_) 1 15 := ⟨by decide +kernel, rfl⟩
theorem pn_2 : plainFor (⟨"com/example/tidemark/tidemark/ReadRoom", "<init>", "(JI)V"⟩ : MethodName) = true := plainFor_of_name (by first | (simp [plainName, overriddenIn]; done) | decide +kernel)
theorem ef_2 (m : MethodId) (x0 : Addr) (x1 : Int64) (x2 : Int32) : entryFrame m #[(.ref x0), (.long x1), (.int x2)] 4 = mkF m 0 #[.val (.ref x0), .val (.long x1), .second, .val (.int x2)] [] := by first | (simp [entryFrame, mkF, argsToLocals, Value.category]; done) | rfl
theorem d4_0 : Dc prog_7_method_5_code 0 (.aload_n 0) 1 1 := ⟨by decide +kernel, rfl⟩
theorem d4_1 : Dc prog_7_method_5_code 1 (.dup) 1 2 := ⟨by decide +kernel, rfl⟩
theorem d4_2 : Dc prog_7_method_5_code 2 (.getfield 27) 3 5 := ⟨by decide +kernel, rfl⟩
theorem d4_5 : Dc prog_7_method_5_code 5 (.iload_n 1) 1 6 := ⟨by decide +kernel, rfl⟩
theorem d4_6 : Dc prog_7_method_5_code 6 (.i2l) 1 7 := ⟨by decide +kernel, rfl⟩
theorem d4_7 : Dc prog_7_method_5_code 7 (.ladd) 1 8 := ⟨by decide +kernel, rfl⟩
theorem d4_8 : Dc prog_7_method_5_code 8 (.putfield 27) 3 11 := ⟨by decide +kernel, rfl⟩
theorem d4_11 : Dc prog_7_method_5_code 11 (.aload_n 0) 1 12 := ⟨by decide +kernel, rfl⟩
theorem d4_12 : Dc prog_7_method_5_code 12 (.invokevirtual 30) 3 15 := ⟨by decide +kernel, rfl⟩
theorem d4_15 : Dc prog_7_method_5_code 15 (.ireturn) 1 16 := ⟨by decide +kernel, rfl⟩
theorem pn_4 : plainFor (⟨"com/example/tidemark/tidemark/ReadRoom", "take", "(I)Z"⟩ : MethodName) = true := plainFor_of_name (by first | (simp [plainName, overriddenIn]; done) | decide +kernel)
theorem ef_4 (m : MethodId) (x0 : Addr) (x1 : Int32) : entryFrame m #[(.ref x0), (.int x1)] 2 = mkF m 0 #[.val (.ref x0), .val (.int x1)] [] := by first | (simp [entryFrame, mkF, argsToLocals, Value.category]; done) | rfl
theorem d5_0 : Dc prog_7_method_6_code 0 (.aload_n 0) 1 1 := ⟨by decide +kernel, rfl⟩
theorem d5_1 : Dc prog_7_method_6_code 1 (.getfield 27) 3 4 := ⟨by decide +kernel, rfl⟩
theorem d5_4 : Dc prog_7_method_6_code 4 (.aload_n 0) 1 5 := ⟨by decide +kernel, rfl⟩
theorem d5_5 : Dc prog_7_method_6_code 5 (.getfield 12) 3 8 := ⟨by decide +kernel, rfl⟩
theorem d5_8 : Dc prog_7_method_6_code 8 (.lcmp) 1 9 := ⟨by decide +kernel, rfl⟩
theorem d5_9 : Dj prog_7_method_6_code 9 (.ifCond .gt 7) 7 16 12 := ⟨by decide +kernel, by decide, by decide, rfl⟩
theorem d5_12 : Dc prog_7_method_6_code 12 (.iconst 1) 1 13 := ⟨by decide +kernel, rfl⟩
theorem d5_13 : Dj prog_7_method_6_code 13 (.goto 4) 4 17 16 := ⟨by decide +kernel, by decide, by decide, rfl⟩
theorem d5_16 : Dc prog_7_method_6_code 16 (.iconst 0) 1 17 := ⟨by decide +kernel, rfl⟩
theorem d5_17 : Dc prog_7_method_6_code 17 (.ireturn) 1 18 := ⟨by decide +kernel, rfl⟩
theorem pn_5 : plainFor (⟨"com/example/tidemark/tidemark/ReadRoom", "heldAll", "()Z"⟩ : MethodName) = true := plainFor_of_name (by first | (simp [plainName, overriddenIn]; done) | decide +kernel)
theorem ef_5 (m : MethodId) (x0 : Addr) : entryFrame m #[(.ref x0)] 1 = mkF m 0 #[.val (.ref x0)] [] := by first | (simp [entryFrame, mkF, argsToLocals, Value.category]; done) | rfl
theorem d6_0 : Dc prog_7_method_8_code 0 (.iconst 0) 1 1 := ⟨by decide +kernel, rfl⟩
theorem d6_1 : Dc prog_7_method_8_code 1 (.istore_n 1) 1 2 := ⟨by decide +kernel, rfl⟩
theorem d6_2 : Dc prog_7_method_8_code 2 (.aload_n 0) 1 3 := ⟨by decide +kernel, rfl⟩
theorem d6_3 : Dc prog_7_method_8_code 3 (.invokevirtual 30) 3 6 := ⟨by decide +kernel, rfl⟩
theorem d6_6 : Dj prog_7_method_8_code 6 (.ifCond .eq 30) 30 36 9 := ⟨by decide +kernel, by decide, by decide, rfl⟩
theorem d6_9 : Dc prog_7_method_8_code 9 (.aload_n 0) 1 10 := ⟨by decide +kernel, rfl⟩
theorem d6_10 : Dc prog_7_method_8_code 10 (.dup) 1 11 := ⟨by decide +kernel, rfl⟩
theorem d6_11 : Dc prog_7_method_8_code 11 (.getfield 34) 3 14 := ⟨by decide +kernel, rfl⟩
theorem d6_14 : Dc prog_7_method_8_code 14 (.iconst 1) 1 15 := ⟨by decide +kernel, rfl⟩
theorem d6_15 : Dc prog_7_method_8_code 15 (.iadd) 1 16 := ⟨by decide +kernel, rfl⟩
theorem d6_16 : Dc prog_7_method_8_code 16 (.putfield 34) 3 19 := ⟨by decide +kernel, rfl⟩
theorem d6_19 : Dc prog_7_method_8_code 19 (.aload_n 0) 1 20 := ⟨by decide +kernel, rfl⟩
theorem d6_20 : Dc prog_7_method_8_code 20 (.getfield 34) 3 23 := ⟨by decide +kernel, rfl⟩
theorem d6_23 : Dc prog_7_method_8_code 23 (.aload_n 0) 1 24 := ⟨by decide +kernel, rfl⟩
theorem d6_24 : Dc prog_7_method_8_code 24 (.getfield 16) 3 27 := ⟨by decide +kernel, rfl⟩
theorem d6_27 : Dj prog_7_method_8_code 27 (.if_icmp .le 7) 7 34 30 := ⟨by decide +kernel, by decide, by decide, rfl⟩
theorem d6_30 : Dc prog_7_method_8_code 30 (.iconst 1) 1 31 := ⟨by decide +kernel, rfl⟩
theorem d6_31 : Dj prog_7_method_8_code 31 (.goto 4) 4 35 34 := ⟨by decide +kernel, by decide, by decide, rfl⟩
theorem d6_34 : Dc prog_7_method_8_code 34 (.iconst 0) 1 35 := ⟨by decide +kernel, rfl⟩
theorem d6_35 : Dc prog_7_method_8_code 35 (.istore_n 1) 1 36 := ⟨by decide +kernel, rfl⟩
theorem d6_36 : Dc prog_7_method_8_code 36 (.iload_n 1) 1 37 := ⟨by decide +kernel, rfl⟩
theorem d6_37 : Dc prog_7_method_8_code 37 (.ireturn) 1 38 := ⟨by decide +kernel, rfl⟩
theorem pn_6 : plainFor (⟨"com/example/tidemark/tidemark/ReadRoom", "countsRead", "()Z"⟩ : MethodName) = true := plainFor_of_name (by first | (simp [plainName, overriddenIn]; done) | decide +kernel)
theorem ef_6 (m : MethodId) (x0 : Addr) : entryFrame m #[(.ref x0)] 2 = mkF m 0 #[.val (.ref x0), .unset] [] := by first | (simp [entryFrame, mkF, argsToLocals, Value.category]; done) | rfl
theorem d7_0 : Dc prog_7_method_9_code 0 (.new 2) 3 3 := ⟨by decide +kernel, rfl⟩
theorem d7_3 : Dc prog_7_method_9_code 3 (.dup) 1 4 := ⟨by decide +kernel, rfl⟩
theorem d7_4 : Dc prog_7_method_9_code 4 (.aload_n 0) 1 5 := ⟨by decide +kernel, rfl⟩
theorem d7_5 : Dc prog_7_method_9_code 5 (.getfield 27) 3 8 := ⟨by decide +kernel, rfl⟩
theorem d7_8 : Dc prog_7_method_9_code 8 (.aload_n 0) 1 9 := ⟨by decide +kernel, rfl⟩
theorem d7_9 : Dc prog_7_method_9_code 9 (.getfield 16) 3 12 := ⟨by decide +kernel, rfl⟩
theorem d7_12 : Dc prog_7_method_9_code 12 (.aload_n 0) 1 13 := ⟨by decide +kernel, rfl⟩
theorem d7_13 : Dc prog_7_method_9_code 13 (.getfield 34) 3 16 := ⟨by decide +kernel, rfl⟩
theorem d7_16 : Dc prog_7_method_9_code 16 (.invokestatic 37) 3 19 := ⟨by decide +kernel, rfl⟩
theorem d7_19 : Dc prog_7_method_9_code 19 (.invokespecial 1) 3 22 := ⟨by decide +kernel, rfl⟩
theorem d7_22 : Dc prog_7_method_9_code 22 (.areturn) 1 23 := ⟨by decide +kernel, rfl⟩
theorem pn_7 : plainFor (⟨"com/example/tidemark/tidemark/ReadRoom", "again", "()Lcom/example/tidemark/tidemark/ReadRoom;"⟩ : MethodName) = true := plainFor_of_name (by first | (simp [plainName, overriddenIn]; done) | decide +kernel)
theorem ef_7 (m : MethodId) (x0 : Addr) : entryFrame m #[(.ref x0)] 1 = mkF m 0 #[.val (.ref x0)] [] := by first | (simp [entryFrame, mkF, argsToLocals, Value.category]; done) | rfl
theorem d8_0 : Dc jdk_29_method_65_code 0 (.iload_n 0) 1 1 := ⟨by decide +kernel, rfl⟩
theorem d8_1 : Dc jdk_29_method_65_code 1 (.iload_n 1) 1 2 := ⟨by decide +kernel, rfl⟩
theorem d8_2 : Dj jdk_29_method_65_code 2 (.if_icmp .lt 7) 7 9 5 := ⟨by decide +kernel, by decide, by decide, rfl⟩
theorem d8_5 : Dc jdk_29_method_65_code 5 (.iload_n 0) 1 6 := ⟨by decide +kernel, rfl⟩
theorem d8_6 : Dj jdk_29_method_65_code 6 (.goto 4) 4 10 9 := ⟨by decide +kernel, by decide, by decide, rfl⟩
theorem d8_9 : Dc jdk_29_method_65_code 9 (.iload_n 1) 1 10 := ⟨by decide +kernel, rfl⟩
theorem d8_10 : Dc jdk_29_method_65_code 10 (.ireturn) 1 11 := ⟨by decide +kernel, rfl⟩
theorem pn_8 : plainFor (⟨"java/lang/Math", "max", "(II)I"⟩ : MethodName) = true := Jvm.Free.JP.mathPlain rfl (by decide +kernel)
theorem ef_8 (m : MethodId) (x0 : Int32) (x1 : Int32) : entryFrame m #[(.int x0), (.int x1)] 2 = mkF m 0 #[.val (.int x0), .val (.int x1)] [] := by first | (simp [entryFrame, mkF, argsToLocals, Value.category]; done) | rfl
theorem pd_0 : parseMethodDescriptor "(JI)V" = some ⟨[.long, .int], none⟩ := by decide +kernel
theorem pd_1 : parseMethodDescriptor "()Z" = some ⟨[], some .boolean⟩ := by decide +kernel
theorem pd_2 : parseMethodDescriptor "(II)I" = some ⟨[.int, .int], some .int⟩ := by decide +kernel
theorem pd_3 : parseMethodDescriptor "(J)V" = some ⟨[.long], none⟩ := by decide +kernel
theorem pd_4 : parseMethodDescriptor "(I)Z" = some ⟨[.int], some .boolean⟩ := by decide +kernel
theorem pd_5 : parseMethodDescriptor "()Lcom/example/tidemark/tidemark/ReadRoom;" = some ⟨[], some (.object "com/example/tidemark/tidemark/ReadRoom")⟩ := by decide +kernel

def heldI (n b : Int64) : Int32 := if n.toInt ≤ b.toInt then 1 else 0
theorem nar_held (n b : Int64) : nar .boolean (heldI n b) = heldI n b := by unfold heldI; split <;> rfl
theorem held_t {n b : Int64} (q : n.toInt ≤ b.toInt) : heldI n b = 1 := if_pos q
theorem held_f {n b : Int64} (q : b.toInt < n.toInt) : heldI n b = 0 := if_neg (by omega)

set_option maxRecDepth 65536 in
set_option maxHeartbeats 40000000 in
theorem ct2 (l : Launch) (Z : State) (a0 : Array Value) (hw : ∀ d ∈ tables_1, d.before a0 Z = true) (x0 : Addr) (x1 : Int64) (x2 : Int32) (n0 : Nat)  (h0 : Heap) (Z0 : n0 ≤ h0.size) (g_x0 : n0 ≤ x0) (E_x0 : Exa Z h0 x0 "com/example/tidemark/tidemark/ReadRoom") (F_bytes_x0 : Fld Z h0 x0 "com/example/tidemark/tidemark/ReadRoom" "bytes" "J" (.long (0 : Int64))) (F_countedBefore_x0 : Fld Z h0 x0 "com/example/tidemark/tidemark/ReadRoom" "countedBefore" "I" (.int (0 : Int32))) (F_needed_x0 : Fld Z h0 x0 "com/example/tidemark/tidemark/ReadRoom" "needed" "J" (.long (0 : Int64))) (F_readWhole_x0 : Fld Z h0 x0 "com/example/tidemark/tidemark/ReadRoom" "readWhole" "I" (.int (0 : Int32)))  :
    Ct l Z (⟨"com/example/tidemark/tidemark/ReadRoom", "<init>", "(JI)V"⟩ : MethodName) prog_7_method_2_code 4 none ({ frames := 1, cells := 0, slots := 0, locals := 12 } : Room) #[(.ref x0), (.long x1), (.int x2)] h0 (fun v h' L => v = none ∧ Fr n0 L ∧ Keep h0 h' [x0] ∧ Exa Z h' x0 "com/example/tidemark/tidemark/ReadRoom" ∧ Fld Z h' x0 "com/example/tidemark/tidemark/ReadRoom" "bytes" "J" (.long x1) ∧ Fld Z h' x0 "com/example/tidemark/tidemark/ReadRoom" "countedBefore" "I" (.int x2) ∧ Fld Z h' x0 "com/example/tidemark/tidemark/ReadRoom" "needed" "J" (.long (0 : Int64)) ∧ Fld Z h' x0 "com/example/tidemark/tidemark/ReadRoom" "readWhole" "I" (.int (0 : Int32))) := by
  refine Ct.body pn_2 ?_
  intro p e s m below meth c T X hx hby hml hown hnm hret hlk hZ eT
  rw [ef_2]
  have N := Fr.nil n0
  have K := Keep.refl h0 [x0]
  refine w_aloadN X hx (dq hby d2_0) rfl rfl ?_
  refine w_objinit X hx hZ eT hml (by rfl) hown (hw _ (List.mem_of_getElem? (i := 10) rfl)) (hw _ (List.mem_of_getElem? (i := 11) rfl)) (hw _ (List.mem_of_getElem? (i := 12) rfl)) (dq hby d2_1) (by decide) (W := 0) rfl (by decide) fun T X eT => ?_
  refine w_aloadN X hx (dq hby d2_4) rfl rfl ?_
  refine w_lloadN X hx (dq hby d2_5) rfl ?_
  refine w_putf X hx hZ eT hown (hw _ (List.mem_of_getElem? (i := 13) rfl)) F_bytes_x0 E_x0 (Or.inr ⟨(hw _ (List.mem_of_getElem? (i := 14) rfl)), rfl, hnm⟩) (hw _ (List.mem_of_getElem? (i := 2) rfl)) (ty := .long) (by decide) rfl rfl (dq hby d2_6) fun T h1 X eT W => ?_
  replace F_countedBefore_x0 := Fld.other W F_countedBefore_x0 (Or.inr (slot_ne (Or.inr (hw _ (List.mem_of_getElem? (i := 16) rfl))) (Or.inr (hw _ (List.mem_of_getElem? (i := 14) rfl))) (by decide) (t := .int) (t' := .long) (by decide) (by decide)))
  replace F_needed_x0 := Fld.other W F_needed_x0 (Or.inr (slot_ne (Or.inl (hw _ (List.mem_of_getElem? (i := 23) rfl))) (Or.inr (hw _ (List.mem_of_getElem? (i := 14) rfl))) (by decide) (t := .long) (t' := .long) (by decide) (by decide)))
  replace F_readWhole_x0 := Fld.other W F_readWhole_x0 (Or.inr (slot_ne (Or.inl (hw _ (List.mem_of_getElem? (i := 35) rfl))) (Or.inr (hw _ (List.mem_of_getElem? (i := 14) rfl))) (by decide) (t := .int) (t' := .long) (by decide) (by decide)))
  replace E_x0 := Exa.wr W E_x0
  replace Z0 := Nat.le_trans Z0 (Nat.le_of_eq W.size.symm)
  replace K := K.wr W (Or.inl (List.mem_singleton.mpr rfl))
  replace N := Fr.snoc X N g_x0
  replace F_bytes_x0 := Fld.same W F_bytes_x0
  refine w_aloadN X hx (dq hby d2_9) rfl rfl ?_
  refine w_iloadN X hx (dq hby d2_10) rfl ?_
  refine w_putf X hx hZ eT hown (hw _ (List.mem_of_getElem? (i := 15) rfl)) F_countedBefore_x0 E_x0 (Or.inr ⟨(hw _ (List.mem_of_getElem? (i := 16) rfl)), rfl, hnm⟩) (hw _ (List.mem_of_getElem? (i := 2) rfl)) (ty := .int) (by decide) rfl rfl (dq hby d2_11) fun T h2 X eT W => ?_
  replace F_bytes_x0 := Fld.other W F_bytes_x0 (Or.inr (slot_ne (Or.inr (hw _ (List.mem_of_getElem? (i := 14) rfl))) (Or.inr (hw _ (List.mem_of_getElem? (i := 16) rfl))) (by decide) (t := .long) (t' := .int) (by decide) (by decide)))
  replace F_needed_x0 := Fld.other W F_needed_x0 (Or.inr (slot_ne (Or.inl (hw _ (List.mem_of_getElem? (i := 23) rfl))) (Or.inr (hw _ (List.mem_of_getElem? (i := 16) rfl))) (by decide) (t := .long) (t' := .int) (by decide) (by decide)))
  replace F_readWhole_x0 := Fld.other W F_readWhole_x0 (Or.inr (slot_ne (Or.inl (hw _ (List.mem_of_getElem? (i := 35) rfl))) (Or.inr (hw _ (List.mem_of_getElem? (i := 16) rfl))) (by decide) (t := .int) (t' := .int) (by decide) (by decide)))
  replace E_x0 := Exa.wr W E_x0
  replace Z0 := Nat.le_trans Z0 (Nat.le_of_eq W.size.symm)
  replace K := K.wr W (Or.inl (List.mem_singleton.mpr rfl))
  replace N := Fr.snoc X N g_x0
  replace F_countedBefore_x0 := Fld.same W F_countedBefore_x0
  refine w_ret X hx hret hlk (dq hby d2_14) (by decide) (by decide) ?_
  rw [eT]
  exact ⟨rfl, N, K, E_x0, F_bytes_x0, F_countedBefore_x0, F_needed_x0, F_readWhole_x0⟩
set_option maxRecDepth 65536 in
set_option maxHeartbeats 40000000 in
theorem ct1 (l : Launch) (Z : State) (a0 : Array Value) (hw : ∀ d ∈ tables_1, d.before a0 Z = true) (x0 : Addr) (x1 : Int64) (n0 : Nat)  (h0 : Heap) (Z0 : n0 ≤ h0.size) (g_x0 : n0 ≤ x0) (E_x0 : Exa Z h0 x0 "com/example/tidemark/tidemark/ReadRoom") (F_bytes_x0 : Fld Z h0 x0 "com/example/tidemark/tidemark/ReadRoom" "bytes" "J" (.long (0 : Int64))) (F_countedBefore_x0 : Fld Z h0 x0 "com/example/tidemark/tidemark/ReadRoom" "countedBefore" "I" (.int (0 : Int32))) (F_needed_x0 : Fld Z h0 x0 "com/example/tidemark/tidemark/ReadRoom" "needed" "J" (.long (0 : Int64))) (F_readWhole_x0 : Fld Z h0 x0 "com/example/tidemark/tidemark/ReadRoom" "readWhole" "I" (.int (0 : Int32)))  :
    Ct l Z (⟨"com/example/tidemark/tidemark/ReadRoom", "<init>", "(J)V"⟩ : MethodName) prog_7_method_1_code 3 none ({ frames := 2, cells := 0, slots := 0, locals := 27 } : Room) #[(.ref x0), (.long x1)] h0 (fun v h' L => v = none ∧ Fr n0 L ∧ Keep h0 h' [x0] ∧ Exa Z h' x0 "com/example/tidemark/tidemark/ReadRoom" ∧ Fld Z h' x0 "com/example/tidemark/tidemark/ReadRoom" "bytes" "J" (.long x1) ∧ Fld Z h' x0 "com/example/tidemark/tidemark/ReadRoom" "countedBefore" "I" (.int (0 : Int32)) ∧ Fld Z h' x0 "com/example/tidemark/tidemark/ReadRoom" "needed" "J" (.long (0 : Int64)) ∧ Fld Z h' x0 "com/example/tidemark/tidemark/ReadRoom" "readWhole" "I" (.int (0 : Int32))) := by
  refine Ct.body pn_1 ?_
  intro p e s m below meth c T X hx hby hml hown hnm hret hlk hZ eT
  rw [ef_1]
  have N := Fr.nil n0
  have K := Keep.refl h0 [x0]
  refine w_aloadN X hx (dq hby d1_0) rfl rfl ?_
  refine w_lloadN X hx (dq hby d1_1) rfl ?_
  refine w_iconst X hx (dq hby d1_2) (z := 0) rfl ?_
  refine w_callI X hx hZ eT hml (by rfl) hown rfl (hw _ (List.mem_of_getElem? (i := 7) rfl)) (hw _ (List.mem_of_getElem? (i := 8) rfl)) (hw _ (List.mem_of_getElem? (i := 3) rfl)) (hw _ (List.mem_of_getElem? (i := 9) rfl)) (by decide) (ct2 l Z a0 hw x0 x1 (0 : Int32) n0 h0 Z0 g_x0 E_x0 F_bytes_x0 F_countedBefore_x0 F_needed_x0 F_readWhole_x0) (b := x0) (dq hby d1_3) pd_0 (argsL := [(.long x1), (.int (0 : Int32))]) (rest := []) rfl rfl rfl (W := 0) rfl (by decide) (by decide) (by decide) (by decide) fun v T L X hQ => ?_
  generalize eT : T.heap = h1 at hQ
  obtain ⟨rfl, N', K', E_x0, F_bytes_x0, F_countedBefore_x0, F_needed_x0, F_readWhole_x0⟩ := hQ
  replace Z0 := Nat.le_trans Z0 K'.1
  replace K := K.trans K' (allS (Or.inl (List.mem_singleton.mpr rfl)) all0)
  replace N := Fr.app N N'
  refine w_ret X hx hret hlk (dq hby d1_6) (by decide) (by decide) ?_
  rw [eT]
  exact ⟨rfl, N, K, E_x0, F_bytes_x0, F_countedBefore_x0, F_needed_x0, F_readWhole_x0⟩
set_option maxRecDepth 65536 in
set_option maxHeartbeats 40000000 in
theorem ct5 (l : Launch) (Z : State) (a0 : Array Value) (hw : ∀ d ∈ tables_1, d.before a0 Z = true) (x0 : Addr) (vn vb : Int64) (h0 : Heap) (F_needed_x0 : Fld Z h0 x0 "com/example/tidemark/tidemark/ReadRoom" "needed" "J" (.long vn)) (F_bytes_x0 : Fld Z h0 x0 "com/example/tidemark/tidemark/ReadRoom" "bytes" "J" (.long vb)) :
    Ct l Z (⟨"com/example/tidemark/tidemark/ReadRoom", "heldAll", "()Z"⟩ : MethodName) prog_7_method_6_code 1 (some .boolean) ({ frames := 0, cells := 0, slots := 0, locals := 0 } : Room) #[(.ref x0)] h0 (fun v h' L => v = some (.int (heldI vn vb)) ∧ h' = h0 ∧ L = []) := by
  refine Ct.body pn_5 ?_
  intro p e s m below meth c T X hx hby hml hown hnm hret hlk hZ eT
  rw [ef_5]

  refine w_aloadN X hx (dq hby d5_0) rfl rfl ?_
  refine w_getf X hx hZ eT hown (hw _ (List.mem_of_getElem? (i := 22) rfl)) F_needed_x0 (dq hby d5_1) fun T X eT => ?_
  refine w_aloadN X hx (dq hby d5_4) rfl rfl ?_
  refine w_getf X hx hZ eT hown (hw _ (List.mem_of_getElem? (i := 13) rfl)) F_bytes_x0 (dq hby d5_5) fun T X eT => ?_
  refine w_lcmp_gt X hx (dq hby d5_8) (dj hby d5_9) (fun hc9 => ?_) (fun hc9 => ?_)
  · refine w_iconst X hx (dq hby d5_16) (z := 0) rfl ?_
    refine w_retN X hx hret (by simp) hlk (dq hby d5_17) (by decide) (by decide) ?_
    exact ⟨by rw [held_f hc9]; rfl, eT, rfl⟩
  · refine w_iconst X hx (dq hby d5_12) (z := 1) rfl ?_
    refine w_goto X hx (dj hby d5_13) ?_
    refine w_retN X hx hret (by simp) hlk (dq hby d5_17) (by decide) (by decide) ?_
    exact ⟨by rw [held_t hc9]; rfl, eT, rfl⟩
set_option maxRecDepth 65536 in
set_option maxHeartbeats 40000000 in
theorem ct4 (l : Launch) (Z : State) (a0 : Array Value) (hw : ∀ d ∈ tables_1, d.before a0 Z = true) (x0 : Addr) (x1 : Int32) (n0 : Nat) (vb : Int64) (vc : Int32) (vn : Int64) (vr : Int32) (h0 : Heap) (Z0 : n0 ≤ h0.size) (g_x0 : n0 ≤ x0) (E_x0 : Exa Z h0 x0 "com/example/tidemark/tidemark/ReadRoom") (F_bytes_x0 : Fld Z h0 x0 "com/example/tidemark/tidemark/ReadRoom" "bytes" "J" (.long vb)) (F_countedBefore_x0 : Fld Z h0 x0 "com/example/tidemark/tidemark/ReadRoom" "countedBefore" "I" (.int vc)) (F_needed_x0 : Fld Z h0 x0 "com/example/tidemark/tidemark/ReadRoom" "needed" "J" (.long vn)) (F_readWhole_x0 : Fld Z h0 x0 "com/example/tidemark/tidemark/ReadRoom" "readWhole" "I" (.int vr))  :
    Ct l Z (⟨"com/example/tidemark/tidemark/ReadRoom", "take", "(I)Z"⟩ : MethodName) prog_7_method_5_code 2 (some .boolean) ({ frames := 1, cells := 0, slots := 0, locals := 12 } : Room) #[(.ref x0), (.int x1)] h0 (fun v h' L => v = some (.int (heldI (vn + x1.toInt64) vb)) ∧ Fr n0 L ∧ Keep h0 h' [x0] ∧ Exa Z h' x0 "com/example/tidemark/tidemark/ReadRoom" ∧ Fld Z h' x0 "com/example/tidemark/tidemark/ReadRoom" "bytes" "J" (.long vb) ∧ Fld Z h' x0 "com/example/tidemark/tidemark/ReadRoom" "countedBefore" "I" (.int vc) ∧ Fld Z h' x0 "com/example/tidemark/tidemark/ReadRoom" "needed" "J" (.long (vn + x1.toInt64)) ∧ Fld Z h' x0 "com/example/tidemark/tidemark/ReadRoom" "readWhole" "I" (.int vr)) := by
  refine Ct.body pn_4 ?_
  intro p e s m below meth c T X hx hby hml hown hnm hret hlk hZ eT
  rw [ef_4]
  have N := Fr.nil n0
  have K := Keep.refl h0 [x0]
  refine w_aloadN X hx (dq hby d4_0) rfl rfl ?_
  refine w_dup X hx (dq hby d4_1) rfl ?_
  refine w_getf X hx hZ eT hown (hw _ (List.mem_of_getElem? (i := 22) rfl)) F_needed_x0 (dq hby d4_2) fun T X eT => ?_
  refine w_iloadN X hx (dq hby d4_5) rfl ?_
  refine w_i2l X hx (dq hby d4_6) ?_
  refine w_ladd X hx (dq hby d4_7) ?_
  obtain ⟨f4_8, hf4_8⟩ : ∃ z : Int64, z = (vn + (x1.toInt64)) := ⟨_, rfl⟩
  rw [← hf4_8]
  refine w_putf X hx hZ eT hown (hw _ (List.mem_of_getElem? (i := 22) rfl)) F_needed_x0 E_x0 (Or.inl (hw _ (List.mem_of_getElem? (i := 23) rfl))) (hw _ (List.mem_of_getElem? (i := 2) rfl)) (ty := .long) (by decide) rfl rfl (dq hby d4_8) fun T h1 X eT W => ?_
  replace F_bytes_x0 := Fld.other W F_bytes_x0 (Or.inr (slot_ne (Or.inr (hw _ (List.mem_of_getElem? (i := 14) rfl))) (Or.inl (hw _ (List.mem_of_getElem? (i := 23) rfl))) (by decide) (t := .long) (t' := .long) (by decide) (by decide)))
  replace F_countedBefore_x0 := Fld.other W F_countedBefore_x0 (Or.inr (slot_ne (Or.inr (hw _ (List.mem_of_getElem? (i := 16) rfl))) (Or.inl (hw _ (List.mem_of_getElem? (i := 23) rfl))) (by decide) (t := .int) (t' := .long) (by decide) (by decide)))
  replace F_readWhole_x0 := Fld.other W F_readWhole_x0 (Or.inr (slot_ne (Or.inl (hw _ (List.mem_of_getElem? (i := 35) rfl))) (Or.inl (hw _ (List.mem_of_getElem? (i := 23) rfl))) (by decide) (t := .int) (t' := .long) (by decide) (by decide)))
  replace E_x0 := Exa.wr W E_x0
  replace Z0 := Nat.le_trans Z0 (Nat.le_of_eq W.size.symm)
  replace K := K.wr W (Or.inl (List.mem_singleton.mpr rfl))
  replace N := Fr.snoc X N g_x0
  replace F_needed_x0 := Fld.same W F_needed_x0
  refine w_aloadN X hx (dq hby d4_11) rfl rfl ?_
  refine w_callVP X hx hZ eT hml (by rfl) hown (hw _ (List.mem_of_getElem? (i := 24) rfl)) (hw _ (List.mem_of_getElem? (i := 25) rfl)) (hw _ (List.mem_of_getElem? (i := 27) rfl)) (hw _ (List.mem_of_getElem? (i := 26) rfl)) (hw _ (List.mem_of_getElem? (i := 3) rfl)) (hw _ (List.mem_of_getElem? (i := 28) rfl)) (by decide) (ct5 l Z a0 hw x0 f4_8 vb h1 F_needed_x0 F_bytes_x0) E_x0 (dq hby d4_12) pd_1 (argsL := []) (rest := []) rfl rfl rfl (W := 0) rfl (by decide) (by decide) (by decide) (by decide) fun T X eT => ?_
  refine w_retN X hx hret (by simp) hlk (dq hby d4_15) (by decide) (by decide) ?_
  subst hf4_8
  rw [eT]
  exact ⟨by rw [nar_held], N, K, E_x0, F_bytes_x0, F_countedBefore_x0, F_needed_x0, F_readWhole_x0⟩

def maxI (x y : Int32) : Int32 := if x.toInt < y.toInt then y else x
def rwI (n b : Int64) (r : Int32) : Int32 := if n.toInt ≤ b.toInt then r + 1 else r
def cntI (n b : Int64) (r c : Int32) : Int32 := if n.toInt ≤ b.toInt then (if c.toInt < (r + 1).toInt then 1 else 0) else 0
theorem rw_t {n b : Int64} (r : Int32) (q : n.toInt ≤ b.toInt) : rwI n b r = r + 1 := if_pos q
theorem rw_f {n b : Int64} (r : Int32) (q : b.toInt < n.toInt) : rwI n b r = r := if_neg (by omega)
theorem cnt_t {n b : Int64} {r c : Int32} (q : n.toInt ≤ b.toInt) (q2 : c.toInt < (r + 1).toInt) : cntI n b r c = 1 := by unfold cntI; rw [if_pos q, if_pos q2]
theorem cnt_z {n b : Int64} {r c : Int32} (q : n.toInt ≤ b.toInt) (q2 : (r + 1).toInt ≤ c.toInt) : cntI n b r c = 0 := by unfold cntI; rw [if_pos q, if_neg (by omega)]
theorem cnt_f {n b : Int64} {r c : Int32} (q : b.toInt < n.toInt) : cntI n b r c = 0 := if_neg (by omega)
theorem held_ne {n b : Int64} (q : heldI n b ≠ 0) : n.toInt ≤ b.toInt := by
  rcases Int.lt_or_le b.toInt n.toInt with h | h
  · exact absurd (held_f h) q
  · exact h
theorem held_eq {n b : Int64} (q : heldI n b = 0) : b.toInt < n.toInt := by
  rcases Int.lt_or_le b.toInt n.toInt with h | h
  · exact h
  · rw [held_t h] at q; exact absurd q (by decide)

set_option maxRecDepth 65536 in
set_option maxHeartbeats 40000000 in
theorem ct8 (l : Launch) (Z : State) (a0 : Array Value) (hw : ∀ d ∈ tables_1, d.before a0 Z = true) (x0 : Int32) (x1 : Int32) (h0 : Heap)  :
    Ct l Z (⟨"java/lang/Math", "max", "(II)I"⟩ : MethodName) jdk_29_method_65_code 2 (some .int) ({ frames := 0, cells := 0, slots := 0, locals := 0 } : Room) #[(.int x0), (.int x1)] h0 (fun v h' L => v = some (.int (maxI x0 x1)) ∧ h' = h0 ∧ L = []) := by
  refine Ct.body pn_8 ?_
  intro p e s m below meth c T X hx hby hml hown hnm hret hlk hZ eT
  rw [ef_8]

  refine w_iloadN X hx (dq hby d8_0) rfl ?_
  refine w_iloadN X hx (dq hby d8_1) rfl ?_
  refine w_icmp_lt X hx (dj hby d8_2) (fun hc2 => ?_) (fun hc2 => ?_)
  · refine w_iloadN X hx (dq hby d8_9) rfl ?_
    refine w_retI X hx hret hlk (dq hby d8_10) (by decide) (by decide) ?_
    exact ⟨by unfold maxI; split <;> first | rfl | omega, eT, rfl⟩
  · refine w_iloadN X hx (dq hby d8_5) rfl ?_
    refine w_goto X hx (dj hby d8_6) ?_
    refine w_retI X hx hret hlk (dq hby d8_10) (by decide) (by decide) ?_
    exact ⟨by unfold maxI; split <;> first | rfl | omega, eT, rfl⟩
set_option maxRecDepth 65536 in
set_option maxHeartbeats 40000000 in
theorem ct6 (l : Launch) (Z : State) (a0 : Array Value) (hw : ∀ d ∈ tables_1, d.before a0 Z = true) (x0 : Addr) (n0 : Nat) (vb : Int64) (vc : Int32) (vn : Int64) (vr : Int32) (h0 : Heap) (Z0 : n0 ≤ h0.size) (g_x0 : n0 ≤ x0) (E_x0 : Exa Z h0 x0 "com/example/tidemark/tidemark/ReadRoom") (F_bytes_x0 : Fld Z h0 x0 "com/example/tidemark/tidemark/ReadRoom" "bytes" "J" (.long vb)) (F_countedBefore_x0 : Fld Z h0 x0 "com/example/tidemark/tidemark/ReadRoom" "countedBefore" "I" (.int vc)) (F_needed_x0 : Fld Z h0 x0 "com/example/tidemark/tidemark/ReadRoom" "needed" "J" (.long vn)) (F_readWhole_x0 : Fld Z h0 x0 "com/example/tidemark/tidemark/ReadRoom" "readWhole" "I" (.int vr))  :
    Ct l Z (⟨"com/example/tidemark/tidemark/ReadRoom", "countsRead", "()Z"⟩ : MethodName) prog_7_method_8_code 2 (some .boolean) ({ frames := 1, cells := 0, slots := 0, locals := 12 } : Room) #[(.ref x0)] h0 (fun v h' L => v = some (.int (cntI vn vb vr vc)) ∧ Fr n0 L ∧ Keep h0 h' [x0] ∧ Exa Z h' x0 "com/example/tidemark/tidemark/ReadRoom" ∧ Fld Z h' x0 "com/example/tidemark/tidemark/ReadRoom" "bytes" "J" (.long vb) ∧ Fld Z h' x0 "com/example/tidemark/tidemark/ReadRoom" "countedBefore" "I" (.int vc) ∧ Fld Z h' x0 "com/example/tidemark/tidemark/ReadRoom" "needed" "J" (.long vn) ∧ Fld Z h' x0 "com/example/tidemark/tidemark/ReadRoom" "readWhole" "I" (.int (rwI vn vb vr))) := by
  refine Ct.body pn_6 ?_
  intro p e s m below meth c T X hx hby hml hown hnm hret hlk hZ eT
  rw [ef_6]
  have N := Fr.nil n0
  have K := Keep.refl h0 [x0]
  refine w_iconst X hx (dq hby d6_0) (z := 0) rfl ?_
  refine w_istoreN X hx (dq hby d6_1) (z := (0 : Int32)) rfl (Ls' := #[.val (.ref x0), .val (.int (0 : Int32))]) rfl ?_
  refine w_aloadN X hx (dq hby d6_2) rfl rfl ?_
  refine w_callVP X hx hZ eT hml (by rfl) hown (hw _ (List.mem_of_getElem? (i := 24) rfl)) (hw _ (List.mem_of_getElem? (i := 25) rfl)) (hw _ (List.mem_of_getElem? (i := 27) rfl)) (hw _ (List.mem_of_getElem? (i := 26) rfl)) (hw _ (List.mem_of_getElem? (i := 3) rfl)) (hw _ (List.mem_of_getElem? (i := 28) rfl)) (by decide) (ct5 l Z a0 hw x0 vn vb h0 F_needed_x0 F_bytes_x0) E_x0 (dq hby d6_3) pd_1 (argsL := []) (rest := []) rfl rfl rfl (W := 0) rfl (by decide) (by decide) (by decide) (by decide) fun T X eT => ?_
  refine w_if_eq X hx (dj hby d6_6) (fun hc6 => ?_) (fun hc6 => ?_)
  · refine w_iloadN X hx (dq hby d6_36) rfl ?_
    refine w_retN X hx hret (by simp) hlk (dq hby d6_37) (by decide) (by decide) ?_
    have q := held_eq hc6
    rw [← rw_f vr q] at F_readWhole_x0
    rw [eT]
    exact ⟨by rw [cnt_f q]; rfl, N, K, E_x0, F_bytes_x0, F_countedBefore_x0, F_needed_x0, F_readWhole_x0⟩
  · refine w_aloadN X hx (dq hby d6_9) rfl rfl ?_
    refine w_dup X hx (dq hby d6_10) rfl ?_
    refine w_getf X hx hZ eT hown (hw _ (List.mem_of_getElem? (i := 34) rfl)) F_readWhole_x0 (dq hby d6_11) fun T X eT => ?_
    refine w_iconst X hx (dq hby d6_14) (z := 1) rfl ?_
    refine w_iadd X hx (dq hby d6_15) ?_
    obtain ⟨f6_16, hf6_16⟩ : ∃ z : Int32, z = (vr + (1 : Int32)) := ⟨_, rfl⟩
    rw [← hf6_16]
    refine w_putf X hx hZ eT hown (hw _ (List.mem_of_getElem? (i := 34) rfl)) F_readWhole_x0 E_x0 (Or.inl (hw _ (List.mem_of_getElem? (i := 35) rfl))) (hw _ (List.mem_of_getElem? (i := 2) rfl)) (ty := .int) (by decide) rfl rfl (dq hby d6_16) fun T h1 X eT W => ?_
    replace F_bytes_x0 := Fld.other W F_bytes_x0 (Or.inr (slot_ne (Or.inr (hw _ (List.mem_of_getElem? (i := 14) rfl))) (Or.inl (hw _ (List.mem_of_getElem? (i := 35) rfl))) (by decide) (t := .long) (t' := .int) (by decide) (by decide)))
    replace F_countedBefore_x0 := Fld.other W F_countedBefore_x0 (Or.inr (slot_ne (Or.inr (hw _ (List.mem_of_getElem? (i := 16) rfl))) (Or.inl (hw _ (List.mem_of_getElem? (i := 35) rfl))) (by decide) (t := .int) (t' := .int) (by decide) (by decide)))
    replace F_needed_x0 := Fld.other W F_needed_x0 (Or.inr (slot_ne (Or.inl (hw _ (List.mem_of_getElem? (i := 23) rfl))) (Or.inl (hw _ (List.mem_of_getElem? (i := 35) rfl))) (by decide) (t := .long) (t' := .int) (by decide) (by decide)))
    replace E_x0 := Exa.wr W E_x0
    replace Z0 := Nat.le_trans Z0 (Nat.le_of_eq W.size.symm)
    replace K := K.wr W (Or.inl (List.mem_singleton.mpr rfl))
    replace N := Fr.snoc X N g_x0
    replace F_readWhole_x0 := Fld.same W F_readWhole_x0
    refine w_aloadN X hx (dq hby d6_19) rfl rfl ?_
    refine w_getf X hx hZ eT hown (hw _ (List.mem_of_getElem? (i := 34) rfl)) F_readWhole_x0 (dq hby d6_20) fun T X eT => ?_
    refine w_aloadN X hx (dq hby d6_23) rfl rfl ?_
    refine w_getf X hx hZ eT hown (hw _ (List.mem_of_getElem? (i := 15) rfl)) F_countedBefore_x0 (dq hby d6_24) fun T X eT => ?_
    refine w_icmp_le X hx (dj hby d6_27) (fun hc27 => ?_) (fun hc27 => ?_)
    · refine w_iconst X hx (dq hby d6_34) (z := 0) rfl ?_
      refine w_istoreN X hx (dq hby d6_35) (z := (0 : Int32)) rfl (Ls' := #[.val (.ref x0), .val (.int (0 : Int32))]) rfl ?_
      refine w_iloadN X hx (dq hby d6_36) rfl ?_
      refine w_retN X hx hret (by simp) hlk (dq hby d6_37) (by decide) (by decide) ?_
      have q := held_ne hc6
      subst hf6_16
      rw [← rw_t vr q] at F_readWhole_x0
      rw [eT]
      exact ⟨by rw [cnt_z q hc27]; rfl, N, K, E_x0, F_bytes_x0, F_countedBefore_x0, F_needed_x0, F_readWhole_x0⟩
    · refine w_iconst X hx (dq hby d6_30) (z := 1) rfl ?_
      refine w_goto X hx (dj hby d6_31) ?_
      refine w_istoreN X hx (dq hby d6_35) (z := (1 : Int32)) rfl (Ls' := #[.val (.ref x0), .val (.int (1 : Int32))]) rfl ?_
      refine w_iloadN X hx (dq hby d6_36) rfl ?_
      refine w_retN X hx hret (by simp) hlk (dq hby d6_37) (by decide) (by decide) ?_
      have q := held_ne hc6
      subst hf6_16
      rw [← rw_t vr q] at F_readWhole_x0
      rw [eT]
      exact ⟨by rw [cnt_t q hc27]; rfl, N, K, E_x0, F_bytes_x0, F_countedBefore_x0, F_needed_x0, F_readWhole_x0⟩
set_option maxRecDepth 65536 in
set_option maxHeartbeats 40000000 in
theorem ct7 (l : Launch) (Z : State) (a0 : Array Value) (hw : ∀ d ∈ tables_1, d.before a0 Z = true) (x0 : Addr) (n0 : Nat) (vb : Int64) (vc : Int32) (vn : Int64) (vr : Int32) (h0 : Heap) (Z0 : n0 ≤ h0.size) (E_x0 : Exa Z h0 x0 "com/example/tidemark/tidemark/ReadRoom") (F_bytes_x0 : Fld Z h0 x0 "com/example/tidemark/tidemark/ReadRoom" "bytes" "J" (.long vb)) (F_countedBefore_x0 : Fld Z h0 x0 "com/example/tidemark/tidemark/ReadRoom" "countedBefore" "I" (.int vc)) (F_needed_x0 : Fld Z h0 x0 "com/example/tidemark/tidemark/ReadRoom" "needed" "J" (.long vn)) (F_readWhole_x0 : Fld Z h0 x0 "com/example/tidemark/tidemark/ReadRoom" "readWhole" "I" (.int vr)) :
    Ct l Z (⟨"com/example/tidemark/tidemark/ReadRoom", "again", "()Lcom/example/tidemark/tidemark/ReadRoom;"⟩ : MethodName) prog_7_method_9_code 1 (some (.object "com/example/tidemark/tidemark/ReadRoom")) ({ frames := 2, cells := 1, slots := 4, locals := 30 } : Room) #[(.ref x0)] h0 (fun v h' L => ∃ b : Addr, v = some (.ref b) ∧ Fr n0 L ∧ Keep h0 h' [] ∧ h0.size ≤ b ∧ Exa Z h' b "com/example/tidemark/tidemark/ReadRoom" ∧ Fld Z h' b "com/example/tidemark/tidemark/ReadRoom" "bytes" "J" (.long vn) ∧ Fld Z h' b "com/example/tidemark/tidemark/ReadRoom" "countedBefore" "I" (.int (maxI vc vr)) ∧ Fld Z h' b "com/example/tidemark/tidemark/ReadRoom" "needed" "J" (.long (0 : Int64)) ∧ Fld Z h' b "com/example/tidemark/tidemark/ReadRoom" "readWhole" "I" (.int (0 : Int32))) := by
  refine Ct.body pn_7 ?_
  intro p e s m below meth c T X hx hby hml hown hnm hret hlk hZ eT
  rw [ef_7]
  have N := Fr.nil n0
  have K := Keep.refl h0 []
  refine w_new X hx hZ eT hown (hw _ (List.mem_of_getElem? (i := 41) rfl)) (hw _ (List.mem_of_getElem? (i := 2) rfl)) (hw _ (List.mem_of_getElem? (i := 3) rfl)) (dq hby d7_0) (by decide) (by decide) fun T h1 b0 hb_b0 X eT EX E_b0 D_b0 => ?_
  have ne_x0_b0 : x0 ≠ b0 := by rw [hb_b0]; exact Nat.ne_of_lt (Fld.lt F_bytes_x0)
  have g_b0 : n0 ≤ b0 := by omega
  have ge_b0 : h0.size ≤ b0 := by have := K.1; omega
  replace F_bytes_x0 := Fld.ext EX F_bytes_x0
  replace F_countedBefore_x0 := Fld.ext EX F_countedBefore_x0
  replace F_needed_x0 := Fld.ext EX F_needed_x0
  replace F_readWhole_x0 := Fld.ext EX F_readWhole_x0
  replace E_x0 := Exa.ext EX E_x0
  replace Z0 := Nat.le_trans Z0 EX.1
  replace K := K.ext EX
  have F_bytes_b0 : Fld Z h1 b0 "com/example/tidemark/tidemark/ReadRoom" "bytes" "J" (.long (0 : Int64)) := D_b0 (Or.inr (hw _ (List.mem_of_getElem? (i := 14) rfl))) (ty := .long) (by decide)
  have F_countedBefore_b0 : Fld Z h1 b0 "com/example/tidemark/tidemark/ReadRoom" "countedBefore" "I" (.int (0 : Int32)) := D_b0 (Or.inr (hw _ (List.mem_of_getElem? (i := 16) rfl))) (ty := .int) (by decide)
  have F_needed_b0 : Fld Z h1 b0 "com/example/tidemark/tidemark/ReadRoom" "needed" "J" (.long (0 : Int64)) := D_b0 (Or.inl (hw _ (List.mem_of_getElem? (i := 23) rfl))) (ty := .long) (by decide)
  have F_readWhole_b0 : Fld Z h1 b0 "com/example/tidemark/tidemark/ReadRoom" "readWhole" "I" (.int (0 : Int32)) := D_b0 (Or.inl (hw _ (List.mem_of_getElem? (i := 35) rfl))) (ty := .int) (by decide)
  refine w_dup X hx (dq hby d7_3) rfl ?_
  refine w_aloadN X hx (dq hby d7_4) rfl rfl ?_
  refine w_getf X hx hZ eT hown (hw _ (List.mem_of_getElem? (i := 22) rfl)) F_needed_x0 (dq hby d7_5) fun T X eT => ?_
  refine w_aloadN X hx (dq hby d7_8) rfl rfl ?_
  refine w_getf X hx hZ eT hown (hw _ (List.mem_of_getElem? (i := 15) rfl)) F_countedBefore_x0 (dq hby d7_9) fun T X eT => ?_
  refine w_aloadN X hx (dq hby d7_12) rfl rfl ?_
  refine w_getf X hx hZ eT hown (hw _ (List.mem_of_getElem? (i := 34) rfl)) F_readWhole_x0 (dq hby d7_13) fun T X eT => ?_
  refine w_callSP X hx hZ eT hml (by rfl) hown (hw _ (List.mem_of_getElem? (i := 42) rfl)) (hw _ (List.mem_of_getElem? (i := 43) rfl)) (hw _ (List.mem_of_getElem? (i := 44) rfl)) (hw _ (List.mem_of_getElem? (i := 45) rfl)) (by decide) (ct8 l Z a0 hw vc vr h1) (dq hby d7_16) pd_2 (argsL := [(.int vc), (.int vr)]) (rest := [(.long vn), (.ref b0), (.ref b0)]) rfl rfl rfl (W := 4) rfl (by decide) (by decide) (by decide) (by decide) fun T X eT => ?_
  refine w_callI X hx hZ eT hml (by rfl) hown rfl (hw _ (List.mem_of_getElem? (i := 7) rfl)) (hw _ (List.mem_of_getElem? (i := 8) rfl)) (hw _ (List.mem_of_getElem? (i := 3) rfl)) (hw _ (List.mem_of_getElem? (i := 9) rfl)) (by decide) (ct2 l Z a0 hw b0 vn (maxI vc vr) n0 h1 Z0 g_b0 E_b0 F_bytes_b0 F_countedBefore_b0 F_needed_b0 F_readWhole_b0) (b := b0) (dq hby d7_19) pd_0 (argsL := [(.long vn), (.int (maxI vc vr))]) (rest := [(.ref b0)]) rfl rfl rfl (W := 1) rfl (by decide) (by decide) (by decide) (by decide) fun v T L X hQ => ?_
  generalize eT : T.heap = h2 at hQ
  obtain ⟨rfl, N', K', E_b0, F_bytes_b0, F_countedBefore_b0, F_needed_b0, F_readWhole_b0⟩ := hQ
  replace F_bytes_x0 := Fld.keep F_bytes_x0 K' (ninS ne_x0_b0 nin0)
  replace F_countedBefore_x0 := Fld.keep F_countedBefore_x0 K' (ninS ne_x0_b0 nin0)
  replace F_needed_x0 := Fld.keep F_needed_x0 K' (ninS ne_x0_b0 nin0)
  replace F_readWhole_x0 := Fld.keep F_readWhole_x0 K' (ninS ne_x0_b0 nin0)
  replace E_x0 := Exa.keep E_x0 K'
  replace Z0 := Nat.le_trans Z0 K'.1
  replace K := K.trans K' (allS (Or.inr ge_b0) all0)
  replace N := Fr.app N N'
  refine w_retA X hx hret rfl rfl hlk (dq hby d7_22) (by decide) (by decide) ?_
  rw [eT]
  exact ⟨_, rfl, N, K, ge_b0, E_b0, F_bytes_b0, F_countedBefore_b0, F_needed_b0, F_readWhole_b0⟩
def Q0 (n0 : Nat) (v : Option Value) (h : Heap) (L : List Loc) : Prop := v = some (.int (1 : Int32)) ∧ Fr n0 L
set_option maxRecDepth 65536 in
set_option maxHeartbeats 40000000 in
theorem rm0 (l : Launch) (Z : State) (a0 : Array Value) (hw : ∀ d ∈ tables_1, d.before a0 Z = true) (ws : List Jvm.Cond) (i0 : Int64) (i1 : Int32) (i2 : Int32) (i3 : Int32) (i4 : Int32) (h0 : Heap) (n0 : Nat) (Z0 : n0 ≤ h0.size) :
    MetFree l x (head1 (Jvm.Cond.code x code maxLocals ret :: ws) room_1) (fun a U => a = #[(.long i0), (.int i1), (.int i2), (.int i3), (.int i4)] ∧ Z.Warmed39 U.vm ∧ U.heap = h0) (fun _ _ _ _ _ => True) (fun _ U o U' => ∃ v L, o = .returned v ∧ Q0 n0 v U'.heap L ∧ FrameEnd U o U' L 16 128) := by
  refine w_body pn_0 ?_
  intro p e s m below meth c T X hx hby hml hown hnm hret hlk hZ eT
  rw [ef_0]
  have N := Fr.nil n0
  refine w_lloadN X hx (dq hby d0_0) rfl ?_
  refine w_ldc2 X hx hZ hown (hw _ (List.mem_of_getElem? (i := 0) rfl)) (dq hby d0_1) ?_
  refine w_land X hx (dq hby d0_4) ?_
  obtain ⟨v6_5, hv6_5⟩ : ∃ z : Int64, z = (i0 &&& (9223372036854775807 : Int64)) := ⟨_, rfl⟩
  refine w_lstore X hx (dq hby d0_5) (z := v6_5) hv6_5 (Ls' := #[.val (.long i0), .second, .val (.int i1), .val (.int i2), .val (.int i3), .val (.int i4), .val (.long v6_5), .second, .unset, .unset, .unset, .unset, .unset, .unset, .unset, .unset, .unset, .unset, .unset, .unset, .unset, .unset, .unset, .unset, .unset, .unset, .unset, .unset, .unset]) rfl ?_
  refine w_new X hx hZ eT hown (hw _ (List.mem_of_getElem? (i := 1) rfl)) (hw _ (List.mem_of_getElem? (i := 2) rfl)) (hw _ (List.mem_of_getElem? (i := 3) rfl)) (dq hby d0_7) (by decide) (by decide) fun T h1 b7 hb_b7 X eT EX E_b7 D_b7 => ?_
  have g_b7 : n0 ≤ b7 := by omega
  replace Z0 := Nat.le_trans Z0 EX.1
  have F_bytes_b7 : Fld Z h1 b7 "com/example/tidemark/tidemark/ReadRoom" "bytes" "J" (.long (0 : Int64)) := D_b7 (Or.inr (hw _ (List.mem_of_getElem? (i := 14) rfl))) (ty := .long) (by decide)
  have F_countedBefore_b7 : Fld Z h1 b7 "com/example/tidemark/tidemark/ReadRoom" "countedBefore" "I" (.int (0 : Int32)) := D_b7 (Or.inr (hw _ (List.mem_of_getElem? (i := 16) rfl))) (ty := .int) (by decide)
  have F_needed_b7 : Fld Z h1 b7 "com/example/tidemark/tidemark/ReadRoom" "needed" "J" (.long (0 : Int64)) := D_b7 (Or.inl (hw _ (List.mem_of_getElem? (i := 23) rfl))) (ty := .long) (by decide)
  have F_readWhole_b7 : Fld Z h1 b7 "com/example/tidemark/tidemark/ReadRoom" "readWhole" "I" (.int (0 : Int32)) := D_b7 (Or.inl (hw _ (List.mem_of_getElem? (i := 35) rfl))) (ty := .int) (by decide)
  refine w_dup X hx (dq hby d0_10) rfl ?_
  refine w_lload X hx (dq hby d0_11) rfl ?_
  refine w_callI X hx hZ eT hml (by rfl) hown rfl (hw _ (List.mem_of_getElem? (i := 4) rfl)) (hw _ (List.mem_of_getElem? (i := 5) rfl)) (hw _ (List.mem_of_getElem? (i := 3) rfl)) (hw _ (List.mem_of_getElem? (i := 6) rfl)) (by decide) (ct1 l Z a0 hw b7 v6_5 n0 h1 Z0 g_b7 E_b7 F_bytes_b7 F_countedBefore_b7 F_needed_b7 F_readWhole_b7) (b := b7) (dq hby d0_13) pd_3 (argsL := [(.long v6_5)]) (rest := [(.ref b7)]) rfl rfl rfl (W := 1) rfl (by decide) (by decide) (by decide) (by decide) fun v T L X hQ => ?_
  generalize eT : T.heap = h2 at hQ
  obtain ⟨rfl, N', K', E_b7, F_bytes_b7, F_countedBefore_b7, F_needed_b7, F_readWhole_b7⟩ := hQ
  replace Z0 := Nat.le_trans Z0 K'.1
  replace N := Fr.app N N'
  refine w_astore X hx (dq hby d0_16) rfl (Ls' := #[.val (.long i0), .second, .val (.int i1), .val (.int i2), .val (.int i3), .val (.int i4), .val (.long v6_5), .second, .val (.ref b7), .unset, .unset, .unset, .unset, .unset, .unset, .unset, .unset, .unset, .unset, .unset, .unset, .unset, .unset, .unset, .unset, .unset, .unset, .unset, .unset]) rfl ?_
  refine w_aload X hx (dq hby d0_18) rfl rfl ?_
  refine w_iloadN X hx (dq hby d0_20) rfl ?_
  refine w_callV X hx hZ eT hml (by rfl) hown (hw _ (List.mem_of_getElem? (i := 17) rfl)) (hw _ (List.mem_of_getElem? (i := 18) rfl)) (hw _ (List.mem_of_getElem? (i := 20) rfl)) (hw _ (List.mem_of_getElem? (i := 19) rfl)) (hw _ (List.mem_of_getElem? (i := 3) rfl)) (hw _ (List.mem_of_getElem? (i := 21) rfl)) (by decide) (ct4 l Z a0 hw b7 i1 n0 v6_5 (0 : Int32) (0 : Int64) (0 : Int32) h2 Z0 g_b7 E_b7 F_bytes_b7 F_countedBefore_b7 F_needed_b7 F_readWhole_b7) E_b7 (dq hby d0_21) pd_4 (argsL := [(.int i1)]) (rest := []) rfl rfl rfl (W := 0) rfl (by decide) (by decide) (by decide) (by decide) fun v T L X hQ => ?_
  generalize eT : T.heap = h3 at hQ
  obtain ⟨rfl, N', K', E_b7, F_bytes_b7, F_countedBefore_b7, F_needed_b7, F_readWhole_b7⟩ := hQ
  replace Z0 := Nat.le_trans Z0 K'.1
  replace N := Fr.app N N'
  rw [Int64.zero_add] at F_needed_b7 ⊢
  refine w_pop X hx (dq hby d0_24) rfl ?_
  refine w_aload X hx (dq hby d0_25) rfl rfl ?_
  refine w_callV X hx hZ eT hml (by rfl) hown (hw _ (List.mem_of_getElem? (i := 29) rfl)) (hw _ (List.mem_of_getElem? (i := 30) rfl)) (hw _ (List.mem_of_getElem? (i := 32) rfl)) (hw _ (List.mem_of_getElem? (i := 31) rfl)) (hw _ (List.mem_of_getElem? (i := 3) rfl)) (hw _ (List.mem_of_getElem? (i := 33) rfl)) (by decide) (ct6 l Z a0 hw b7 n0 v6_5 (0 : Int32) i1.toInt64 (0 : Int32) h3 Z0 g_b7 E_b7 F_bytes_b7 F_countedBefore_b7 F_needed_b7 F_readWhole_b7) E_b7 (dq hby d0_27) pd_1 (argsL := []) (rest := []) rfl rfl rfl (W := 0) rfl (by decide) (by decide) (by decide) (by decide) fun v T L X hQ => ?_
  generalize eT : T.heap = h4 at hQ
  obtain ⟨rfl, N', K', E_b7, F_bytes_b7, F_countedBefore_b7, F_needed_b7, F_readWhole_b7⟩ := hQ
  replace Z0 := Nat.le_trans Z0 K'.1
  replace N := Fr.app N N'
  obtain ⟨r1, hr1⟩ : ∃ z : Int32, z = rwI i1.toInt64 v6_5 (0 : Int32) := ⟨_, rfl⟩
  rw [← hr1] at F_readWhole_b7
  obtain ⟨v9_30, hv9_30⟩ : ∃ z : Int32, z = (cntI i1.toInt64 v6_5 (0 : Int32) (0 : Int32)) := ⟨_, rfl⟩
  refine w_istore X hx (dq hby d0_30) (z := v9_30) hv9_30 (Ls' := #[.val (.long i0), .second, .val (.int i1), .val (.int i2), .val (.int i3), .val (.int i4), .val (.long v6_5), .second, .val (.ref b7), .val (.int v9_30), .unset, .unset, .unset, .unset, .unset, .unset, .unset, .unset, .unset, .unset, .unset, .unset, .unset, .unset, .unset, .unset, .unset, .unset, .unset]) rfl ?_
  refine w_aload X hx (dq hby d0_32) rfl rfl ?_
  refine w_iloadN X hx (dq hby d0_34) rfl ?_
  refine w_callV X hx hZ eT hml (by rfl) hown (hw _ (List.mem_of_getElem? (i := 17) rfl)) (hw _ (List.mem_of_getElem? (i := 18) rfl)) (hw _ (List.mem_of_getElem? (i := 20) rfl)) (hw _ (List.mem_of_getElem? (i := 19) rfl)) (hw _ (List.mem_of_getElem? (i := 3) rfl)) (hw _ (List.mem_of_getElem? (i := 21) rfl)) (by decide) (ct4 l Z a0 hw b7 i2 n0 v6_5 (0 : Int32) i1.toInt64 r1 h4 Z0 g_b7 E_b7 F_bytes_b7 F_countedBefore_b7 F_needed_b7 F_readWhole_b7) E_b7 (dq hby d0_35) pd_4 (argsL := [(.int i2)]) (rest := []) rfl rfl rfl (W := 0) rfl (by decide) (by decide) (by decide) (by decide) fun v T L X hQ => ?_
  generalize eT : T.heap = h5 at hQ
  obtain ⟨rfl, N', K', E_b7, F_bytes_b7, F_countedBefore_b7, F_needed_b7, F_readWhole_b7⟩ := hQ
  replace Z0 := Nat.le_trans Z0 K'.1
  replace N := Fr.app N N'
  refine w_pop X hx (dq hby d0_38) rfl ?_
  refine w_aload X hx (dq hby d0_39) rfl rfl ?_
  refine w_callV X hx hZ eT hml (by rfl) hown (hw _ (List.mem_of_getElem? (i := 29) rfl)) (hw _ (List.mem_of_getElem? (i := 30) rfl)) (hw _ (List.mem_of_getElem? (i := 32) rfl)) (hw _ (List.mem_of_getElem? (i := 31) rfl)) (hw _ (List.mem_of_getElem? (i := 3) rfl)) (hw _ (List.mem_of_getElem? (i := 33) rfl)) (by decide) (ct6 l Z a0 hw b7 n0 v6_5 (0 : Int32) (i1.toInt64 + i2.toInt64) r1 h5 Z0 g_b7 E_b7 F_bytes_b7 F_countedBefore_b7 F_needed_b7 F_readWhole_b7) E_b7 (dq hby d0_41) pd_1 (argsL := []) (rest := []) rfl rfl rfl (W := 0) rfl (by decide) (by decide) (by decide) (by decide) fun v T L X hQ => ?_
  generalize eT : T.heap = h6 at hQ
  obtain ⟨rfl, N', K', E_b7, F_bytes_b7, F_countedBefore_b7, F_needed_b7, F_readWhole_b7⟩ := hQ
  replace Z0 := Nat.le_trans Z0 K'.1
  replace N := Fr.app N N'
  obtain ⟨r2, hr2⟩ : ∃ z : Int32, z = rwI (i1.toInt64 + i2.toInt64) v6_5 r1 := ⟨_, rfl⟩
  rw [← hr2] at F_readWhole_b7
  obtain ⟨v10_44, hv10_44⟩ : ∃ z : Int32, z = (cntI (i1.toInt64 + i2.toInt64) v6_5 r1 (0 : Int32)) := ⟨_, rfl⟩
  refine w_istore X hx (dq hby d0_44) (z := v10_44) hv10_44 (Ls' := #[.val (.long i0), .second, .val (.int i1), .val (.int i2), .val (.int i3), .val (.int i4), .val (.long v6_5), .second, .val (.ref b7), .val (.int v9_30), .val (.int v10_44), .unset, .unset, .unset, .unset, .unset, .unset, .unset, .unset, .unset, .unset, .unset, .unset, .unset, .unset, .unset, .unset, .unset, .unset]) rfl ?_
  refine w_aload X hx (dq hby d0_46) rfl rfl ?_
  refine w_callV X hx hZ eT hml (by rfl) hown (hw _ (List.mem_of_getElem? (i := 36) rfl)) (hw _ (List.mem_of_getElem? (i := 37) rfl)) (hw _ (List.mem_of_getElem? (i := 39) rfl)) (hw _ (List.mem_of_getElem? (i := 38) rfl)) (hw _ (List.mem_of_getElem? (i := 3) rfl)) (hw _ (List.mem_of_getElem? (i := 40) rfl)) (by decide) (ct7 l Z a0 hw b7 n0 v6_5 (0 : Int32) (i1.toInt64 + i2.toInt64) r2 h6 Z0 E_b7 F_bytes_b7 F_countedBefore_b7 F_needed_b7 F_readWhole_b7) E_b7 (dq hby d0_48) pd_5 (argsL := []) (rest := []) rfl rfl rfl (W := 0) rfl (by decide) (by decide) (by decide) (by decide) fun v T L X hQ => ?_
  generalize eT : T.heap = h7 at hQ
  obtain ⟨bs, rfl, N', K', ge_bs, E_bs, F_bytes_bs, F_countedBefore_bs, F_needed_bs, F_readWhole_bs⟩ := hQ
  have g_bs : n0 ≤ bs := Nat.le_trans Z0 ge_bs
  replace Z0 := Nat.le_trans Z0 K'.1
  replace N := Fr.app N N'
  obtain ⟨cb, hcb⟩ : ∃ z : Int32, z = maxI (0 : Int32) r2 := ⟨_, rfl⟩
  rw [← hcb] at F_countedBefore_bs
  refine w_astore X hx (dq hby d0_51) rfl (Ls' := #[.val (.long i0), .second, .val (.int i1), .val (.int i2), .val (.int i3), .val (.int i4), .val (.long v6_5), .second, .val (.ref b7), .val (.int v9_30), .val (.int v10_44), .val (.ref bs), .unset, .unset, .unset, .unset, .unset, .unset, .unset, .unset, .unset, .unset, .unset, .unset, .unset, .unset, .unset, .unset, .unset]) rfl ?_
  refine w_aload X hx (dq hby d0_53) rfl rfl ?_
  refine w_iload X hx (dq hby d0_55) rfl ?_
  refine w_callV X hx hZ eT hml (by rfl) hown (hw _ (List.mem_of_getElem? (i := 17) rfl)) (hw _ (List.mem_of_getElem? (i := 18) rfl)) (hw _ (List.mem_of_getElem? (i := 20) rfl)) (hw _ (List.mem_of_getElem? (i := 19) rfl)) (hw _ (List.mem_of_getElem? (i := 3) rfl)) (hw _ (List.mem_of_getElem? (i := 21) rfl)) (by decide) (ct4 l Z a0 hw bs i3 n0 (i1.toInt64 + i2.toInt64) cb (0 : Int64) (0 : Int32) h7 Z0 g_bs E_bs F_bytes_bs F_countedBefore_bs F_needed_bs F_readWhole_bs) E_bs (dq hby d0_57) pd_4 (argsL := [(.int i3)]) (rest := []) rfl rfl rfl (W := 0) rfl (by decide) (by decide) (by decide) (by decide) fun v T L X hQ => ?_
  generalize eT : T.heap = h8 at hQ
  obtain ⟨rfl, N', K', E_bs, F_bytes_bs, F_countedBefore_bs, F_needed_bs, F_readWhole_bs⟩ := hQ
  replace Z0 := Nat.le_trans Z0 K'.1
  replace N := Fr.app N N'
  rw [Int64.zero_add] at F_needed_bs ⊢
  refine w_pop X hx (dq hby d0_60) rfl ?_
  refine w_aload X hx (dq hby d0_61) rfl rfl ?_
  refine w_callV X hx hZ eT hml (by rfl) hown (hw _ (List.mem_of_getElem? (i := 29) rfl)) (hw _ (List.mem_of_getElem? (i := 30) rfl)) (hw _ (List.mem_of_getElem? (i := 32) rfl)) (hw _ (List.mem_of_getElem? (i := 31) rfl)) (hw _ (List.mem_of_getElem? (i := 3) rfl)) (hw _ (List.mem_of_getElem? (i := 33) rfl)) (by decide) (ct6 l Z a0 hw bs n0 (i1.toInt64 + i2.toInt64) cb i3.toInt64 (0 : Int32) h8 Z0 g_bs E_bs F_bytes_bs F_countedBefore_bs F_needed_bs F_readWhole_bs) E_bs (dq hby d0_63) pd_1 (argsL := []) (rest := []) rfl rfl rfl (W := 0) rfl (by decide) (by decide) (by decide) (by decide) fun v T L X hQ => ?_
  generalize eT : T.heap = h9 at hQ
  obtain ⟨rfl, N', K', E_bs, F_bytes_bs, F_countedBefore_bs, F_needed_bs, F_readWhole_bs⟩ := hQ
  replace Z0 := Nat.le_trans Z0 K'.1
  replace N := Fr.app N N'
  obtain ⟨r3, hr3⟩ : ∃ z : Int32, z = rwI i3.toInt64 (i1.toInt64 + i2.toInt64) (0 : Int32) := ⟨_, rfl⟩
  rw [← hr3] at F_readWhole_bs
  obtain ⟨v12_66, hv12_66⟩ : ∃ z : Int32, z = (cntI i3.toInt64 (i1.toInt64 + i2.toInt64) (0 : Int32) cb) := ⟨_, rfl⟩
  refine w_istore X hx (dq hby d0_66) (z := v12_66) hv12_66 (Ls' := #[.val (.long i0), .second, .val (.int i1), .val (.int i2), .val (.int i3), .val (.int i4), .val (.long v6_5), .second, .val (.ref b7), .val (.int v9_30), .val (.int v10_44), .val (.ref bs), .val (.int v12_66), .unset, .unset, .unset, .unset, .unset, .unset, .unset, .unset, .unset, .unset, .unset, .unset, .unset, .unset, .unset, .unset]) rfl ?_
  refine w_aload X hx (dq hby d0_68) rfl rfl ?_
  refine w_iload X hx (dq hby d0_70) rfl ?_
  refine w_callV X hx hZ eT hml (by rfl) hown (hw _ (List.mem_of_getElem? (i := 17) rfl)) (hw _ (List.mem_of_getElem? (i := 18) rfl)) (hw _ (List.mem_of_getElem? (i := 20) rfl)) (hw _ (List.mem_of_getElem? (i := 19) rfl)) (hw _ (List.mem_of_getElem? (i := 3) rfl)) (hw _ (List.mem_of_getElem? (i := 21) rfl)) (by decide) (ct4 l Z a0 hw bs i4 n0 (i1.toInt64 + i2.toInt64) cb i3.toInt64 r3 h9 Z0 g_bs E_bs F_bytes_bs F_countedBefore_bs F_needed_bs F_readWhole_bs) E_bs (dq hby d0_72) pd_4 (argsL := [(.int i4)]) (rest := []) rfl rfl rfl (W := 0) rfl (by decide) (by decide) (by decide) (by decide) fun v T L X hQ => ?_
  generalize eT : T.heap = h10 at hQ
  obtain ⟨rfl, N', K', E_bs, F_bytes_bs, F_countedBefore_bs, F_needed_bs, F_readWhole_bs⟩ := hQ
  replace Z0 := Nat.le_trans Z0 K'.1
  replace N := Fr.app N N'
  refine w_pop X hx (dq hby d0_75) rfl ?_
  refine w_aload X hx (dq hby d0_76) rfl rfl ?_
  refine w_callV X hx hZ eT hml (by rfl) hown (hw _ (List.mem_of_getElem? (i := 29) rfl)) (hw _ (List.mem_of_getElem? (i := 30) rfl)) (hw _ (List.mem_of_getElem? (i := 32) rfl)) (hw _ (List.mem_of_getElem? (i := 31) rfl)) (hw _ (List.mem_of_getElem? (i := 3) rfl)) (hw _ (List.mem_of_getElem? (i := 33) rfl)) (by decide) (ct6 l Z a0 hw bs n0 (i1.toInt64 + i2.toInt64) cb (i3.toInt64 + i4.toInt64) r3 h10 Z0 g_bs E_bs F_bytes_bs F_countedBefore_bs F_needed_bs F_readWhole_bs) E_bs (dq hby d0_78) pd_1 (argsL := []) (rest := []) rfl rfl rfl (W := 0) rfl (by decide) (by decide) (by decide) (by decide) fun v T L X hQ => ?_
  generalize eT : T.heap = h11 at hQ
  obtain ⟨rfl, N', K', E_bs, F_bytes_bs, F_countedBefore_bs, F_needed_bs, F_readWhole_bs⟩ := hQ
  replace Z0 := Nat.le_trans Z0 K'.1
  replace N := Fr.app N N'
  obtain ⟨r4, hr4⟩ : ∃ z : Int32, z = rwI (i3.toInt64 + i4.toInt64) (i1.toInt64 + i2.toInt64) r3 := ⟨_, rfl⟩
  rw [← hr4] at F_readWhole_bs
  obtain ⟨v13_81, hv13_81⟩ : ∃ z : Int32, z = (cntI (i3.toInt64 + i4.toInt64) (i1.toInt64 + i2.toInt64) r3 cb) := ⟨_, rfl⟩
  refine w_istore X hx (dq hby d0_81) (z := v13_81) hv13_81 (Ls' := #[.val (.long i0), .second, .val (.int i1), .val (.int i2), .val (.int i3), .val (.int i4), .val (.long v6_5), .second, .val (.ref b7), .val (.int v9_30), .val (.int v10_44), .val (.ref bs), .val (.int v12_66), .val (.int v13_81), .unset, .unset, .unset, .unset, .unset, .unset, .unset, .unset, .unset, .unset, .unset, .unset, .unset, .unset, .unset]) rfl ?_
  refine w_iloadN X hx (dq hby d0_83) rfl ?_
  refine w_i2l X hx (dq hby d0_84) ?_
  refine w_lstore X hx (dq hby d0_85) (z := (i1.toInt64)) rfl (Ls' := #[.val (.long i0), .second, .val (.int i1), .val (.int i2), .val (.int i3), .val (.int i4), .val (.long v6_5), .second, .val (.ref b7), .val (.int v9_30), .val (.int v10_44), .val (.ref bs), .val (.int v12_66), .val (.int v13_81), .val (.long (i1.toInt64)), .second, .unset, .unset, .unset, .unset, .unset, .unset, .unset, .unset, .unset, .unset, .unset, .unset, .unset]) rfl ?_
  refine w_lload X hx (dq hby d0_87) rfl ?_
  refine w_iloadN X hx (dq hby d0_89) rfl ?_
  refine w_i2l X hx (dq hby d0_90) ?_
  refine w_ladd X hx (dq hby d0_91) ?_
  refine w_lstore X hx (dq hby d0_92) (z := ((i1.toInt64) + (i2.toInt64))) rfl (Ls' := #[.val (.long i0), .second, .val (.int i1), .val (.int i2), .val (.int i3), .val (.int i4), .val (.long v6_5), .second, .val (.ref b7), .val (.int v9_30), .val (.int v10_44), .val (.ref bs), .val (.int v12_66), .val (.int v13_81), .val (.long (i1.toInt64)), .second, .val (.long ((i1.toInt64) + (i2.toInt64))), .second, .unset, .unset, .unset, .unset, .unset, .unset, .unset, .unset, .unset, .unset, .unset]) rfl ?_
  refine w_lload X hx (dq hby d0_94) rfl ?_
  refine w_lload X hx (dq hby d0_96) rfl ?_
  refine w_lcmp_gt X hx (dq hby d0_98) (dj hby d0_99) (fun hc99 => ?_) (fun hc99 => ?_)
  · refine w_iconst X hx (dq hby d0_106) (z := 0) rfl ?_
    refine w_istore X hx (dq hby d0_107) (z := (0 : Int32)) rfl (Ls' := #[.val (.long i0), .second, .val (.int i1), .val (.int i2), .val (.int i3), .val (.int i4), .val (.long v6_5), .second, .val (.ref b7), .val (.int v9_30), .val (.int v10_44), .val (.ref bs), .val (.int v12_66), .val (.int v13_81), .val (.long (i1.toInt64)), .second, .val (.long ((i1.toInt64) + (i2.toInt64))), .second, .val (.int (0 : Int32)), .unset, .unset, .unset, .unset, .unset, .unset, .unset, .unset, .unset, .unset]) rfl ?_
    refine w_lload X hx (dq hby d0_109) rfl ?_
    refine w_lload X hx (dq hby d0_111) rfl ?_
    refine w_lcmp_gt X hx (dq hby d0_113) (dj hby d0_114) (fun hc114 => ?_) (fun hc114 => ?_)
    · refine w_iconst X hx (dq hby d0_121) (z := 0) rfl ?_
      refine w_istore X hx (dq hby d0_122) (z := (0 : Int32)) rfl (Ls' := #[.val (.long i0), .second, .val (.int i1), .val (.int i2), .val (.int i3), .val (.int i4), .val (.long v6_5), .second, .val (.ref b7), .val (.int v9_30), .val (.int v10_44), .val (.ref bs), .val (.int v12_66), .val (.int v13_81), .val (.long (i1.toInt64)), .second, .val (.long ((i1.toInt64) + (i2.toInt64))), .second, .val (.int (0 : Int32)), .val (.int (0 : Int32)), .unset, .unset, .unset, .unset, .unset, .unset, .unset, .unset, .unset]) rfl ?_
      refine w_iload X hx (dq hby d0_124) rfl ?_
      refine w_if_eq X hx (dj hby d0_126) (fun hc126 => ?_) (fun hc126 => (?_ : False).elim)
      rotate_left
      · exact absurd hc126 (by decide)
      refine w_iconst X hx (dq hby d0_133) (z := 0) rfl ?_
      refine w_iload X hx (dq hby d0_134) rfl ?_
      refine w_if_eq X hx (dj hby d0_136) (fun hc136 => ?_) (fun hc136 => (?_ : False).elim)
      rotate_left
      · exact absurd hc136 (by decide)
      refine w_iconst X hx (dq hby d0_143) (z := 0) rfl ?_
      refine w_iadd X hx (dq hby d0_144) ?_
      refine w_eqI (z := (0 : Int32)) (by decide) ?_
      refine w_istore X hx (dq hby d0_145) (z := (0 : Int32)) rfl (Ls' := #[.val (.long i0), .second, .val (.int i1), .val (.int i2), .val (.int i3), .val (.int i4), .val (.long v6_5), .second, .val (.ref b7), .val (.int v9_30), .val (.int v10_44), .val (.ref bs), .val (.int v12_66), .val (.int v13_81), .val (.long (i1.toInt64)), .second, .val (.long ((i1.toInt64) + (i2.toInt64))), .second, .val (.int (0 : Int32)), .val (.int (0 : Int32)), .val (.int (0 : Int32)), .unset, .unset, .unset, .unset, .unset, .unset, .unset, .unset]) rfl ?_
      refine w_iload X hx (dq hby d0_147) rfl ?_
      refine w_i2l X hx (dq hby d0_149) ?_
      refine w_lstore X hx (dq hby d0_150) (z := (i3.toInt64)) rfl (Ls' := #[.val (.long i0), .second, .val (.int i1), .val (.int i2), .val (.int i3), .val (.int i4), .val (.long v6_5), .second, .val (.ref b7), .val (.int v9_30), .val (.int v10_44), .val (.ref bs), .val (.int v12_66), .val (.int v13_81), .val (.long (i1.toInt64)), .second, .val (.long ((i1.toInt64) + (i2.toInt64))), .second, .val (.int (0 : Int32)), .val (.int (0 : Int32)), .val (.int (0 : Int32)), .val (.long (i3.toInt64)), .second, .unset, .unset, .unset, .unset, .unset, .unset]) rfl ?_
      refine w_lload X hx (dq hby d0_152) rfl ?_
      refine w_iload X hx (dq hby d0_154) rfl ?_
      refine w_i2l X hx (dq hby d0_156) ?_
      refine w_ladd X hx (dq hby d0_157) ?_
      refine w_lstore X hx (dq hby d0_158) (z := ((i3.toInt64) + (i4.toInt64))) rfl (Ls' := #[.val (.long i0), .second, .val (.int i1), .val (.int i2), .val (.int i3), .val (.int i4), .val (.long v6_5), .second, .val (.ref b7), .val (.int v9_30), .val (.int v10_44), .val (.ref bs), .val (.int v12_66), .val (.int v13_81), .val (.long (i1.toInt64)), .second, .val (.long ((i1.toInt64) + (i2.toInt64))), .second, .val (.int (0 : Int32)), .val (.int (0 : Int32)), .val (.int (0 : Int32)), .val (.long (i3.toInt64)), .second, .val (.long ((i3.toInt64) + (i4.toInt64))), .second, .unset, .unset, .unset, .unset]) rfl ?_
      refine w_lload X hx (dq hby d0_160) rfl ?_
      refine w_lload X hx (dq hby d0_162) rfl ?_
      refine w_lcmp_gt X hx (dq hby d0_164) (dj hby d0_165) (fun hc165 => ?_) (fun hc165 => ?_)
      · refine w_iconst X hx (dq hby d0_172) (z := 0) rfl ?_
        refine w_istore X hx (dq hby d0_173) (z := (0 : Int32)) rfl (Ls' := #[.val (.long i0), .second, .val (.int i1), .val (.int i2), .val (.int i3), .val (.int i4), .val (.long v6_5), .second, .val (.ref b7), .val (.int v9_30), .val (.int v10_44), .val (.ref bs), .val (.int v12_66), .val (.int v13_81), .val (.long (i1.toInt64)), .second, .val (.long ((i1.toInt64) + (i2.toInt64))), .second, .val (.int (0 : Int32)), .val (.int (0 : Int32)), .val (.int (0 : Int32)), .val (.long (i3.toInt64)), .second, .val (.long ((i3.toInt64) + (i4.toInt64))), .second, .val (.int (0 : Int32)), .unset, .unset, .unset]) rfl ?_
        refine w_lload X hx (dq hby d0_175) rfl ?_
        refine w_lload X hx (dq hby d0_177) rfl ?_
        refine w_lcmp_gt X hx (dq hby d0_179) (dj hby d0_180) (fun hc180 => ?_) (fun hc180 => ?_)
        · refine w_iconst X hx (dq hby d0_187) (z := 0) rfl ?_
          refine w_istore X hx (dq hby d0_188) (z := (0 : Int32)) rfl (Ls' := #[.val (.long i0), .second, .val (.int i1), .val (.int i2), .val (.int i3), .val (.int i4), .val (.long v6_5), .second, .val (.ref b7), .val (.int v9_30), .val (.int v10_44), .val (.ref bs), .val (.int v12_66), .val (.int v13_81), .val (.long (i1.toInt64)), .second, .val (.long ((i1.toInt64) + (i2.toInt64))), .second, .val (.int (0 : Int32)), .val (.int (0 : Int32)), .val (.int (0 : Int32)), .val (.long (i3.toInt64)), .second, .val (.long ((i3.toInt64) + (i4.toInt64))), .second, .val (.int (0 : Int32)), .val (.int (0 : Int32)), .unset, .unset]) rfl ?_
          refine w_iload X hx (dq hby d0_190) rfl ?_
          refine w_if_eq X hx (dj hby d0_192) (fun hc192 => ?_) (fun hc192 => (?_ : False).elim)
          rotate_left
          · exact absurd hc192 (by decide)
          refine w_iconst X hx (dq hby d0_205) (z := 0) rfl ?_
          refine w_istore X hx (dq hby d0_206) (z := (0 : Int32)) rfl (Ls' := #[.val (.long i0), .second, .val (.int i1), .val (.int i2), .val (.int i3), .val (.int i4), .val (.long v6_5), .second, .val (.ref b7), .val (.int v9_30), .val (.int v10_44), .val (.ref bs), .val (.int v12_66), .val (.int v13_81), .val (.long (i1.toInt64)), .second, .val (.long ((i1.toInt64) + (i2.toInt64))), .second, .val (.int (0 : Int32)), .val (.int (0 : Int32)), .val (.int (0 : Int32)), .val (.long (i3.toInt64)), .second, .val (.long ((i3.toInt64) + (i4.toInt64))), .second, .val (.int (0 : Int32)), .val (.int (0 : Int32)), .val (.int (0 : Int32)), .unset]) rfl ?_
          refine w_iload X hx (dq hby d0_208) rfl ?_
          refine w_if_eq X hx (dj hby d0_210) (fun hc210 => ?_) (fun hc210 => (?_ : False).elim)
          rotate_left
          · exact absurd hc210 (by decide)
          refine w_iconst X hx (dq hby d0_232) (z := 0) rfl ?_
          refine w_istore X hx (dq hby d0_233) (z := (0 : Int32)) rfl (Ls' := #[.val (.long i0), .second, .val (.int i1), .val (.int i2), .val (.int i3), .val (.int i4), .val (.long v6_5), .second, .val (.ref b7), .val (.int v9_30), .val (.int v10_44), .val (.ref bs), .val (.int v12_66), .val (.int v13_81), .val (.long (i1.toInt64)), .second, .val (.long ((i1.toInt64) + (i2.toInt64))), .second, .val (.int (0 : Int32)), .val (.int (0 : Int32)), .val (.int (0 : Int32)), .val (.long (i3.toInt64)), .second, .val (.long ((i3.toInt64) + (i4.toInt64))), .second, .val (.int (0 : Int32)), .val (.int (0 : Int32)), .val (.int (0 : Int32)), .val (.int (0 : Int32))]) rfl ?_
          have e1 : r1 = 0 := by rw [hr1, rw_f _ hc99]
          have e2 : r2 = 0 := by rw [hr2, rw_f _ hc114, e1]
          have e3 : r3 = 0 := by rw [hr3, rw_f _ hc165]
          have em : cb = 0 := by rw [hcb, e2]; decide
          have d_v9_30 : v9_30 = 0 := by rw [hv9_30, cnt_f hc99]
          have d_v10_44 : v10_44 = 0 := by rw [hv10_44, cnt_f hc114]
          have d_v12_66 : v12_66 = 0 := by rw [hv12_66, cnt_f hc165]
          have d_v13_81 : v13_81 = 0 := by rw [hv13_81, cnt_f hc180]
          refine w_iload X hx (dq hby d0_235) rfl ?_
          refine w_iload X hx (dq hby d0_237) rfl ?_
          refine w_icmp_ne X hx (dj hby d0_239) (fun hc239 => (?_ : False).elim) (fun hc239 => ?_)
          · exact hc239 d_v9_30
          refine w_iload X hx (dq hby d0_242) rfl ?_
          refine w_iload X hx (dq hby d0_244) rfl ?_
          refine w_icmp_ne X hx (dj hby d0_246) (fun hc246 => (?_ : False).elim) (fun hc246 => ?_)
          · exact hc246 d_v10_44
          refine w_iload X hx (dq hby d0_249) rfl ?_
          refine w_iload X hx (dq hby d0_251) rfl ?_
          refine w_icmp_ne X hx (dj hby d0_253) (fun hc253 => (?_ : False).elim) (fun hc253 => ?_)
          · exact hc253 d_v12_66
          refine w_iload X hx (dq hby d0_256) rfl ?_
          refine w_iload X hx (dq hby d0_258) rfl ?_
          refine w_icmp_ne X hx (dj hby d0_260) (fun hc260 => (?_ : False).elim) (fun hc260 => ?_)
          · exact hc260 d_v13_81
          refine w_iconst X hx (dq hby d0_263) (z := 1) rfl ?_
          refine w_goto X hx (dj hby d0_264) ?_
          refine w_retN X hx hret (by simp) hlk (dq hby d0_268) (by decide) (by decide) ?_
          exact ⟨by simp [nar], N⟩
        · refine w_iconst X hx (dq hby d0_183) (z := 1) rfl ?_
          refine w_goto X hx (dj hby d0_184) ?_
          refine w_istore X hx (dq hby d0_188) (z := (1 : Int32)) rfl (Ls' := #[.val (.long i0), .second, .val (.int i1), .val (.int i2), .val (.int i3), .val (.int i4), .val (.long v6_5), .second, .val (.ref b7), .val (.int v9_30), .val (.int v10_44), .val (.ref bs), .val (.int v12_66), .val (.int v13_81), .val (.long (i1.toInt64)), .second, .val (.long ((i1.toInt64) + (i2.toInt64))), .second, .val (.int (0 : Int32)), .val (.int (0 : Int32)), .val (.int (0 : Int32)), .val (.long (i3.toInt64)), .second, .val (.long ((i3.toInt64) + (i4.toInt64))), .second, .val (.int (0 : Int32)), .val (.int (1 : Int32)), .unset, .unset]) rfl ?_
          refine w_iload X hx (dq hby d0_190) rfl ?_
          refine w_if_eq X hx (dj hby d0_192) (fun hc192 => ?_) (fun hc192 => (?_ : False).elim)
          rotate_left
          · exact absurd hc192 (by decide)
          refine w_iconst X hx (dq hby d0_205) (z := 0) rfl ?_
          refine w_istore X hx (dq hby d0_206) (z := (0 : Int32)) rfl (Ls' := #[.val (.long i0), .second, .val (.int i1), .val (.int i2), .val (.int i3), .val (.int i4), .val (.long v6_5), .second, .val (.ref b7), .val (.int v9_30), .val (.int v10_44), .val (.ref bs), .val (.int v12_66), .val (.int v13_81), .val (.long (i1.toInt64)), .second, .val (.long ((i1.toInt64) + (i2.toInt64))), .second, .val (.int (0 : Int32)), .val (.int (0 : Int32)), .val (.int (0 : Int32)), .val (.long (i3.toInt64)), .second, .val (.long ((i3.toInt64) + (i4.toInt64))), .second, .val (.int (0 : Int32)), .val (.int (1 : Int32)), .val (.int (0 : Int32)), .unset]) rfl ?_
          refine w_iload X hx (dq hby d0_208) rfl ?_
          refine w_if_eq X hx (dj hby d0_210) (fun hc210 => (?_ : False).elim) (fun hc210 => ?_)
          · exact absurd hc210 (by decide)
          refine w_iload X hx (dq hby d0_213) rfl ?_
          refine w_if_eq X hx (dj hby d0_215) (fun hc215 => ?_) (fun hc215 => (?_ : False).elim)
          rotate_left
          · exact absurd hc215 (by decide)
          refine w_iconst X hx (dq hby d0_222) (z := 1) rfl ?_
          refine w_iload X hx (dq hby d0_223) rfl ?_
          refine w_icmp_le X hx (dj hby d0_225) (fun hc225 => (?_ : False).elim) (fun hc225 => ?_)
          · exact absurd hc225 (by decide)
          refine w_iconst X hx (dq hby d0_228) (z := 1) rfl ?_
          refine w_goto X hx (dj hby d0_229) ?_
          refine w_istore X hx (dq hby d0_233) (z := (1 : Int32)) rfl (Ls' := #[.val (.long i0), .second, .val (.int i1), .val (.int i2), .val (.int i3), .val (.int i4), .val (.long v6_5), .second, .val (.ref b7), .val (.int v9_30), .val (.int v10_44), .val (.ref bs), .val (.int v12_66), .val (.int v13_81), .val (.long (i1.toInt64)), .second, .val (.long ((i1.toInt64) + (i2.toInt64))), .second, .val (.int (0 : Int32)), .val (.int (0 : Int32)), .val (.int (0 : Int32)), .val (.long (i3.toInt64)), .second, .val (.long ((i3.toInt64) + (i4.toInt64))), .second, .val (.int (0 : Int32)), .val (.int (1 : Int32)), .val (.int (0 : Int32)), .val (.int (1 : Int32))]) rfl ?_
          have e1 : r1 = 0 := by rw [hr1, rw_f _ hc99]
          have e2 : r2 = 0 := by rw [hr2, rw_f _ hc114, e1]
          have e3 : r3 = 0 := by rw [hr3, rw_f _ hc165]
          have em : cb = 0 := by rw [hcb, e2]; decide
          have d_v9_30 : v9_30 = 0 := by rw [hv9_30, cnt_f hc99]
          have d_v10_44 : v10_44 = 0 := by rw [hv10_44, cnt_f hc114]
          have d_v12_66 : v12_66 = 0 := by rw [hv12_66, cnt_f hc165]
          have d_v13_81 : v13_81 = 1 := by rw [hv13_81, cnt_t hc180 (by rw [e3, em]; decide)]
          refine w_iload X hx (dq hby d0_235) rfl ?_
          refine w_iload X hx (dq hby d0_237) rfl ?_
          refine w_icmp_ne X hx (dj hby d0_239) (fun hc239 => (?_ : False).elim) (fun hc239 => ?_)
          · exact hc239 d_v9_30
          refine w_iload X hx (dq hby d0_242) rfl ?_
          refine w_iload X hx (dq hby d0_244) rfl ?_
          refine w_icmp_ne X hx (dj hby d0_246) (fun hc246 => (?_ : False).elim) (fun hc246 => ?_)
          · exact hc246 d_v10_44
          refine w_iload X hx (dq hby d0_249) rfl ?_
          refine w_iload X hx (dq hby d0_251) rfl ?_
          refine w_icmp_ne X hx (dj hby d0_253) (fun hc253 => (?_ : False).elim) (fun hc253 => ?_)
          · exact hc253 d_v12_66
          refine w_iload X hx (dq hby d0_256) rfl ?_
          refine w_iload X hx (dq hby d0_258) rfl ?_
          refine w_icmp_ne X hx (dj hby d0_260) (fun hc260 => (?_ : False).elim) (fun hc260 => ?_)
          · exact hc260 d_v13_81
          refine w_iconst X hx (dq hby d0_263) (z := 1) rfl ?_
          refine w_goto X hx (dj hby d0_264) ?_
          refine w_retN X hx hret (by simp) hlk (dq hby d0_268) (by decide) (by decide) ?_
          exact ⟨by simp [nar], N⟩
      · refine w_iconst X hx (dq hby d0_168) (z := 1) rfl ?_
        refine w_goto X hx (dj hby d0_169) ?_
        refine w_istore X hx (dq hby d0_173) (z := (1 : Int32)) rfl (Ls' := #[.val (.long i0), .second, .val (.int i1), .val (.int i2), .val (.int i3), .val (.int i4), .val (.long v6_5), .second, .val (.ref b7), .val (.int v9_30), .val (.int v10_44), .val (.ref bs), .val (.int v12_66), .val (.int v13_81), .val (.long (i1.toInt64)), .second, .val (.long ((i1.toInt64) + (i2.toInt64))), .second, .val (.int (0 : Int32)), .val (.int (0 : Int32)), .val (.int (0 : Int32)), .val (.long (i3.toInt64)), .second, .val (.long ((i3.toInt64) + (i4.toInt64))), .second, .val (.int (1 : Int32)), .unset, .unset, .unset]) rfl ?_
        refine w_lload X hx (dq hby d0_175) rfl ?_
        refine w_lload X hx (dq hby d0_177) rfl ?_
        refine w_lcmp_gt X hx (dq hby d0_179) (dj hby d0_180) (fun hc180 => ?_) (fun hc180 => ?_)
        · refine w_iconst X hx (dq hby d0_187) (z := 0) rfl ?_
          refine w_istore X hx (dq hby d0_188) (z := (0 : Int32)) rfl (Ls' := #[.val (.long i0), .second, .val (.int i1), .val (.int i2), .val (.int i3), .val (.int i4), .val (.long v6_5), .second, .val (.ref b7), .val (.int v9_30), .val (.int v10_44), .val (.ref bs), .val (.int v12_66), .val (.int v13_81), .val (.long (i1.toInt64)), .second, .val (.long ((i1.toInt64) + (i2.toInt64))), .second, .val (.int (0 : Int32)), .val (.int (0 : Int32)), .val (.int (0 : Int32)), .val (.long (i3.toInt64)), .second, .val (.long ((i3.toInt64) + (i4.toInt64))), .second, .val (.int (1 : Int32)), .val (.int (0 : Int32)), .unset, .unset]) rfl ?_
          refine w_iload X hx (dq hby d0_190) rfl ?_
          refine w_if_eq X hx (dj hby d0_192) (fun hc192 => (?_ : False).elim) (fun hc192 => ?_)
          · exact absurd hc192 (by decide)
          refine w_iconst X hx (dq hby d0_195) (z := 1) rfl ?_
          refine w_iload X hx (dq hby d0_196) rfl ?_
          refine w_icmp_le X hx (dj hby d0_198) (fun hc198 => (?_ : False).elim) (fun hc198 => ?_)
          · exact absurd hc198 (by decide)
          refine w_iconst X hx (dq hby d0_201) (z := 1) rfl ?_
          refine w_goto X hx (dj hby d0_202) ?_
          refine w_istore X hx (dq hby d0_206) (z := (1 : Int32)) rfl (Ls' := #[.val (.long i0), .second, .val (.int i1), .val (.int i2), .val (.int i3), .val (.int i4), .val (.long v6_5), .second, .val (.ref b7), .val (.int v9_30), .val (.int v10_44), .val (.ref bs), .val (.int v12_66), .val (.int v13_81), .val (.long (i1.toInt64)), .second, .val (.long ((i1.toInt64) + (i2.toInt64))), .second, .val (.int (0 : Int32)), .val (.int (0 : Int32)), .val (.int (0 : Int32)), .val (.long (i3.toInt64)), .second, .val (.long ((i3.toInt64) + (i4.toInt64))), .second, .val (.int (1 : Int32)), .val (.int (0 : Int32)), .val (.int (1 : Int32)), .unset]) rfl ?_
          refine w_iload X hx (dq hby d0_208) rfl ?_
          refine w_if_eq X hx (dj hby d0_210) (fun hc210 => ?_) (fun hc210 => (?_ : False).elim)
          rotate_left
          · exact absurd hc210 (by decide)
          refine w_iconst X hx (dq hby d0_232) (z := 0) rfl ?_
          refine w_istore X hx (dq hby d0_233) (z := (0 : Int32)) rfl (Ls' := #[.val (.long i0), .second, .val (.int i1), .val (.int i2), .val (.int i3), .val (.int i4), .val (.long v6_5), .second, .val (.ref b7), .val (.int v9_30), .val (.int v10_44), .val (.ref bs), .val (.int v12_66), .val (.int v13_81), .val (.long (i1.toInt64)), .second, .val (.long ((i1.toInt64) + (i2.toInt64))), .second, .val (.int (0 : Int32)), .val (.int (0 : Int32)), .val (.int (0 : Int32)), .val (.long (i3.toInt64)), .second, .val (.long ((i3.toInt64) + (i4.toInt64))), .second, .val (.int (1 : Int32)), .val (.int (0 : Int32)), .val (.int (1 : Int32)), .val (.int (0 : Int32))]) rfl ?_
          have e1 : r1 = 0 := by rw [hr1, rw_f _ hc99]
          have e2 : r2 = 0 := by rw [hr2, rw_f _ hc114, e1]
          have e3 : r3 = 1 := by rw [hr3, rw_t _ hc165]; rfl
          have em : cb = 0 := by rw [hcb, e2]; decide
          have d_v9_30 : v9_30 = 0 := by rw [hv9_30, cnt_f hc99]
          have d_v10_44 : v10_44 = 0 := by rw [hv10_44, cnt_f hc114]
          have d_v12_66 : v12_66 = 1 := by rw [hv12_66, cnt_t hc165 (by rw [em]; decide)]
          have d_v13_81 : v13_81 = 0 := by rw [hv13_81, cnt_f hc180]
          refine w_iload X hx (dq hby d0_235) rfl ?_
          refine w_iload X hx (dq hby d0_237) rfl ?_
          refine w_icmp_ne X hx (dj hby d0_239) (fun hc239 => (?_ : False).elim) (fun hc239 => ?_)
          · exact hc239 d_v9_30
          refine w_iload X hx (dq hby d0_242) rfl ?_
          refine w_iload X hx (dq hby d0_244) rfl ?_
          refine w_icmp_ne X hx (dj hby d0_246) (fun hc246 => (?_ : False).elim) (fun hc246 => ?_)
          · exact hc246 d_v10_44
          refine w_iload X hx (dq hby d0_249) rfl ?_
          refine w_iload X hx (dq hby d0_251) rfl ?_
          refine w_icmp_ne X hx (dj hby d0_253) (fun hc253 => (?_ : False).elim) (fun hc253 => ?_)
          · exact hc253 d_v12_66
          refine w_iload X hx (dq hby d0_256) rfl ?_
          refine w_iload X hx (dq hby d0_258) rfl ?_
          refine w_icmp_ne X hx (dj hby d0_260) (fun hc260 => (?_ : False).elim) (fun hc260 => ?_)
          · exact hc260 d_v13_81
          refine w_iconst X hx (dq hby d0_263) (z := 1) rfl ?_
          refine w_goto X hx (dj hby d0_264) ?_
          refine w_retN X hx hret (by simp) hlk (dq hby d0_268) (by decide) (by decide) ?_
          exact ⟨by simp [nar], N⟩
        · refine w_iconst X hx (dq hby d0_183) (z := 1) rfl ?_
          refine w_goto X hx (dj hby d0_184) ?_
          refine w_istore X hx (dq hby d0_188) (z := (1 : Int32)) rfl (Ls' := #[.val (.long i0), .second, .val (.int i1), .val (.int i2), .val (.int i3), .val (.int i4), .val (.long v6_5), .second, .val (.ref b7), .val (.int v9_30), .val (.int v10_44), .val (.ref bs), .val (.int v12_66), .val (.int v13_81), .val (.long (i1.toInt64)), .second, .val (.long ((i1.toInt64) + (i2.toInt64))), .second, .val (.int (0 : Int32)), .val (.int (0 : Int32)), .val (.int (0 : Int32)), .val (.long (i3.toInt64)), .second, .val (.long ((i3.toInt64) + (i4.toInt64))), .second, .val (.int (1 : Int32)), .val (.int (1 : Int32)), .unset, .unset]) rfl ?_
          refine w_iload X hx (dq hby d0_190) rfl ?_
          refine w_if_eq X hx (dj hby d0_192) (fun hc192 => (?_ : False).elim) (fun hc192 => ?_)
          · exact absurd hc192 (by decide)
          refine w_iconst X hx (dq hby d0_195) (z := 1) rfl ?_
          refine w_iload X hx (dq hby d0_196) rfl ?_
          refine w_icmp_le X hx (dj hby d0_198) (fun hc198 => (?_ : False).elim) (fun hc198 => ?_)
          · exact absurd hc198 (by decide)
          refine w_iconst X hx (dq hby d0_201) (z := 1) rfl ?_
          refine w_goto X hx (dj hby d0_202) ?_
          refine w_istore X hx (dq hby d0_206) (z := (1 : Int32)) rfl (Ls' := #[.val (.long i0), .second, .val (.int i1), .val (.int i2), .val (.int i3), .val (.int i4), .val (.long v6_5), .second, .val (.ref b7), .val (.int v9_30), .val (.int v10_44), .val (.ref bs), .val (.int v12_66), .val (.int v13_81), .val (.long (i1.toInt64)), .second, .val (.long ((i1.toInt64) + (i2.toInt64))), .second, .val (.int (0 : Int32)), .val (.int (0 : Int32)), .val (.int (0 : Int32)), .val (.long (i3.toInt64)), .second, .val (.long ((i3.toInt64) + (i4.toInt64))), .second, .val (.int (1 : Int32)), .val (.int (1 : Int32)), .val (.int (1 : Int32)), .unset]) rfl ?_
          refine w_iload X hx (dq hby d0_208) rfl ?_
          refine w_if_eq X hx (dj hby d0_210) (fun hc210 => (?_ : False).elim) (fun hc210 => ?_)
          · exact absurd hc210 (by decide)
          refine w_iload X hx (dq hby d0_213) rfl ?_
          refine w_if_eq X hx (dj hby d0_215) (fun hc215 => (?_ : False).elim) (fun hc215 => ?_)
          · exact absurd hc215 (by decide)
          refine w_iconst X hx (dq hby d0_218) (z := 2) rfl ?_
          refine w_goto X hx (dj hby d0_219) ?_
          refine w_iload X hx (dq hby d0_223) rfl ?_
          refine w_icmp_le X hx (dj hby d0_225) (fun hc225 => (?_ : False).elim) (fun hc225 => ?_)
          · exact absurd hc225 (by decide)
          refine w_iconst X hx (dq hby d0_228) (z := 1) rfl ?_
          refine w_goto X hx (dj hby d0_229) ?_
          refine w_istore X hx (dq hby d0_233) (z := (1 : Int32)) rfl (Ls' := #[.val (.long i0), .second, .val (.int i1), .val (.int i2), .val (.int i3), .val (.int i4), .val (.long v6_5), .second, .val (.ref b7), .val (.int v9_30), .val (.int v10_44), .val (.ref bs), .val (.int v12_66), .val (.int v13_81), .val (.long (i1.toInt64)), .second, .val (.long ((i1.toInt64) + (i2.toInt64))), .second, .val (.int (0 : Int32)), .val (.int (0 : Int32)), .val (.int (0 : Int32)), .val (.long (i3.toInt64)), .second, .val (.long ((i3.toInt64) + (i4.toInt64))), .second, .val (.int (1 : Int32)), .val (.int (1 : Int32)), .val (.int (1 : Int32)), .val (.int (1 : Int32))]) rfl ?_
          have e1 : r1 = 0 := by rw [hr1, rw_f _ hc99]
          have e2 : r2 = 0 := by rw [hr2, rw_f _ hc114, e1]
          have e3 : r3 = 1 := by rw [hr3, rw_t _ hc165]; rfl
          have em : cb = 0 := by rw [hcb, e2]; decide
          have d_v9_30 : v9_30 = 0 := by rw [hv9_30, cnt_f hc99]
          have d_v10_44 : v10_44 = 0 := by rw [hv10_44, cnt_f hc114]
          have d_v12_66 : v12_66 = 1 := by rw [hv12_66, cnt_t hc165 (by rw [em]; decide)]
          have d_v13_81 : v13_81 = 1 := by rw [hv13_81, cnt_t hc180 (by rw [e3, em]; decide)]
          refine w_iload X hx (dq hby d0_235) rfl ?_
          refine w_iload X hx (dq hby d0_237) rfl ?_
          refine w_icmp_ne X hx (dj hby d0_239) (fun hc239 => (?_ : False).elim) (fun hc239 => ?_)
          · exact hc239 d_v9_30
          refine w_iload X hx (dq hby d0_242) rfl ?_
          refine w_iload X hx (dq hby d0_244) rfl ?_
          refine w_icmp_ne X hx (dj hby d0_246) (fun hc246 => (?_ : False).elim) (fun hc246 => ?_)
          · exact hc246 d_v10_44
          refine w_iload X hx (dq hby d0_249) rfl ?_
          refine w_iload X hx (dq hby d0_251) rfl ?_
          refine w_icmp_ne X hx (dj hby d0_253) (fun hc253 => (?_ : False).elim) (fun hc253 => ?_)
          · exact hc253 d_v12_66
          refine w_iload X hx (dq hby d0_256) rfl ?_
          refine w_iload X hx (dq hby d0_258) rfl ?_
          refine w_icmp_ne X hx (dj hby d0_260) (fun hc260 => (?_ : False).elim) (fun hc260 => ?_)
          · exact hc260 d_v13_81
          refine w_iconst X hx (dq hby d0_263) (z := 1) rfl ?_
          refine w_goto X hx (dj hby d0_264) ?_
          refine w_retN X hx hret (by simp) hlk (dq hby d0_268) (by decide) (by decide) ?_
          exact ⟨by simp [nar], N⟩
    · refine w_iconst X hx (dq hby d0_117) (z := 1) rfl ?_
      refine w_goto X hx (dj hby d0_118) ?_
      refine w_istore X hx (dq hby d0_122) (z := (1 : Int32)) rfl (Ls' := #[.val (.long i0), .second, .val (.int i1), .val (.int i2), .val (.int i3), .val (.int i4), .val (.long v6_5), .second, .val (.ref b7), .val (.int v9_30), .val (.int v10_44), .val (.ref bs), .val (.int v12_66), .val (.int v13_81), .val (.long (i1.toInt64)), .second, .val (.long ((i1.toInt64) + (i2.toInt64))), .second, .val (.int (0 : Int32)), .val (.int (1 : Int32)), .unset, .unset, .unset, .unset, .unset, .unset, .unset, .unset, .unset]) rfl ?_
      refine w_iload X hx (dq hby d0_124) rfl ?_
      refine w_if_eq X hx (dj hby d0_126) (fun hc126 => ?_) (fun hc126 => (?_ : False).elim)
      rotate_left
      · exact absurd hc126 (by decide)
      refine w_iconst X hx (dq hby d0_133) (z := 0) rfl ?_
      refine w_iload X hx (dq hby d0_134) rfl ?_
      refine w_if_eq X hx (dj hby d0_136) (fun hc136 => (?_ : False).elim) (fun hc136 => ?_)
      · exact absurd hc136 (by decide)
      refine w_iconst X hx (dq hby d0_139) (z := 1) rfl ?_
      refine w_goto X hx (dj hby d0_140) ?_
      refine w_iadd X hx (dq hby d0_144) ?_
      refine w_eqI (z := (1 : Int32)) (by decide) ?_
      refine w_istore X hx (dq hby d0_145) (z := (1 : Int32)) rfl (Ls' := #[.val (.long i0), .second, .val (.int i1), .val (.int i2), .val (.int i3), .val (.int i4), .val (.long v6_5), .second, .val (.ref b7), .val (.int v9_30), .val (.int v10_44), .val (.ref bs), .val (.int v12_66), .val (.int v13_81), .val (.long (i1.toInt64)), .second, .val (.long ((i1.toInt64) + (i2.toInt64))), .second, .val (.int (0 : Int32)), .val (.int (1 : Int32)), .val (.int (1 : Int32)), .unset, .unset, .unset, .unset, .unset, .unset, .unset, .unset]) rfl ?_
      refine w_iload X hx (dq hby d0_147) rfl ?_
      refine w_i2l X hx (dq hby d0_149) ?_
      refine w_lstore X hx (dq hby d0_150) (z := (i3.toInt64)) rfl (Ls' := #[.val (.long i0), .second, .val (.int i1), .val (.int i2), .val (.int i3), .val (.int i4), .val (.long v6_5), .second, .val (.ref b7), .val (.int v9_30), .val (.int v10_44), .val (.ref bs), .val (.int v12_66), .val (.int v13_81), .val (.long (i1.toInt64)), .second, .val (.long ((i1.toInt64) + (i2.toInt64))), .second, .val (.int (0 : Int32)), .val (.int (1 : Int32)), .val (.int (1 : Int32)), .val (.long (i3.toInt64)), .second, .unset, .unset, .unset, .unset, .unset, .unset]) rfl ?_
      refine w_lload X hx (dq hby d0_152) rfl ?_
      refine w_iload X hx (dq hby d0_154) rfl ?_
      refine w_i2l X hx (dq hby d0_156) ?_
      refine w_ladd X hx (dq hby d0_157) ?_
      refine w_lstore X hx (dq hby d0_158) (z := ((i3.toInt64) + (i4.toInt64))) rfl (Ls' := #[.val (.long i0), .second, .val (.int i1), .val (.int i2), .val (.int i3), .val (.int i4), .val (.long v6_5), .second, .val (.ref b7), .val (.int v9_30), .val (.int v10_44), .val (.ref bs), .val (.int v12_66), .val (.int v13_81), .val (.long (i1.toInt64)), .second, .val (.long ((i1.toInt64) + (i2.toInt64))), .second, .val (.int (0 : Int32)), .val (.int (1 : Int32)), .val (.int (1 : Int32)), .val (.long (i3.toInt64)), .second, .val (.long ((i3.toInt64) + (i4.toInt64))), .second, .unset, .unset, .unset, .unset]) rfl ?_
      refine w_lload X hx (dq hby d0_160) rfl ?_
      refine w_lload X hx (dq hby d0_162) rfl ?_
      refine w_lcmp_gt X hx (dq hby d0_164) (dj hby d0_165) (fun hc165 => ?_) (fun hc165 => ?_)
      · refine w_iconst X hx (dq hby d0_172) (z := 0) rfl ?_
        refine w_istore X hx (dq hby d0_173) (z := (0 : Int32)) rfl (Ls' := #[.val (.long i0), .second, .val (.int i1), .val (.int i2), .val (.int i3), .val (.int i4), .val (.long v6_5), .second, .val (.ref b7), .val (.int v9_30), .val (.int v10_44), .val (.ref bs), .val (.int v12_66), .val (.int v13_81), .val (.long (i1.toInt64)), .second, .val (.long ((i1.toInt64) + (i2.toInt64))), .second, .val (.int (0 : Int32)), .val (.int (1 : Int32)), .val (.int (1 : Int32)), .val (.long (i3.toInt64)), .second, .val (.long ((i3.toInt64) + (i4.toInt64))), .second, .val (.int (0 : Int32)), .unset, .unset, .unset]) rfl ?_
        refine w_lload X hx (dq hby d0_175) rfl ?_
        refine w_lload X hx (dq hby d0_177) rfl ?_
        refine w_lcmp_gt X hx (dq hby d0_179) (dj hby d0_180) (fun hc180 => ?_) (fun hc180 => ?_)
        · refine w_iconst X hx (dq hby d0_187) (z := 0) rfl ?_
          refine w_istore X hx (dq hby d0_188) (z := (0 : Int32)) rfl (Ls' := #[.val (.long i0), .second, .val (.int i1), .val (.int i2), .val (.int i3), .val (.int i4), .val (.long v6_5), .second, .val (.ref b7), .val (.int v9_30), .val (.int v10_44), .val (.ref bs), .val (.int v12_66), .val (.int v13_81), .val (.long (i1.toInt64)), .second, .val (.long ((i1.toInt64) + (i2.toInt64))), .second, .val (.int (0 : Int32)), .val (.int (1 : Int32)), .val (.int (1 : Int32)), .val (.long (i3.toInt64)), .second, .val (.long ((i3.toInt64) + (i4.toInt64))), .second, .val (.int (0 : Int32)), .val (.int (0 : Int32)), .unset, .unset]) rfl ?_
          refine w_iload X hx (dq hby d0_190) rfl ?_
          refine w_if_eq X hx (dj hby d0_192) (fun hc192 => ?_) (fun hc192 => (?_ : False).elim)
          rotate_left
          · exact absurd hc192 (by decide)
          refine w_iconst X hx (dq hby d0_205) (z := 0) rfl ?_
          refine w_istore X hx (dq hby d0_206) (z := (0 : Int32)) rfl (Ls' := #[.val (.long i0), .second, .val (.int i1), .val (.int i2), .val (.int i3), .val (.int i4), .val (.long v6_5), .second, .val (.ref b7), .val (.int v9_30), .val (.int v10_44), .val (.ref bs), .val (.int v12_66), .val (.int v13_81), .val (.long (i1.toInt64)), .second, .val (.long ((i1.toInt64) + (i2.toInt64))), .second, .val (.int (0 : Int32)), .val (.int (1 : Int32)), .val (.int (1 : Int32)), .val (.long (i3.toInt64)), .second, .val (.long ((i3.toInt64) + (i4.toInt64))), .second, .val (.int (0 : Int32)), .val (.int (0 : Int32)), .val (.int (0 : Int32)), .unset]) rfl ?_
          refine w_iload X hx (dq hby d0_208) rfl ?_
          refine w_if_eq X hx (dj hby d0_210) (fun hc210 => ?_) (fun hc210 => (?_ : False).elim)
          rotate_left
          · exact absurd hc210 (by decide)
          refine w_iconst X hx (dq hby d0_232) (z := 0) rfl ?_
          refine w_istore X hx (dq hby d0_233) (z := (0 : Int32)) rfl (Ls' := #[.val (.long i0), .second, .val (.int i1), .val (.int i2), .val (.int i3), .val (.int i4), .val (.long v6_5), .second, .val (.ref b7), .val (.int v9_30), .val (.int v10_44), .val (.ref bs), .val (.int v12_66), .val (.int v13_81), .val (.long (i1.toInt64)), .second, .val (.long ((i1.toInt64) + (i2.toInt64))), .second, .val (.int (0 : Int32)), .val (.int (1 : Int32)), .val (.int (1 : Int32)), .val (.long (i3.toInt64)), .second, .val (.long ((i3.toInt64) + (i4.toInt64))), .second, .val (.int (0 : Int32)), .val (.int (0 : Int32)), .val (.int (0 : Int32)), .val (.int (0 : Int32))]) rfl ?_
          have e1 : r1 = 0 := by rw [hr1, rw_f _ hc99]
          have e2 : r2 = 1 := by rw [hr2, rw_t _ hc114, e1]; rfl
          have e3 : r3 = 0 := by rw [hr3, rw_f _ hc165]
          have em : cb = 1 := by rw [hcb, e2]; decide
          have d_v9_30 : v9_30 = 0 := by rw [hv9_30, cnt_f hc99]
          have d_v10_44 : v10_44 = 1 := by rw [hv10_44, cnt_t hc114 (by rw [e1]; decide)]
          have d_v12_66 : v12_66 = 0 := by rw [hv12_66, cnt_f hc165]
          have d_v13_81 : v13_81 = 0 := by rw [hv13_81, cnt_f hc180]
          refine w_iload X hx (dq hby d0_235) rfl ?_
          refine w_iload X hx (dq hby d0_237) rfl ?_
          refine w_icmp_ne X hx (dj hby d0_239) (fun hc239 => (?_ : False).elim) (fun hc239 => ?_)
          · exact hc239 d_v9_30
          refine w_iload X hx (dq hby d0_242) rfl ?_
          refine w_iload X hx (dq hby d0_244) rfl ?_
          refine w_icmp_ne X hx (dj hby d0_246) (fun hc246 => (?_ : False).elim) (fun hc246 => ?_)
          · exact hc246 d_v10_44
          refine w_iload X hx (dq hby d0_249) rfl ?_
          refine w_iload X hx (dq hby d0_251) rfl ?_
          refine w_icmp_ne X hx (dj hby d0_253) (fun hc253 => (?_ : False).elim) (fun hc253 => ?_)
          · exact hc253 d_v12_66
          refine w_iload X hx (dq hby d0_256) rfl ?_
          refine w_iload X hx (dq hby d0_258) rfl ?_
          refine w_icmp_ne X hx (dj hby d0_260) (fun hc260 => (?_ : False).elim) (fun hc260 => ?_)
          · exact hc260 d_v13_81
          refine w_iconst X hx (dq hby d0_263) (z := 1) rfl ?_
          refine w_goto X hx (dj hby d0_264) ?_
          refine w_retN X hx hret (by simp) hlk (dq hby d0_268) (by decide) (by decide) ?_
          exact ⟨by simp [nar], N⟩
        · refine w_iconst X hx (dq hby d0_183) (z := 1) rfl ?_
          refine w_goto X hx (dj hby d0_184) ?_
          refine w_istore X hx (dq hby d0_188) (z := (1 : Int32)) rfl (Ls' := #[.val (.long i0), .second, .val (.int i1), .val (.int i2), .val (.int i3), .val (.int i4), .val (.long v6_5), .second, .val (.ref b7), .val (.int v9_30), .val (.int v10_44), .val (.ref bs), .val (.int v12_66), .val (.int v13_81), .val (.long (i1.toInt64)), .second, .val (.long ((i1.toInt64) + (i2.toInt64))), .second, .val (.int (0 : Int32)), .val (.int (1 : Int32)), .val (.int (1 : Int32)), .val (.long (i3.toInt64)), .second, .val (.long ((i3.toInt64) + (i4.toInt64))), .second, .val (.int (0 : Int32)), .val (.int (1 : Int32)), .unset, .unset]) rfl ?_
          refine w_iload X hx (dq hby d0_190) rfl ?_
          refine w_if_eq X hx (dj hby d0_192) (fun hc192 => ?_) (fun hc192 => (?_ : False).elim)
          rotate_left
          · exact absurd hc192 (by decide)
          refine w_iconst X hx (dq hby d0_205) (z := 0) rfl ?_
          refine w_istore X hx (dq hby d0_206) (z := (0 : Int32)) rfl (Ls' := #[.val (.long i0), .second, .val (.int i1), .val (.int i2), .val (.int i3), .val (.int i4), .val (.long v6_5), .second, .val (.ref b7), .val (.int v9_30), .val (.int v10_44), .val (.ref bs), .val (.int v12_66), .val (.int v13_81), .val (.long (i1.toInt64)), .second, .val (.long ((i1.toInt64) + (i2.toInt64))), .second, .val (.int (0 : Int32)), .val (.int (1 : Int32)), .val (.int (1 : Int32)), .val (.long (i3.toInt64)), .second, .val (.long ((i3.toInt64) + (i4.toInt64))), .second, .val (.int (0 : Int32)), .val (.int (1 : Int32)), .val (.int (0 : Int32)), .unset]) rfl ?_
          refine w_iload X hx (dq hby d0_208) rfl ?_
          refine w_if_eq X hx (dj hby d0_210) (fun hc210 => (?_ : False).elim) (fun hc210 => ?_)
          · exact absurd hc210 (by decide)
          refine w_iload X hx (dq hby d0_213) rfl ?_
          refine w_if_eq X hx (dj hby d0_215) (fun hc215 => ?_) (fun hc215 => (?_ : False).elim)
          rotate_left
          · exact absurd hc215 (by decide)
          refine w_iconst X hx (dq hby d0_222) (z := 1) rfl ?_
          refine w_iload X hx (dq hby d0_223) rfl ?_
          refine w_icmp_le X hx (dj hby d0_225) (fun hc225 => ?_) (fun hc225 => (?_ : False).elim)
          rotate_left
          · exact absurd hc225 (by decide)
          refine w_iconst X hx (dq hby d0_232) (z := 0) rfl ?_
          refine w_istore X hx (dq hby d0_233) (z := (0 : Int32)) rfl (Ls' := #[.val (.long i0), .second, .val (.int i1), .val (.int i2), .val (.int i3), .val (.int i4), .val (.long v6_5), .second, .val (.ref b7), .val (.int v9_30), .val (.int v10_44), .val (.ref bs), .val (.int v12_66), .val (.int v13_81), .val (.long (i1.toInt64)), .second, .val (.long ((i1.toInt64) + (i2.toInt64))), .second, .val (.int (0 : Int32)), .val (.int (1 : Int32)), .val (.int (1 : Int32)), .val (.long (i3.toInt64)), .second, .val (.long ((i3.toInt64) + (i4.toInt64))), .second, .val (.int (0 : Int32)), .val (.int (1 : Int32)), .val (.int (0 : Int32)), .val (.int (0 : Int32))]) rfl ?_
          have e1 : r1 = 0 := by rw [hr1, rw_f _ hc99]
          have e2 : r2 = 1 := by rw [hr2, rw_t _ hc114, e1]; rfl
          have e3 : r3 = 0 := by rw [hr3, rw_f _ hc165]
          have em : cb = 1 := by rw [hcb, e2]; decide
          have d_v9_30 : v9_30 = 0 := by rw [hv9_30, cnt_f hc99]
          have d_v10_44 : v10_44 = 1 := by rw [hv10_44, cnt_t hc114 (by rw [e1]; decide)]
          have d_v12_66 : v12_66 = 0 := by rw [hv12_66, cnt_f hc165]
          have d_v13_81 : v13_81 = 0 := by rw [hv13_81, cnt_z hc180 (by rw [e3, em]; decide)]
          refine w_iload X hx (dq hby d0_235) rfl ?_
          refine w_iload X hx (dq hby d0_237) rfl ?_
          refine w_icmp_ne X hx (dj hby d0_239) (fun hc239 => (?_ : False).elim) (fun hc239 => ?_)
          · exact hc239 d_v9_30
          refine w_iload X hx (dq hby d0_242) rfl ?_
          refine w_iload X hx (dq hby d0_244) rfl ?_
          refine w_icmp_ne X hx (dj hby d0_246) (fun hc246 => (?_ : False).elim) (fun hc246 => ?_)
          · exact hc246 d_v10_44
          refine w_iload X hx (dq hby d0_249) rfl ?_
          refine w_iload X hx (dq hby d0_251) rfl ?_
          refine w_icmp_ne X hx (dj hby d0_253) (fun hc253 => (?_ : False).elim) (fun hc253 => ?_)
          · exact hc253 d_v12_66
          refine w_iload X hx (dq hby d0_256) rfl ?_
          refine w_iload X hx (dq hby d0_258) rfl ?_
          refine w_icmp_ne X hx (dj hby d0_260) (fun hc260 => (?_ : False).elim) (fun hc260 => ?_)
          · exact hc260 d_v13_81
          refine w_iconst X hx (dq hby d0_263) (z := 1) rfl ?_
          refine w_goto X hx (dj hby d0_264) ?_
          refine w_retN X hx hret (by simp) hlk (dq hby d0_268) (by decide) (by decide) ?_
          exact ⟨by simp [nar], N⟩
      · refine w_iconst X hx (dq hby d0_168) (z := 1) rfl ?_
        refine w_goto X hx (dj hby d0_169) ?_
        refine w_istore X hx (dq hby d0_173) (z := (1 : Int32)) rfl (Ls' := #[.val (.long i0), .second, .val (.int i1), .val (.int i2), .val (.int i3), .val (.int i4), .val (.long v6_5), .second, .val (.ref b7), .val (.int v9_30), .val (.int v10_44), .val (.ref bs), .val (.int v12_66), .val (.int v13_81), .val (.long (i1.toInt64)), .second, .val (.long ((i1.toInt64) + (i2.toInt64))), .second, .val (.int (0 : Int32)), .val (.int (1 : Int32)), .val (.int (1 : Int32)), .val (.long (i3.toInt64)), .second, .val (.long ((i3.toInt64) + (i4.toInt64))), .second, .val (.int (1 : Int32)), .unset, .unset, .unset]) rfl ?_
        refine w_lload X hx (dq hby d0_175) rfl ?_
        refine w_lload X hx (dq hby d0_177) rfl ?_
        refine w_lcmp_gt X hx (dq hby d0_179) (dj hby d0_180) (fun hc180 => ?_) (fun hc180 => ?_)
        · refine w_iconst X hx (dq hby d0_187) (z := 0) rfl ?_
          refine w_istore X hx (dq hby d0_188) (z := (0 : Int32)) rfl (Ls' := #[.val (.long i0), .second, .val (.int i1), .val (.int i2), .val (.int i3), .val (.int i4), .val (.long v6_5), .second, .val (.ref b7), .val (.int v9_30), .val (.int v10_44), .val (.ref bs), .val (.int v12_66), .val (.int v13_81), .val (.long (i1.toInt64)), .second, .val (.long ((i1.toInt64) + (i2.toInt64))), .second, .val (.int (0 : Int32)), .val (.int (1 : Int32)), .val (.int (1 : Int32)), .val (.long (i3.toInt64)), .second, .val (.long ((i3.toInt64) + (i4.toInt64))), .second, .val (.int (1 : Int32)), .val (.int (0 : Int32)), .unset, .unset]) rfl ?_
          refine w_iload X hx (dq hby d0_190) rfl ?_
          refine w_if_eq X hx (dj hby d0_192) (fun hc192 => (?_ : False).elim) (fun hc192 => ?_)
          · exact absurd hc192 (by decide)
          refine w_iconst X hx (dq hby d0_195) (z := 1) rfl ?_
          refine w_iload X hx (dq hby d0_196) rfl ?_
          refine w_icmp_le X hx (dj hby d0_198) (fun hc198 => ?_) (fun hc198 => (?_ : False).elim)
          rotate_left
          · exact absurd hc198 (by decide)
          refine w_iconst X hx (dq hby d0_205) (z := 0) rfl ?_
          refine w_istore X hx (dq hby d0_206) (z := (0 : Int32)) rfl (Ls' := #[.val (.long i0), .second, .val (.int i1), .val (.int i2), .val (.int i3), .val (.int i4), .val (.long v6_5), .second, .val (.ref b7), .val (.int v9_30), .val (.int v10_44), .val (.ref bs), .val (.int v12_66), .val (.int v13_81), .val (.long (i1.toInt64)), .second, .val (.long ((i1.toInt64) + (i2.toInt64))), .second, .val (.int (0 : Int32)), .val (.int (1 : Int32)), .val (.int (1 : Int32)), .val (.long (i3.toInt64)), .second, .val (.long ((i3.toInt64) + (i4.toInt64))), .second, .val (.int (1 : Int32)), .val (.int (0 : Int32)), .val (.int (0 : Int32)), .unset]) rfl ?_
          refine w_iload X hx (dq hby d0_208) rfl ?_
          refine w_if_eq X hx (dj hby d0_210) (fun hc210 => ?_) (fun hc210 => (?_ : False).elim)
          rotate_left
          · exact absurd hc210 (by decide)
          refine w_iconst X hx (dq hby d0_232) (z := 0) rfl ?_
          refine w_istore X hx (dq hby d0_233) (z := (0 : Int32)) rfl (Ls' := #[.val (.long i0), .second, .val (.int i1), .val (.int i2), .val (.int i3), .val (.int i4), .val (.long v6_5), .second, .val (.ref b7), .val (.int v9_30), .val (.int v10_44), .val (.ref bs), .val (.int v12_66), .val (.int v13_81), .val (.long (i1.toInt64)), .second, .val (.long ((i1.toInt64) + (i2.toInt64))), .second, .val (.int (0 : Int32)), .val (.int (1 : Int32)), .val (.int (1 : Int32)), .val (.long (i3.toInt64)), .second, .val (.long ((i3.toInt64) + (i4.toInt64))), .second, .val (.int (1 : Int32)), .val (.int (0 : Int32)), .val (.int (0 : Int32)), .val (.int (0 : Int32))]) rfl ?_
          have e1 : r1 = 0 := by rw [hr1, rw_f _ hc99]
          have e2 : r2 = 1 := by rw [hr2, rw_t _ hc114, e1]; rfl
          have e3 : r3 = 1 := by rw [hr3, rw_t _ hc165]; rfl
          have em : cb = 1 := by rw [hcb, e2]; decide
          have d_v9_30 : v9_30 = 0 := by rw [hv9_30, cnt_f hc99]
          have d_v10_44 : v10_44 = 1 := by rw [hv10_44, cnt_t hc114 (by rw [e1]; decide)]
          have d_v12_66 : v12_66 = 0 := by rw [hv12_66, cnt_z hc165 (by rw [em]; decide)]
          have d_v13_81 : v13_81 = 0 := by rw [hv13_81, cnt_f hc180]
          refine w_iload X hx (dq hby d0_235) rfl ?_
          refine w_iload X hx (dq hby d0_237) rfl ?_
          refine w_icmp_ne X hx (dj hby d0_239) (fun hc239 => (?_ : False).elim) (fun hc239 => ?_)
          · exact hc239 d_v9_30
          refine w_iload X hx (dq hby d0_242) rfl ?_
          refine w_iload X hx (dq hby d0_244) rfl ?_
          refine w_icmp_ne X hx (dj hby d0_246) (fun hc246 => (?_ : False).elim) (fun hc246 => ?_)
          · exact hc246 d_v10_44
          refine w_iload X hx (dq hby d0_249) rfl ?_
          refine w_iload X hx (dq hby d0_251) rfl ?_
          refine w_icmp_ne X hx (dj hby d0_253) (fun hc253 => (?_ : False).elim) (fun hc253 => ?_)
          · exact hc253 d_v12_66
          refine w_iload X hx (dq hby d0_256) rfl ?_
          refine w_iload X hx (dq hby d0_258) rfl ?_
          refine w_icmp_ne X hx (dj hby d0_260) (fun hc260 => (?_ : False).elim) (fun hc260 => ?_)
          · exact hc260 d_v13_81
          refine w_iconst X hx (dq hby d0_263) (z := 1) rfl ?_
          refine w_goto X hx (dj hby d0_264) ?_
          refine w_retN X hx hret (by simp) hlk (dq hby d0_268) (by decide) (by decide) ?_
          exact ⟨by simp [nar], N⟩
        · refine w_iconst X hx (dq hby d0_183) (z := 1) rfl ?_
          refine w_goto X hx (dj hby d0_184) ?_
          refine w_istore X hx (dq hby d0_188) (z := (1 : Int32)) rfl (Ls' := #[.val (.long i0), .second, .val (.int i1), .val (.int i2), .val (.int i3), .val (.int i4), .val (.long v6_5), .second, .val (.ref b7), .val (.int v9_30), .val (.int v10_44), .val (.ref bs), .val (.int v12_66), .val (.int v13_81), .val (.long (i1.toInt64)), .second, .val (.long ((i1.toInt64) + (i2.toInt64))), .second, .val (.int (0 : Int32)), .val (.int (1 : Int32)), .val (.int (1 : Int32)), .val (.long (i3.toInt64)), .second, .val (.long ((i3.toInt64) + (i4.toInt64))), .second, .val (.int (1 : Int32)), .val (.int (1 : Int32)), .unset, .unset]) rfl ?_
          refine w_iload X hx (dq hby d0_190) rfl ?_
          refine w_if_eq X hx (dj hby d0_192) (fun hc192 => (?_ : False).elim) (fun hc192 => ?_)
          · exact absurd hc192 (by decide)
          refine w_iconst X hx (dq hby d0_195) (z := 1) rfl ?_
          refine w_iload X hx (dq hby d0_196) rfl ?_
          refine w_icmp_le X hx (dj hby d0_198) (fun hc198 => ?_) (fun hc198 => (?_ : False).elim)
          rotate_left
          · exact absurd hc198 (by decide)
          refine w_iconst X hx (dq hby d0_205) (z := 0) rfl ?_
          refine w_istore X hx (dq hby d0_206) (z := (0 : Int32)) rfl (Ls' := #[.val (.long i0), .second, .val (.int i1), .val (.int i2), .val (.int i3), .val (.int i4), .val (.long v6_5), .second, .val (.ref b7), .val (.int v9_30), .val (.int v10_44), .val (.ref bs), .val (.int v12_66), .val (.int v13_81), .val (.long (i1.toInt64)), .second, .val (.long ((i1.toInt64) + (i2.toInt64))), .second, .val (.int (0 : Int32)), .val (.int (1 : Int32)), .val (.int (1 : Int32)), .val (.long (i3.toInt64)), .second, .val (.long ((i3.toInt64) + (i4.toInt64))), .second, .val (.int (1 : Int32)), .val (.int (1 : Int32)), .val (.int (0 : Int32)), .unset]) rfl ?_
          refine w_iload X hx (dq hby d0_208) rfl ?_
          refine w_if_eq X hx (dj hby d0_210) (fun hc210 => (?_ : False).elim) (fun hc210 => ?_)
          · exact absurd hc210 (by decide)
          refine w_iload X hx (dq hby d0_213) rfl ?_
          refine w_if_eq X hx (dj hby d0_215) (fun hc215 => (?_ : False).elim) (fun hc215 => ?_)
          · exact absurd hc215 (by decide)
          refine w_iconst X hx (dq hby d0_218) (z := 2) rfl ?_
          refine w_goto X hx (dj hby d0_219) ?_
          refine w_iload X hx (dq hby d0_223) rfl ?_
          refine w_icmp_le X hx (dj hby d0_225) (fun hc225 => (?_ : False).elim) (fun hc225 => ?_)
          · exact absurd hc225 (by decide)
          refine w_iconst X hx (dq hby d0_228) (z := 1) rfl ?_
          refine w_goto X hx (dj hby d0_229) ?_
          refine w_istore X hx (dq hby d0_233) (z := (1 : Int32)) rfl (Ls' := #[.val (.long i0), .second, .val (.int i1), .val (.int i2), .val (.int i3), .val (.int i4), .val (.long v6_5), .second, .val (.ref b7), .val (.int v9_30), .val (.int v10_44), .val (.ref bs), .val (.int v12_66), .val (.int v13_81), .val (.long (i1.toInt64)), .second, .val (.long ((i1.toInt64) + (i2.toInt64))), .second, .val (.int (0 : Int32)), .val (.int (1 : Int32)), .val (.int (1 : Int32)), .val (.long (i3.toInt64)), .second, .val (.long ((i3.toInt64) + (i4.toInt64))), .second, .val (.int (1 : Int32)), .val (.int (1 : Int32)), .val (.int (0 : Int32)), .val (.int (1 : Int32))]) rfl ?_
          have e1 : r1 = 0 := by rw [hr1, rw_f _ hc99]
          have e2 : r2 = 1 := by rw [hr2, rw_t _ hc114, e1]; rfl
          have e3 : r3 = 1 := by rw [hr3, rw_t _ hc165]; rfl
          have em : cb = 1 := by rw [hcb, e2]; decide
          have d_v9_30 : v9_30 = 0 := by rw [hv9_30, cnt_f hc99]
          have d_v10_44 : v10_44 = 1 := by rw [hv10_44, cnt_t hc114 (by rw [e1]; decide)]
          have d_v12_66 : v12_66 = 0 := by rw [hv12_66, cnt_z hc165 (by rw [em]; decide)]
          have d_v13_81 : v13_81 = 1 := by rw [hv13_81, cnt_t hc180 (by rw [e3, em]; decide)]
          refine w_iload X hx (dq hby d0_235) rfl ?_
          refine w_iload X hx (dq hby d0_237) rfl ?_
          refine w_icmp_ne X hx (dj hby d0_239) (fun hc239 => (?_ : False).elim) (fun hc239 => ?_)
          · exact hc239 d_v9_30
          refine w_iload X hx (dq hby d0_242) rfl ?_
          refine w_iload X hx (dq hby d0_244) rfl ?_
          refine w_icmp_ne X hx (dj hby d0_246) (fun hc246 => (?_ : False).elim) (fun hc246 => ?_)
          · exact hc246 d_v10_44
          refine w_iload X hx (dq hby d0_249) rfl ?_
          refine w_iload X hx (dq hby d0_251) rfl ?_
          refine w_icmp_ne X hx (dj hby d0_253) (fun hc253 => (?_ : False).elim) (fun hc253 => ?_)
          · exact hc253 d_v12_66
          refine w_iload X hx (dq hby d0_256) rfl ?_
          refine w_iload X hx (dq hby d0_258) rfl ?_
          refine w_icmp_ne X hx (dj hby d0_260) (fun hc260 => (?_ : False).elim) (fun hc260 => ?_)
          · exact hc260 d_v13_81
          refine w_iconst X hx (dq hby d0_263) (z := 1) rfl ?_
          refine w_goto X hx (dj hby d0_264) ?_
          refine w_retN X hx hret (by simp) hlk (dq hby d0_268) (by decide) (by decide) ?_
          exact ⟨by simp [nar], N⟩
  · refine w_iconst X hx (dq hby d0_102) (z := 1) rfl ?_
    refine w_goto X hx (dj hby d0_103) ?_
    refine w_istore X hx (dq hby d0_107) (z := (1 : Int32)) rfl (Ls' := #[.val (.long i0), .second, .val (.int i1), .val (.int i2), .val (.int i3), .val (.int i4), .val (.long v6_5), .second, .val (.ref b7), .val (.int v9_30), .val (.int v10_44), .val (.ref bs), .val (.int v12_66), .val (.int v13_81), .val (.long (i1.toInt64)), .second, .val (.long ((i1.toInt64) + (i2.toInt64))), .second, .val (.int (1 : Int32)), .unset, .unset, .unset, .unset, .unset, .unset, .unset, .unset, .unset, .unset]) rfl ?_
    refine w_lload X hx (dq hby d0_109) rfl ?_
    refine w_lload X hx (dq hby d0_111) rfl ?_
    refine w_lcmp_gt X hx (dq hby d0_113) (dj hby d0_114) (fun hc114 => ?_) (fun hc114 => ?_)
    · refine w_iconst X hx (dq hby d0_121) (z := 0) rfl ?_
      refine w_istore X hx (dq hby d0_122) (z := (0 : Int32)) rfl (Ls' := #[.val (.long i0), .second, .val (.int i1), .val (.int i2), .val (.int i3), .val (.int i4), .val (.long v6_5), .second, .val (.ref b7), .val (.int v9_30), .val (.int v10_44), .val (.ref bs), .val (.int v12_66), .val (.int v13_81), .val (.long (i1.toInt64)), .second, .val (.long ((i1.toInt64) + (i2.toInt64))), .second, .val (.int (1 : Int32)), .val (.int (0 : Int32)), .unset, .unset, .unset, .unset, .unset, .unset, .unset, .unset, .unset]) rfl ?_
      refine w_iload X hx (dq hby d0_124) rfl ?_
      refine w_if_eq X hx (dj hby d0_126) (fun hc126 => (?_ : False).elim) (fun hc126 => ?_)
      · exact absurd hc126 (by decide)
      refine w_iconst X hx (dq hby d0_129) (z := 1) rfl ?_
      refine w_goto X hx (dj hby d0_130) ?_
      refine w_iload X hx (dq hby d0_134) rfl ?_
      refine w_if_eq X hx (dj hby d0_136) (fun hc136 => ?_) (fun hc136 => (?_ : False).elim)
      rotate_left
      · exact absurd hc136 (by decide)
      refine w_iconst X hx (dq hby d0_143) (z := 0) rfl ?_
      refine w_iadd X hx (dq hby d0_144) ?_
      refine w_eqI (z := (1 : Int32)) (by decide) ?_
      refine w_istore X hx (dq hby d0_145) (z := (1 : Int32)) rfl (Ls' := #[.val (.long i0), .second, .val (.int i1), .val (.int i2), .val (.int i3), .val (.int i4), .val (.long v6_5), .second, .val (.ref b7), .val (.int v9_30), .val (.int v10_44), .val (.ref bs), .val (.int v12_66), .val (.int v13_81), .val (.long (i1.toInt64)), .second, .val (.long ((i1.toInt64) + (i2.toInt64))), .second, .val (.int (1 : Int32)), .val (.int (0 : Int32)), .val (.int (1 : Int32)), .unset, .unset, .unset, .unset, .unset, .unset, .unset, .unset]) rfl ?_
      refine w_iload X hx (dq hby d0_147) rfl ?_
      refine w_i2l X hx (dq hby d0_149) ?_
      refine w_lstore X hx (dq hby d0_150) (z := (i3.toInt64)) rfl (Ls' := #[.val (.long i0), .second, .val (.int i1), .val (.int i2), .val (.int i3), .val (.int i4), .val (.long v6_5), .second, .val (.ref b7), .val (.int v9_30), .val (.int v10_44), .val (.ref bs), .val (.int v12_66), .val (.int v13_81), .val (.long (i1.toInt64)), .second, .val (.long ((i1.toInt64) + (i2.toInt64))), .second, .val (.int (1 : Int32)), .val (.int (0 : Int32)), .val (.int (1 : Int32)), .val (.long (i3.toInt64)), .second, .unset, .unset, .unset, .unset, .unset, .unset]) rfl ?_
      refine w_lload X hx (dq hby d0_152) rfl ?_
      refine w_iload X hx (dq hby d0_154) rfl ?_
      refine w_i2l X hx (dq hby d0_156) ?_
      refine w_ladd X hx (dq hby d0_157) ?_
      refine w_lstore X hx (dq hby d0_158) (z := ((i3.toInt64) + (i4.toInt64))) rfl (Ls' := #[.val (.long i0), .second, .val (.int i1), .val (.int i2), .val (.int i3), .val (.int i4), .val (.long v6_5), .second, .val (.ref b7), .val (.int v9_30), .val (.int v10_44), .val (.ref bs), .val (.int v12_66), .val (.int v13_81), .val (.long (i1.toInt64)), .second, .val (.long ((i1.toInt64) + (i2.toInt64))), .second, .val (.int (1 : Int32)), .val (.int (0 : Int32)), .val (.int (1 : Int32)), .val (.long (i3.toInt64)), .second, .val (.long ((i3.toInt64) + (i4.toInt64))), .second, .unset, .unset, .unset, .unset]) rfl ?_
      refine w_lload X hx (dq hby d0_160) rfl ?_
      refine w_lload X hx (dq hby d0_162) rfl ?_
      refine w_lcmp_gt X hx (dq hby d0_164) (dj hby d0_165) (fun hc165 => ?_) (fun hc165 => ?_)
      · refine w_iconst X hx (dq hby d0_172) (z := 0) rfl ?_
        refine w_istore X hx (dq hby d0_173) (z := (0 : Int32)) rfl (Ls' := #[.val (.long i0), .second, .val (.int i1), .val (.int i2), .val (.int i3), .val (.int i4), .val (.long v6_5), .second, .val (.ref b7), .val (.int v9_30), .val (.int v10_44), .val (.ref bs), .val (.int v12_66), .val (.int v13_81), .val (.long (i1.toInt64)), .second, .val (.long ((i1.toInt64) + (i2.toInt64))), .second, .val (.int (1 : Int32)), .val (.int (0 : Int32)), .val (.int (1 : Int32)), .val (.long (i3.toInt64)), .second, .val (.long ((i3.toInt64) + (i4.toInt64))), .second, .val (.int (0 : Int32)), .unset, .unset, .unset]) rfl ?_
        refine w_lload X hx (dq hby d0_175) rfl ?_
        refine w_lload X hx (dq hby d0_177) rfl ?_
        refine w_lcmp_gt X hx (dq hby d0_179) (dj hby d0_180) (fun hc180 => ?_) (fun hc180 => ?_)
        · refine w_iconst X hx (dq hby d0_187) (z := 0) rfl ?_
          refine w_istore X hx (dq hby d0_188) (z := (0 : Int32)) rfl (Ls' := #[.val (.long i0), .second, .val (.int i1), .val (.int i2), .val (.int i3), .val (.int i4), .val (.long v6_5), .second, .val (.ref b7), .val (.int v9_30), .val (.int v10_44), .val (.ref bs), .val (.int v12_66), .val (.int v13_81), .val (.long (i1.toInt64)), .second, .val (.long ((i1.toInt64) + (i2.toInt64))), .second, .val (.int (1 : Int32)), .val (.int (0 : Int32)), .val (.int (1 : Int32)), .val (.long (i3.toInt64)), .second, .val (.long ((i3.toInt64) + (i4.toInt64))), .second, .val (.int (0 : Int32)), .val (.int (0 : Int32)), .unset, .unset]) rfl ?_
          refine w_iload X hx (dq hby d0_190) rfl ?_
          refine w_if_eq X hx (dj hby d0_192) (fun hc192 => ?_) (fun hc192 => (?_ : False).elim)
          rotate_left
          · exact absurd hc192 (by decide)
          refine w_iconst X hx (dq hby d0_205) (z := 0) rfl ?_
          refine w_istore X hx (dq hby d0_206) (z := (0 : Int32)) rfl (Ls' := #[.val (.long i0), .second, .val (.int i1), .val (.int i2), .val (.int i3), .val (.int i4), .val (.long v6_5), .second, .val (.ref b7), .val (.int v9_30), .val (.int v10_44), .val (.ref bs), .val (.int v12_66), .val (.int v13_81), .val (.long (i1.toInt64)), .second, .val (.long ((i1.toInt64) + (i2.toInt64))), .second, .val (.int (1 : Int32)), .val (.int (0 : Int32)), .val (.int (1 : Int32)), .val (.long (i3.toInt64)), .second, .val (.long ((i3.toInt64) + (i4.toInt64))), .second, .val (.int (0 : Int32)), .val (.int (0 : Int32)), .val (.int (0 : Int32)), .unset]) rfl ?_
          refine w_iload X hx (dq hby d0_208) rfl ?_
          refine w_if_eq X hx (dj hby d0_210) (fun hc210 => ?_) (fun hc210 => (?_ : False).elim)
          rotate_left
          · exact absurd hc210 (by decide)
          refine w_iconst X hx (dq hby d0_232) (z := 0) rfl ?_
          refine w_istore X hx (dq hby d0_233) (z := (0 : Int32)) rfl (Ls' := #[.val (.long i0), .second, .val (.int i1), .val (.int i2), .val (.int i3), .val (.int i4), .val (.long v6_5), .second, .val (.ref b7), .val (.int v9_30), .val (.int v10_44), .val (.ref bs), .val (.int v12_66), .val (.int v13_81), .val (.long (i1.toInt64)), .second, .val (.long ((i1.toInt64) + (i2.toInt64))), .second, .val (.int (1 : Int32)), .val (.int (0 : Int32)), .val (.int (1 : Int32)), .val (.long (i3.toInt64)), .second, .val (.long ((i3.toInt64) + (i4.toInt64))), .second, .val (.int (0 : Int32)), .val (.int (0 : Int32)), .val (.int (0 : Int32)), .val (.int (0 : Int32))]) rfl ?_
          have e1 : r1 = 1 := by rw [hr1, rw_t _ hc99]; rfl
          have e2 : r2 = 1 := by rw [hr2, rw_f _ hc114, e1]
          have e3 : r3 = 0 := by rw [hr3, rw_f _ hc165]
          have em : cb = 1 := by rw [hcb, e2]; decide
          have d_v9_30 : v9_30 = 1 := by rw [hv9_30, cnt_t hc99 (by decide)]
          have d_v10_44 : v10_44 = 0 := by rw [hv10_44, cnt_f hc114]
          have d_v12_66 : v12_66 = 0 := by rw [hv12_66, cnt_f hc165]
          have d_v13_81 : v13_81 = 0 := by rw [hv13_81, cnt_f hc180]
          refine w_iload X hx (dq hby d0_235) rfl ?_
          refine w_iload X hx (dq hby d0_237) rfl ?_
          refine w_icmp_ne X hx (dj hby d0_239) (fun hc239 => (?_ : False).elim) (fun hc239 => ?_)
          · exact hc239 d_v9_30
          refine w_iload X hx (dq hby d0_242) rfl ?_
          refine w_iload X hx (dq hby d0_244) rfl ?_
          refine w_icmp_ne X hx (dj hby d0_246) (fun hc246 => (?_ : False).elim) (fun hc246 => ?_)
          · exact hc246 d_v10_44
          refine w_iload X hx (dq hby d0_249) rfl ?_
          refine w_iload X hx (dq hby d0_251) rfl ?_
          refine w_icmp_ne X hx (dj hby d0_253) (fun hc253 => (?_ : False).elim) (fun hc253 => ?_)
          · exact hc253 d_v12_66
          refine w_iload X hx (dq hby d0_256) rfl ?_
          refine w_iload X hx (dq hby d0_258) rfl ?_
          refine w_icmp_ne X hx (dj hby d0_260) (fun hc260 => (?_ : False).elim) (fun hc260 => ?_)
          · exact hc260 d_v13_81
          refine w_iconst X hx (dq hby d0_263) (z := 1) rfl ?_
          refine w_goto X hx (dj hby d0_264) ?_
          refine w_retN X hx hret (by simp) hlk (dq hby d0_268) (by decide) (by decide) ?_
          exact ⟨by simp [nar], N⟩
        · refine w_iconst X hx (dq hby d0_183) (z := 1) rfl ?_
          refine w_goto X hx (dj hby d0_184) ?_
          refine w_istore X hx (dq hby d0_188) (z := (1 : Int32)) rfl (Ls' := #[.val (.long i0), .second, .val (.int i1), .val (.int i2), .val (.int i3), .val (.int i4), .val (.long v6_5), .second, .val (.ref b7), .val (.int v9_30), .val (.int v10_44), .val (.ref bs), .val (.int v12_66), .val (.int v13_81), .val (.long (i1.toInt64)), .second, .val (.long ((i1.toInt64) + (i2.toInt64))), .second, .val (.int (1 : Int32)), .val (.int (0 : Int32)), .val (.int (1 : Int32)), .val (.long (i3.toInt64)), .second, .val (.long ((i3.toInt64) + (i4.toInt64))), .second, .val (.int (0 : Int32)), .val (.int (1 : Int32)), .unset, .unset]) rfl ?_
          refine w_iload X hx (dq hby d0_190) rfl ?_
          refine w_if_eq X hx (dj hby d0_192) (fun hc192 => ?_) (fun hc192 => (?_ : False).elim)
          rotate_left
          · exact absurd hc192 (by decide)
          refine w_iconst X hx (dq hby d0_205) (z := 0) rfl ?_
          refine w_istore X hx (dq hby d0_206) (z := (0 : Int32)) rfl (Ls' := #[.val (.long i0), .second, .val (.int i1), .val (.int i2), .val (.int i3), .val (.int i4), .val (.long v6_5), .second, .val (.ref b7), .val (.int v9_30), .val (.int v10_44), .val (.ref bs), .val (.int v12_66), .val (.int v13_81), .val (.long (i1.toInt64)), .second, .val (.long ((i1.toInt64) + (i2.toInt64))), .second, .val (.int (1 : Int32)), .val (.int (0 : Int32)), .val (.int (1 : Int32)), .val (.long (i3.toInt64)), .second, .val (.long ((i3.toInt64) + (i4.toInt64))), .second, .val (.int (0 : Int32)), .val (.int (1 : Int32)), .val (.int (0 : Int32)), .unset]) rfl ?_
          refine w_iload X hx (dq hby d0_208) rfl ?_
          refine w_if_eq X hx (dj hby d0_210) (fun hc210 => (?_ : False).elim) (fun hc210 => ?_)
          · exact absurd hc210 (by decide)
          refine w_iload X hx (dq hby d0_213) rfl ?_
          refine w_if_eq X hx (dj hby d0_215) (fun hc215 => ?_) (fun hc215 => (?_ : False).elim)
          rotate_left
          · exact absurd hc215 (by decide)
          refine w_iconst X hx (dq hby d0_222) (z := 1) rfl ?_
          refine w_iload X hx (dq hby d0_223) rfl ?_
          refine w_icmp_le X hx (dj hby d0_225) (fun hc225 => ?_) (fun hc225 => (?_ : False).elim)
          rotate_left
          · exact absurd hc225 (by decide)
          refine w_iconst X hx (dq hby d0_232) (z := 0) rfl ?_
          refine w_istore X hx (dq hby d0_233) (z := (0 : Int32)) rfl (Ls' := #[.val (.long i0), .second, .val (.int i1), .val (.int i2), .val (.int i3), .val (.int i4), .val (.long v6_5), .second, .val (.ref b7), .val (.int v9_30), .val (.int v10_44), .val (.ref bs), .val (.int v12_66), .val (.int v13_81), .val (.long (i1.toInt64)), .second, .val (.long ((i1.toInt64) + (i2.toInt64))), .second, .val (.int (1 : Int32)), .val (.int (0 : Int32)), .val (.int (1 : Int32)), .val (.long (i3.toInt64)), .second, .val (.long ((i3.toInt64) + (i4.toInt64))), .second, .val (.int (0 : Int32)), .val (.int (1 : Int32)), .val (.int (0 : Int32)), .val (.int (0 : Int32))]) rfl ?_
          have e1 : r1 = 1 := by rw [hr1, rw_t _ hc99]; rfl
          have e2 : r2 = 1 := by rw [hr2, rw_f _ hc114, e1]
          have e3 : r3 = 0 := by rw [hr3, rw_f _ hc165]
          have em : cb = 1 := by rw [hcb, e2]; decide
          have d_v9_30 : v9_30 = 1 := by rw [hv9_30, cnt_t hc99 (by decide)]
          have d_v10_44 : v10_44 = 0 := by rw [hv10_44, cnt_f hc114]
          have d_v12_66 : v12_66 = 0 := by rw [hv12_66, cnt_f hc165]
          have d_v13_81 : v13_81 = 0 := by rw [hv13_81, cnt_z hc180 (by rw [e3, em]; decide)]
          refine w_iload X hx (dq hby d0_235) rfl ?_
          refine w_iload X hx (dq hby d0_237) rfl ?_
          refine w_icmp_ne X hx (dj hby d0_239) (fun hc239 => (?_ : False).elim) (fun hc239 => ?_)
          · exact hc239 d_v9_30
          refine w_iload X hx (dq hby d0_242) rfl ?_
          refine w_iload X hx (dq hby d0_244) rfl ?_
          refine w_icmp_ne X hx (dj hby d0_246) (fun hc246 => (?_ : False).elim) (fun hc246 => ?_)
          · exact hc246 d_v10_44
          refine w_iload X hx (dq hby d0_249) rfl ?_
          refine w_iload X hx (dq hby d0_251) rfl ?_
          refine w_icmp_ne X hx (dj hby d0_253) (fun hc253 => (?_ : False).elim) (fun hc253 => ?_)
          · exact hc253 d_v12_66
          refine w_iload X hx (dq hby d0_256) rfl ?_
          refine w_iload X hx (dq hby d0_258) rfl ?_
          refine w_icmp_ne X hx (dj hby d0_260) (fun hc260 => (?_ : False).elim) (fun hc260 => ?_)
          · exact hc260 d_v13_81
          refine w_iconst X hx (dq hby d0_263) (z := 1) rfl ?_
          refine w_goto X hx (dj hby d0_264) ?_
          refine w_retN X hx hret (by simp) hlk (dq hby d0_268) (by decide) (by decide) ?_
          exact ⟨by simp [nar], N⟩
      · refine w_iconst X hx (dq hby d0_168) (z := 1) rfl ?_
        refine w_goto X hx (dj hby d0_169) ?_
        refine w_istore X hx (dq hby d0_173) (z := (1 : Int32)) rfl (Ls' := #[.val (.long i0), .second, .val (.int i1), .val (.int i2), .val (.int i3), .val (.int i4), .val (.long v6_5), .second, .val (.ref b7), .val (.int v9_30), .val (.int v10_44), .val (.ref bs), .val (.int v12_66), .val (.int v13_81), .val (.long (i1.toInt64)), .second, .val (.long ((i1.toInt64) + (i2.toInt64))), .second, .val (.int (1 : Int32)), .val (.int (0 : Int32)), .val (.int (1 : Int32)), .val (.long (i3.toInt64)), .second, .val (.long ((i3.toInt64) + (i4.toInt64))), .second, .val (.int (1 : Int32)), .unset, .unset, .unset]) rfl ?_
        refine w_lload X hx (dq hby d0_175) rfl ?_
        refine w_lload X hx (dq hby d0_177) rfl ?_
        refine w_lcmp_gt X hx (dq hby d0_179) (dj hby d0_180) (fun hc180 => ?_) (fun hc180 => ?_)
        · refine w_iconst X hx (dq hby d0_187) (z := 0) rfl ?_
          refine w_istore X hx (dq hby d0_188) (z := (0 : Int32)) rfl (Ls' := #[.val (.long i0), .second, .val (.int i1), .val (.int i2), .val (.int i3), .val (.int i4), .val (.long v6_5), .second, .val (.ref b7), .val (.int v9_30), .val (.int v10_44), .val (.ref bs), .val (.int v12_66), .val (.int v13_81), .val (.long (i1.toInt64)), .second, .val (.long ((i1.toInt64) + (i2.toInt64))), .second, .val (.int (1 : Int32)), .val (.int (0 : Int32)), .val (.int (1 : Int32)), .val (.long (i3.toInt64)), .second, .val (.long ((i3.toInt64) + (i4.toInt64))), .second, .val (.int (1 : Int32)), .val (.int (0 : Int32)), .unset, .unset]) rfl ?_
          refine w_iload X hx (dq hby d0_190) rfl ?_
          refine w_if_eq X hx (dj hby d0_192) (fun hc192 => (?_ : False).elim) (fun hc192 => ?_)
          · exact absurd hc192 (by decide)
          refine w_iconst X hx (dq hby d0_195) (z := 1) rfl ?_
          refine w_iload X hx (dq hby d0_196) rfl ?_
          refine w_icmp_le X hx (dj hby d0_198) (fun hc198 => ?_) (fun hc198 => (?_ : False).elim)
          rotate_left
          · exact absurd hc198 (by decide)
          refine w_iconst X hx (dq hby d0_205) (z := 0) rfl ?_
          refine w_istore X hx (dq hby d0_206) (z := (0 : Int32)) rfl (Ls' := #[.val (.long i0), .second, .val (.int i1), .val (.int i2), .val (.int i3), .val (.int i4), .val (.long v6_5), .second, .val (.ref b7), .val (.int v9_30), .val (.int v10_44), .val (.ref bs), .val (.int v12_66), .val (.int v13_81), .val (.long (i1.toInt64)), .second, .val (.long ((i1.toInt64) + (i2.toInt64))), .second, .val (.int (1 : Int32)), .val (.int (0 : Int32)), .val (.int (1 : Int32)), .val (.long (i3.toInt64)), .second, .val (.long ((i3.toInt64) + (i4.toInt64))), .second, .val (.int (1 : Int32)), .val (.int (0 : Int32)), .val (.int (0 : Int32)), .unset]) rfl ?_
          refine w_iload X hx (dq hby d0_208) rfl ?_
          refine w_if_eq X hx (dj hby d0_210) (fun hc210 => ?_) (fun hc210 => (?_ : False).elim)
          rotate_left
          · exact absurd hc210 (by decide)
          refine w_iconst X hx (dq hby d0_232) (z := 0) rfl ?_
          refine w_istore X hx (dq hby d0_233) (z := (0 : Int32)) rfl (Ls' := #[.val (.long i0), .second, .val (.int i1), .val (.int i2), .val (.int i3), .val (.int i4), .val (.long v6_5), .second, .val (.ref b7), .val (.int v9_30), .val (.int v10_44), .val (.ref bs), .val (.int v12_66), .val (.int v13_81), .val (.long (i1.toInt64)), .second, .val (.long ((i1.toInt64) + (i2.toInt64))), .second, .val (.int (1 : Int32)), .val (.int (0 : Int32)), .val (.int (1 : Int32)), .val (.long (i3.toInt64)), .second, .val (.long ((i3.toInt64) + (i4.toInt64))), .second, .val (.int (1 : Int32)), .val (.int (0 : Int32)), .val (.int (0 : Int32)), .val (.int (0 : Int32))]) rfl ?_
          have e1 : r1 = 1 := by rw [hr1, rw_t _ hc99]; rfl
          have e2 : r2 = 1 := by rw [hr2, rw_f _ hc114, e1]
          have e3 : r3 = 1 := by rw [hr3, rw_t _ hc165]; rfl
          have em : cb = 1 := by rw [hcb, e2]; decide
          have d_v9_30 : v9_30 = 1 := by rw [hv9_30, cnt_t hc99 (by decide)]
          have d_v10_44 : v10_44 = 0 := by rw [hv10_44, cnt_f hc114]
          have d_v12_66 : v12_66 = 0 := by rw [hv12_66, cnt_z hc165 (by rw [em]; decide)]
          have d_v13_81 : v13_81 = 0 := by rw [hv13_81, cnt_f hc180]
          refine w_iload X hx (dq hby d0_235) rfl ?_
          refine w_iload X hx (dq hby d0_237) rfl ?_
          refine w_icmp_ne X hx (dj hby d0_239) (fun hc239 => (?_ : False).elim) (fun hc239 => ?_)
          · exact hc239 d_v9_30
          refine w_iload X hx (dq hby d0_242) rfl ?_
          refine w_iload X hx (dq hby d0_244) rfl ?_
          refine w_icmp_ne X hx (dj hby d0_246) (fun hc246 => (?_ : False).elim) (fun hc246 => ?_)
          · exact hc246 d_v10_44
          refine w_iload X hx (dq hby d0_249) rfl ?_
          refine w_iload X hx (dq hby d0_251) rfl ?_
          refine w_icmp_ne X hx (dj hby d0_253) (fun hc253 => (?_ : False).elim) (fun hc253 => ?_)
          · exact hc253 d_v12_66
          refine w_iload X hx (dq hby d0_256) rfl ?_
          refine w_iload X hx (dq hby d0_258) rfl ?_
          refine w_icmp_ne X hx (dj hby d0_260) (fun hc260 => (?_ : False).elim) (fun hc260 => ?_)
          · exact hc260 d_v13_81
          refine w_iconst X hx (dq hby d0_263) (z := 1) rfl ?_
          refine w_goto X hx (dj hby d0_264) ?_
          refine w_retN X hx hret (by simp) hlk (dq hby d0_268) (by decide) (by decide) ?_
          exact ⟨by simp [nar], N⟩
        · refine w_iconst X hx (dq hby d0_183) (z := 1) rfl ?_
          refine w_goto X hx (dj hby d0_184) ?_
          refine w_istore X hx (dq hby d0_188) (z := (1 : Int32)) rfl (Ls' := #[.val (.long i0), .second, .val (.int i1), .val (.int i2), .val (.int i3), .val (.int i4), .val (.long v6_5), .second, .val (.ref b7), .val (.int v9_30), .val (.int v10_44), .val (.ref bs), .val (.int v12_66), .val (.int v13_81), .val (.long (i1.toInt64)), .second, .val (.long ((i1.toInt64) + (i2.toInt64))), .second, .val (.int (1 : Int32)), .val (.int (0 : Int32)), .val (.int (1 : Int32)), .val (.long (i3.toInt64)), .second, .val (.long ((i3.toInt64) + (i4.toInt64))), .second, .val (.int (1 : Int32)), .val (.int (1 : Int32)), .unset, .unset]) rfl ?_
          refine w_iload X hx (dq hby d0_190) rfl ?_
          refine w_if_eq X hx (dj hby d0_192) (fun hc192 => (?_ : False).elim) (fun hc192 => ?_)
          · exact absurd hc192 (by decide)
          refine w_iconst X hx (dq hby d0_195) (z := 1) rfl ?_
          refine w_iload X hx (dq hby d0_196) rfl ?_
          refine w_icmp_le X hx (dj hby d0_198) (fun hc198 => ?_) (fun hc198 => (?_ : False).elim)
          rotate_left
          · exact absurd hc198 (by decide)
          refine w_iconst X hx (dq hby d0_205) (z := 0) rfl ?_
          refine w_istore X hx (dq hby d0_206) (z := (0 : Int32)) rfl (Ls' := #[.val (.long i0), .second, .val (.int i1), .val (.int i2), .val (.int i3), .val (.int i4), .val (.long v6_5), .second, .val (.ref b7), .val (.int v9_30), .val (.int v10_44), .val (.ref bs), .val (.int v12_66), .val (.int v13_81), .val (.long (i1.toInt64)), .second, .val (.long ((i1.toInt64) + (i2.toInt64))), .second, .val (.int (1 : Int32)), .val (.int (0 : Int32)), .val (.int (1 : Int32)), .val (.long (i3.toInt64)), .second, .val (.long ((i3.toInt64) + (i4.toInt64))), .second, .val (.int (1 : Int32)), .val (.int (1 : Int32)), .val (.int (0 : Int32)), .unset]) rfl ?_
          refine w_iload X hx (dq hby d0_208) rfl ?_
          refine w_if_eq X hx (dj hby d0_210) (fun hc210 => (?_ : False).elim) (fun hc210 => ?_)
          · exact absurd hc210 (by decide)
          refine w_iload X hx (dq hby d0_213) rfl ?_
          refine w_if_eq X hx (dj hby d0_215) (fun hc215 => (?_ : False).elim) (fun hc215 => ?_)
          · exact absurd hc215 (by decide)
          refine w_iconst X hx (dq hby d0_218) (z := 2) rfl ?_
          refine w_goto X hx (dj hby d0_219) ?_
          refine w_iload X hx (dq hby d0_223) rfl ?_
          refine w_icmp_le X hx (dj hby d0_225) (fun hc225 => (?_ : False).elim) (fun hc225 => ?_)
          · exact absurd hc225 (by decide)
          refine w_iconst X hx (dq hby d0_228) (z := 1) rfl ?_
          refine w_goto X hx (dj hby d0_229) ?_
          refine w_istore X hx (dq hby d0_233) (z := (1 : Int32)) rfl (Ls' := #[.val (.long i0), .second, .val (.int i1), .val (.int i2), .val (.int i3), .val (.int i4), .val (.long v6_5), .second, .val (.ref b7), .val (.int v9_30), .val (.int v10_44), .val (.ref bs), .val (.int v12_66), .val (.int v13_81), .val (.long (i1.toInt64)), .second, .val (.long ((i1.toInt64) + (i2.toInt64))), .second, .val (.int (1 : Int32)), .val (.int (0 : Int32)), .val (.int (1 : Int32)), .val (.long (i3.toInt64)), .second, .val (.long ((i3.toInt64) + (i4.toInt64))), .second, .val (.int (1 : Int32)), .val (.int (1 : Int32)), .val (.int (0 : Int32)), .val (.int (1 : Int32))]) rfl ?_
          have e1 : r1 = 1 := by rw [hr1, rw_t _ hc99]; rfl
          have e2 : r2 = 1 := by rw [hr2, rw_f _ hc114, e1]
          have e3 : r3 = 1 := by rw [hr3, rw_t _ hc165]; rfl
          have em : cb = 1 := by rw [hcb, e2]; decide
          have d_v9_30 : v9_30 = 1 := by rw [hv9_30, cnt_t hc99 (by decide)]
          have d_v10_44 : v10_44 = 0 := by rw [hv10_44, cnt_f hc114]
          have d_v12_66 : v12_66 = 0 := by rw [hv12_66, cnt_z hc165 (by rw [em]; decide)]
          have d_v13_81 : v13_81 = 1 := by rw [hv13_81, cnt_t hc180 (by rw [e3, em]; decide)]
          refine w_iload X hx (dq hby d0_235) rfl ?_
          refine w_iload X hx (dq hby d0_237) rfl ?_
          refine w_icmp_ne X hx (dj hby d0_239) (fun hc239 => (?_ : False).elim) (fun hc239 => ?_)
          · exact hc239 d_v9_30
          refine w_iload X hx (dq hby d0_242) rfl ?_
          refine w_iload X hx (dq hby d0_244) rfl ?_
          refine w_icmp_ne X hx (dj hby d0_246) (fun hc246 => (?_ : False).elim) (fun hc246 => ?_)
          · exact hc246 d_v10_44
          refine w_iload X hx (dq hby d0_249) rfl ?_
          refine w_iload X hx (dq hby d0_251) rfl ?_
          refine w_icmp_ne X hx (dj hby d0_253) (fun hc253 => (?_ : False).elim) (fun hc253 => ?_)
          · exact hc253 d_v12_66
          refine w_iload X hx (dq hby d0_256) rfl ?_
          refine w_iload X hx (dq hby d0_258) rfl ?_
          refine w_icmp_ne X hx (dj hby d0_260) (fun hc260 => (?_ : False).elim) (fun hc260 => ?_)
          · exact hc260 d_v13_81
          refine w_iconst X hx (dq hby d0_263) (z := 1) rfl ?_
          refine w_goto X hx (dj hby d0_264) ?_
          refine w_retN X hx hret (by simp) hlk (dq hby d0_268) (by decide) (by decide) ?_
          exact ⟨by simp [nar], N⟩
    · refine w_iconst X hx (dq hby d0_117) (z := 1) rfl ?_
      refine w_goto X hx (dj hby d0_118) ?_
      refine w_istore X hx (dq hby d0_122) (z := (1 : Int32)) rfl (Ls' := #[.val (.long i0), .second, .val (.int i1), .val (.int i2), .val (.int i3), .val (.int i4), .val (.long v6_5), .second, .val (.ref b7), .val (.int v9_30), .val (.int v10_44), .val (.ref bs), .val (.int v12_66), .val (.int v13_81), .val (.long (i1.toInt64)), .second, .val (.long ((i1.toInt64) + (i2.toInt64))), .second, .val (.int (1 : Int32)), .val (.int (1 : Int32)), .unset, .unset, .unset, .unset, .unset, .unset, .unset, .unset, .unset]) rfl ?_
      refine w_iload X hx (dq hby d0_124) rfl ?_
      refine w_if_eq X hx (dj hby d0_126) (fun hc126 => (?_ : False).elim) (fun hc126 => ?_)
      · exact absurd hc126 (by decide)
      refine w_iconst X hx (dq hby d0_129) (z := 1) rfl ?_
      refine w_goto X hx (dj hby d0_130) ?_
      refine w_iload X hx (dq hby d0_134) rfl ?_
      refine w_if_eq X hx (dj hby d0_136) (fun hc136 => (?_ : False).elim) (fun hc136 => ?_)
      · exact absurd hc136 (by decide)
      refine w_iconst X hx (dq hby d0_139) (z := 1) rfl ?_
      refine w_goto X hx (dj hby d0_140) ?_
      refine w_iadd X hx (dq hby d0_144) ?_
      refine w_eqI (z := (2 : Int32)) (by decide) ?_
      refine w_istore X hx (dq hby d0_145) (z := (2 : Int32)) rfl (Ls' := #[.val (.long i0), .second, .val (.int i1), .val (.int i2), .val (.int i3), .val (.int i4), .val (.long v6_5), .second, .val (.ref b7), .val (.int v9_30), .val (.int v10_44), .val (.ref bs), .val (.int v12_66), .val (.int v13_81), .val (.long (i1.toInt64)), .second, .val (.long ((i1.toInt64) + (i2.toInt64))), .second, .val (.int (1 : Int32)), .val (.int (1 : Int32)), .val (.int (2 : Int32)), .unset, .unset, .unset, .unset, .unset, .unset, .unset, .unset]) rfl ?_
      refine w_iload X hx (dq hby d0_147) rfl ?_
      refine w_i2l X hx (dq hby d0_149) ?_
      refine w_lstore X hx (dq hby d0_150) (z := (i3.toInt64)) rfl (Ls' := #[.val (.long i0), .second, .val (.int i1), .val (.int i2), .val (.int i3), .val (.int i4), .val (.long v6_5), .second, .val (.ref b7), .val (.int v9_30), .val (.int v10_44), .val (.ref bs), .val (.int v12_66), .val (.int v13_81), .val (.long (i1.toInt64)), .second, .val (.long ((i1.toInt64) + (i2.toInt64))), .second, .val (.int (1 : Int32)), .val (.int (1 : Int32)), .val (.int (2 : Int32)), .val (.long (i3.toInt64)), .second, .unset, .unset, .unset, .unset, .unset, .unset]) rfl ?_
      refine w_lload X hx (dq hby d0_152) rfl ?_
      refine w_iload X hx (dq hby d0_154) rfl ?_
      refine w_i2l X hx (dq hby d0_156) ?_
      refine w_ladd X hx (dq hby d0_157) ?_
      refine w_lstore X hx (dq hby d0_158) (z := ((i3.toInt64) + (i4.toInt64))) rfl (Ls' := #[.val (.long i0), .second, .val (.int i1), .val (.int i2), .val (.int i3), .val (.int i4), .val (.long v6_5), .second, .val (.ref b7), .val (.int v9_30), .val (.int v10_44), .val (.ref bs), .val (.int v12_66), .val (.int v13_81), .val (.long (i1.toInt64)), .second, .val (.long ((i1.toInt64) + (i2.toInt64))), .second, .val (.int (1 : Int32)), .val (.int (1 : Int32)), .val (.int (2 : Int32)), .val (.long (i3.toInt64)), .second, .val (.long ((i3.toInt64) + (i4.toInt64))), .second, .unset, .unset, .unset, .unset]) rfl ?_
      refine w_lload X hx (dq hby d0_160) rfl ?_
      refine w_lload X hx (dq hby d0_162) rfl ?_
      refine w_lcmp_gt X hx (dq hby d0_164) (dj hby d0_165) (fun hc165 => ?_) (fun hc165 => ?_)
      · refine w_iconst X hx (dq hby d0_172) (z := 0) rfl ?_
        refine w_istore X hx (dq hby d0_173) (z := (0 : Int32)) rfl (Ls' := #[.val (.long i0), .second, .val (.int i1), .val (.int i2), .val (.int i3), .val (.int i4), .val (.long v6_5), .second, .val (.ref b7), .val (.int v9_30), .val (.int v10_44), .val (.ref bs), .val (.int v12_66), .val (.int v13_81), .val (.long (i1.toInt64)), .second, .val (.long ((i1.toInt64) + (i2.toInt64))), .second, .val (.int (1 : Int32)), .val (.int (1 : Int32)), .val (.int (2 : Int32)), .val (.long (i3.toInt64)), .second, .val (.long ((i3.toInt64) + (i4.toInt64))), .second, .val (.int (0 : Int32)), .unset, .unset, .unset]) rfl ?_
        refine w_lload X hx (dq hby d0_175) rfl ?_
        refine w_lload X hx (dq hby d0_177) rfl ?_
        refine w_lcmp_gt X hx (dq hby d0_179) (dj hby d0_180) (fun hc180 => ?_) (fun hc180 => ?_)
        · refine w_iconst X hx (dq hby d0_187) (z := 0) rfl ?_
          refine w_istore X hx (dq hby d0_188) (z := (0 : Int32)) rfl (Ls' := #[.val (.long i0), .second, .val (.int i1), .val (.int i2), .val (.int i3), .val (.int i4), .val (.long v6_5), .second, .val (.ref b7), .val (.int v9_30), .val (.int v10_44), .val (.ref bs), .val (.int v12_66), .val (.int v13_81), .val (.long (i1.toInt64)), .second, .val (.long ((i1.toInt64) + (i2.toInt64))), .second, .val (.int (1 : Int32)), .val (.int (1 : Int32)), .val (.int (2 : Int32)), .val (.long (i3.toInt64)), .second, .val (.long ((i3.toInt64) + (i4.toInt64))), .second, .val (.int (0 : Int32)), .val (.int (0 : Int32)), .unset, .unset]) rfl ?_
          refine w_iload X hx (dq hby d0_190) rfl ?_
          refine w_if_eq X hx (dj hby d0_192) (fun hc192 => ?_) (fun hc192 => (?_ : False).elim)
          rotate_left
          · exact absurd hc192 (by decide)
          refine w_iconst X hx (dq hby d0_205) (z := 0) rfl ?_
          refine w_istore X hx (dq hby d0_206) (z := (0 : Int32)) rfl (Ls' := #[.val (.long i0), .second, .val (.int i1), .val (.int i2), .val (.int i3), .val (.int i4), .val (.long v6_5), .second, .val (.ref b7), .val (.int v9_30), .val (.int v10_44), .val (.ref bs), .val (.int v12_66), .val (.int v13_81), .val (.long (i1.toInt64)), .second, .val (.long ((i1.toInt64) + (i2.toInt64))), .second, .val (.int (1 : Int32)), .val (.int (1 : Int32)), .val (.int (2 : Int32)), .val (.long (i3.toInt64)), .second, .val (.long ((i3.toInt64) + (i4.toInt64))), .second, .val (.int (0 : Int32)), .val (.int (0 : Int32)), .val (.int (0 : Int32)), .unset]) rfl ?_
          refine w_iload X hx (dq hby d0_208) rfl ?_
          refine w_if_eq X hx (dj hby d0_210) (fun hc210 => ?_) (fun hc210 => (?_ : False).elim)
          rotate_left
          · exact absurd hc210 (by decide)
          refine w_iconst X hx (dq hby d0_232) (z := 0) rfl ?_
          refine w_istore X hx (dq hby d0_233) (z := (0 : Int32)) rfl (Ls' := #[.val (.long i0), .second, .val (.int i1), .val (.int i2), .val (.int i3), .val (.int i4), .val (.long v6_5), .second, .val (.ref b7), .val (.int v9_30), .val (.int v10_44), .val (.ref bs), .val (.int v12_66), .val (.int v13_81), .val (.long (i1.toInt64)), .second, .val (.long ((i1.toInt64) + (i2.toInt64))), .second, .val (.int (1 : Int32)), .val (.int (1 : Int32)), .val (.int (2 : Int32)), .val (.long (i3.toInt64)), .second, .val (.long ((i3.toInt64) + (i4.toInt64))), .second, .val (.int (0 : Int32)), .val (.int (0 : Int32)), .val (.int (0 : Int32)), .val (.int (0 : Int32))]) rfl ?_
          have e1 : r1 = 1 := by rw [hr1, rw_t _ hc99]; rfl
          have e2 : r2 = 2 := by rw [hr2, rw_t _ hc114, e1]; rfl
          have e3 : r3 = 0 := by rw [hr3, rw_f _ hc165]
          have em : cb = 2 := by rw [hcb, e2]; decide
          have d_v9_30 : v9_30 = 1 := by rw [hv9_30, cnt_t hc99 (by decide)]
          have d_v10_44 : v10_44 = 1 := by rw [hv10_44, cnt_t hc114 (by rw [e1]; decide)]
          have d_v12_66 : v12_66 = 0 := by rw [hv12_66, cnt_f hc165]
          have d_v13_81 : v13_81 = 0 := by rw [hv13_81, cnt_f hc180]
          refine w_iload X hx (dq hby d0_235) rfl ?_
          refine w_iload X hx (dq hby d0_237) rfl ?_
          refine w_icmp_ne X hx (dj hby d0_239) (fun hc239 => (?_ : False).elim) (fun hc239 => ?_)
          · exact hc239 d_v9_30
          refine w_iload X hx (dq hby d0_242) rfl ?_
          refine w_iload X hx (dq hby d0_244) rfl ?_
          refine w_icmp_ne X hx (dj hby d0_246) (fun hc246 => (?_ : False).elim) (fun hc246 => ?_)
          · exact hc246 d_v10_44
          refine w_iload X hx (dq hby d0_249) rfl ?_
          refine w_iload X hx (dq hby d0_251) rfl ?_
          refine w_icmp_ne X hx (dj hby d0_253) (fun hc253 => (?_ : False).elim) (fun hc253 => ?_)
          · exact hc253 d_v12_66
          refine w_iload X hx (dq hby d0_256) rfl ?_
          refine w_iload X hx (dq hby d0_258) rfl ?_
          refine w_icmp_ne X hx (dj hby d0_260) (fun hc260 => (?_ : False).elim) (fun hc260 => ?_)
          · exact hc260 d_v13_81
          refine w_iconst X hx (dq hby d0_263) (z := 1) rfl ?_
          refine w_goto X hx (dj hby d0_264) ?_
          refine w_retN X hx hret (by simp) hlk (dq hby d0_268) (by decide) (by decide) ?_
          exact ⟨by simp [nar], N⟩
        · refine w_iconst X hx (dq hby d0_183) (z := 1) rfl ?_
          refine w_goto X hx (dj hby d0_184) ?_
          refine w_istore X hx (dq hby d0_188) (z := (1 : Int32)) rfl (Ls' := #[.val (.long i0), .second, .val (.int i1), .val (.int i2), .val (.int i3), .val (.int i4), .val (.long v6_5), .second, .val (.ref b7), .val (.int v9_30), .val (.int v10_44), .val (.ref bs), .val (.int v12_66), .val (.int v13_81), .val (.long (i1.toInt64)), .second, .val (.long ((i1.toInt64) + (i2.toInt64))), .second, .val (.int (1 : Int32)), .val (.int (1 : Int32)), .val (.int (2 : Int32)), .val (.long (i3.toInt64)), .second, .val (.long ((i3.toInt64) + (i4.toInt64))), .second, .val (.int (0 : Int32)), .val (.int (1 : Int32)), .unset, .unset]) rfl ?_
          refine w_iload X hx (dq hby d0_190) rfl ?_
          refine w_if_eq X hx (dj hby d0_192) (fun hc192 => ?_) (fun hc192 => (?_ : False).elim)
          rotate_left
          · exact absurd hc192 (by decide)
          refine w_iconst X hx (dq hby d0_205) (z := 0) rfl ?_
          refine w_istore X hx (dq hby d0_206) (z := (0 : Int32)) rfl (Ls' := #[.val (.long i0), .second, .val (.int i1), .val (.int i2), .val (.int i3), .val (.int i4), .val (.long v6_5), .second, .val (.ref b7), .val (.int v9_30), .val (.int v10_44), .val (.ref bs), .val (.int v12_66), .val (.int v13_81), .val (.long (i1.toInt64)), .second, .val (.long ((i1.toInt64) + (i2.toInt64))), .second, .val (.int (1 : Int32)), .val (.int (1 : Int32)), .val (.int (2 : Int32)), .val (.long (i3.toInt64)), .second, .val (.long ((i3.toInt64) + (i4.toInt64))), .second, .val (.int (0 : Int32)), .val (.int (1 : Int32)), .val (.int (0 : Int32)), .unset]) rfl ?_
          refine w_iload X hx (dq hby d0_208) rfl ?_
          refine w_if_eq X hx (dj hby d0_210) (fun hc210 => (?_ : False).elim) (fun hc210 => ?_)
          · exact absurd hc210 (by decide)
          refine w_iload X hx (dq hby d0_213) rfl ?_
          refine w_if_eq X hx (dj hby d0_215) (fun hc215 => ?_) (fun hc215 => (?_ : False).elim)
          rotate_left
          · exact absurd hc215 (by decide)
          refine w_iconst X hx (dq hby d0_222) (z := 1) rfl ?_
          refine w_iload X hx (dq hby d0_223) rfl ?_
          refine w_icmp_le X hx (dj hby d0_225) (fun hc225 => ?_) (fun hc225 => (?_ : False).elim)
          rotate_left
          · exact absurd hc225 (by decide)
          refine w_iconst X hx (dq hby d0_232) (z := 0) rfl ?_
          refine w_istore X hx (dq hby d0_233) (z := (0 : Int32)) rfl (Ls' := #[.val (.long i0), .second, .val (.int i1), .val (.int i2), .val (.int i3), .val (.int i4), .val (.long v6_5), .second, .val (.ref b7), .val (.int v9_30), .val (.int v10_44), .val (.ref bs), .val (.int v12_66), .val (.int v13_81), .val (.long (i1.toInt64)), .second, .val (.long ((i1.toInt64) + (i2.toInt64))), .second, .val (.int (1 : Int32)), .val (.int (1 : Int32)), .val (.int (2 : Int32)), .val (.long (i3.toInt64)), .second, .val (.long ((i3.toInt64) + (i4.toInt64))), .second, .val (.int (0 : Int32)), .val (.int (1 : Int32)), .val (.int (0 : Int32)), .val (.int (0 : Int32))]) rfl ?_
          have e1 : r1 = 1 := by rw [hr1, rw_t _ hc99]; rfl
          have e2 : r2 = 2 := by rw [hr2, rw_t _ hc114, e1]; rfl
          have e3 : r3 = 0 := by rw [hr3, rw_f _ hc165]
          have em : cb = 2 := by rw [hcb, e2]; decide
          have d_v9_30 : v9_30 = 1 := by rw [hv9_30, cnt_t hc99 (by decide)]
          have d_v10_44 : v10_44 = 1 := by rw [hv10_44, cnt_t hc114 (by rw [e1]; decide)]
          have d_v12_66 : v12_66 = 0 := by rw [hv12_66, cnt_f hc165]
          have d_v13_81 : v13_81 = 0 := by rw [hv13_81, cnt_z hc180 (by rw [e3, em]; decide)]
          refine w_iload X hx (dq hby d0_235) rfl ?_
          refine w_iload X hx (dq hby d0_237) rfl ?_
          refine w_icmp_ne X hx (dj hby d0_239) (fun hc239 => (?_ : False).elim) (fun hc239 => ?_)
          · exact hc239 d_v9_30
          refine w_iload X hx (dq hby d0_242) rfl ?_
          refine w_iload X hx (dq hby d0_244) rfl ?_
          refine w_icmp_ne X hx (dj hby d0_246) (fun hc246 => (?_ : False).elim) (fun hc246 => ?_)
          · exact hc246 d_v10_44
          refine w_iload X hx (dq hby d0_249) rfl ?_
          refine w_iload X hx (dq hby d0_251) rfl ?_
          refine w_icmp_ne X hx (dj hby d0_253) (fun hc253 => (?_ : False).elim) (fun hc253 => ?_)
          · exact hc253 d_v12_66
          refine w_iload X hx (dq hby d0_256) rfl ?_
          refine w_iload X hx (dq hby d0_258) rfl ?_
          refine w_icmp_ne X hx (dj hby d0_260) (fun hc260 => (?_ : False).elim) (fun hc260 => ?_)
          · exact hc260 d_v13_81
          refine w_iconst X hx (dq hby d0_263) (z := 1) rfl ?_
          refine w_goto X hx (dj hby d0_264) ?_
          refine w_retN X hx hret (by simp) hlk (dq hby d0_268) (by decide) (by decide) ?_
          exact ⟨by simp [nar], N⟩
      · refine w_iconst X hx (dq hby d0_168) (z := 1) rfl ?_
        refine w_goto X hx (dj hby d0_169) ?_
        refine w_istore X hx (dq hby d0_173) (z := (1 : Int32)) rfl (Ls' := #[.val (.long i0), .second, .val (.int i1), .val (.int i2), .val (.int i3), .val (.int i4), .val (.long v6_5), .second, .val (.ref b7), .val (.int v9_30), .val (.int v10_44), .val (.ref bs), .val (.int v12_66), .val (.int v13_81), .val (.long (i1.toInt64)), .second, .val (.long ((i1.toInt64) + (i2.toInt64))), .second, .val (.int (1 : Int32)), .val (.int (1 : Int32)), .val (.int (2 : Int32)), .val (.long (i3.toInt64)), .second, .val (.long ((i3.toInt64) + (i4.toInt64))), .second, .val (.int (1 : Int32)), .unset, .unset, .unset]) rfl ?_
        refine w_lload X hx (dq hby d0_175) rfl ?_
        refine w_lload X hx (dq hby d0_177) rfl ?_
        refine w_lcmp_gt X hx (dq hby d0_179) (dj hby d0_180) (fun hc180 => ?_) (fun hc180 => ?_)
        · refine w_iconst X hx (dq hby d0_187) (z := 0) rfl ?_
          refine w_istore X hx (dq hby d0_188) (z := (0 : Int32)) rfl (Ls' := #[.val (.long i0), .second, .val (.int i1), .val (.int i2), .val (.int i3), .val (.int i4), .val (.long v6_5), .second, .val (.ref b7), .val (.int v9_30), .val (.int v10_44), .val (.ref bs), .val (.int v12_66), .val (.int v13_81), .val (.long (i1.toInt64)), .second, .val (.long ((i1.toInt64) + (i2.toInt64))), .second, .val (.int (1 : Int32)), .val (.int (1 : Int32)), .val (.int (2 : Int32)), .val (.long (i3.toInt64)), .second, .val (.long ((i3.toInt64) + (i4.toInt64))), .second, .val (.int (1 : Int32)), .val (.int (0 : Int32)), .unset, .unset]) rfl ?_
          refine w_iload X hx (dq hby d0_190) rfl ?_
          refine w_if_eq X hx (dj hby d0_192) (fun hc192 => (?_ : False).elim) (fun hc192 => ?_)
          · exact absurd hc192 (by decide)
          refine w_iconst X hx (dq hby d0_195) (z := 1) rfl ?_
          refine w_iload X hx (dq hby d0_196) rfl ?_
          refine w_icmp_le X hx (dj hby d0_198) (fun hc198 => ?_) (fun hc198 => (?_ : False).elim)
          rotate_left
          · exact absurd hc198 (by decide)
          refine w_iconst X hx (dq hby d0_205) (z := 0) rfl ?_
          refine w_istore X hx (dq hby d0_206) (z := (0 : Int32)) rfl (Ls' := #[.val (.long i0), .second, .val (.int i1), .val (.int i2), .val (.int i3), .val (.int i4), .val (.long v6_5), .second, .val (.ref b7), .val (.int v9_30), .val (.int v10_44), .val (.ref bs), .val (.int v12_66), .val (.int v13_81), .val (.long (i1.toInt64)), .second, .val (.long ((i1.toInt64) + (i2.toInt64))), .second, .val (.int (1 : Int32)), .val (.int (1 : Int32)), .val (.int (2 : Int32)), .val (.long (i3.toInt64)), .second, .val (.long ((i3.toInt64) + (i4.toInt64))), .second, .val (.int (1 : Int32)), .val (.int (0 : Int32)), .val (.int (0 : Int32)), .unset]) rfl ?_
          refine w_iload X hx (dq hby d0_208) rfl ?_
          refine w_if_eq X hx (dj hby d0_210) (fun hc210 => ?_) (fun hc210 => (?_ : False).elim)
          rotate_left
          · exact absurd hc210 (by decide)
          refine w_iconst X hx (dq hby d0_232) (z := 0) rfl ?_
          refine w_istore X hx (dq hby d0_233) (z := (0 : Int32)) rfl (Ls' := #[.val (.long i0), .second, .val (.int i1), .val (.int i2), .val (.int i3), .val (.int i4), .val (.long v6_5), .second, .val (.ref b7), .val (.int v9_30), .val (.int v10_44), .val (.ref bs), .val (.int v12_66), .val (.int v13_81), .val (.long (i1.toInt64)), .second, .val (.long ((i1.toInt64) + (i2.toInt64))), .second, .val (.int (1 : Int32)), .val (.int (1 : Int32)), .val (.int (2 : Int32)), .val (.long (i3.toInt64)), .second, .val (.long ((i3.toInt64) + (i4.toInt64))), .second, .val (.int (1 : Int32)), .val (.int (0 : Int32)), .val (.int (0 : Int32)), .val (.int (0 : Int32))]) rfl ?_
          have e1 : r1 = 1 := by rw [hr1, rw_t _ hc99]; rfl
          have e2 : r2 = 2 := by rw [hr2, rw_t _ hc114, e1]; rfl
          have e3 : r3 = 1 := by rw [hr3, rw_t _ hc165]; rfl
          have em : cb = 2 := by rw [hcb, e2]; decide
          have d_v9_30 : v9_30 = 1 := by rw [hv9_30, cnt_t hc99 (by decide)]
          have d_v10_44 : v10_44 = 1 := by rw [hv10_44, cnt_t hc114 (by rw [e1]; decide)]
          have d_v12_66 : v12_66 = 0 := by rw [hv12_66, cnt_z hc165 (by rw [em]; decide)]
          have d_v13_81 : v13_81 = 0 := by rw [hv13_81, cnt_f hc180]
          refine w_iload X hx (dq hby d0_235) rfl ?_
          refine w_iload X hx (dq hby d0_237) rfl ?_
          refine w_icmp_ne X hx (dj hby d0_239) (fun hc239 => (?_ : False).elim) (fun hc239 => ?_)
          · exact hc239 d_v9_30
          refine w_iload X hx (dq hby d0_242) rfl ?_
          refine w_iload X hx (dq hby d0_244) rfl ?_
          refine w_icmp_ne X hx (dj hby d0_246) (fun hc246 => (?_ : False).elim) (fun hc246 => ?_)
          · exact hc246 d_v10_44
          refine w_iload X hx (dq hby d0_249) rfl ?_
          refine w_iload X hx (dq hby d0_251) rfl ?_
          refine w_icmp_ne X hx (dj hby d0_253) (fun hc253 => (?_ : False).elim) (fun hc253 => ?_)
          · exact hc253 d_v12_66
          refine w_iload X hx (dq hby d0_256) rfl ?_
          refine w_iload X hx (dq hby d0_258) rfl ?_
          refine w_icmp_ne X hx (dj hby d0_260) (fun hc260 => (?_ : False).elim) (fun hc260 => ?_)
          · exact hc260 d_v13_81
          refine w_iconst X hx (dq hby d0_263) (z := 1) rfl ?_
          refine w_goto X hx (dj hby d0_264) ?_
          refine w_retN X hx hret (by simp) hlk (dq hby d0_268) (by decide) (by decide) ?_
          exact ⟨by simp [nar], N⟩
        · refine w_iconst X hx (dq hby d0_183) (z := 1) rfl ?_
          refine w_goto X hx (dj hby d0_184) ?_
          refine w_istore X hx (dq hby d0_188) (z := (1 : Int32)) rfl (Ls' := #[.val (.long i0), .second, .val (.int i1), .val (.int i2), .val (.int i3), .val (.int i4), .val (.long v6_5), .second, .val (.ref b7), .val (.int v9_30), .val (.int v10_44), .val (.ref bs), .val (.int v12_66), .val (.int v13_81), .val (.long (i1.toInt64)), .second, .val (.long ((i1.toInt64) + (i2.toInt64))), .second, .val (.int (1 : Int32)), .val (.int (1 : Int32)), .val (.int (2 : Int32)), .val (.long (i3.toInt64)), .second, .val (.long ((i3.toInt64) + (i4.toInt64))), .second, .val (.int (1 : Int32)), .val (.int (1 : Int32)), .unset, .unset]) rfl ?_
          refine w_iload X hx (dq hby d0_190) rfl ?_
          refine w_if_eq X hx (dj hby d0_192) (fun hc192 => (?_ : False).elim) (fun hc192 => ?_)
          · exact absurd hc192 (by decide)
          refine w_iconst X hx (dq hby d0_195) (z := 1) rfl ?_
          refine w_iload X hx (dq hby d0_196) rfl ?_
          refine w_icmp_le X hx (dj hby d0_198) (fun hc198 => ?_) (fun hc198 => (?_ : False).elim)
          rotate_left
          · exact absurd hc198 (by decide)
          refine w_iconst X hx (dq hby d0_205) (z := 0) rfl ?_
          refine w_istore X hx (dq hby d0_206) (z := (0 : Int32)) rfl (Ls' := #[.val (.long i0), .second, .val (.int i1), .val (.int i2), .val (.int i3), .val (.int i4), .val (.long v6_5), .second, .val (.ref b7), .val (.int v9_30), .val (.int v10_44), .val (.ref bs), .val (.int v12_66), .val (.int v13_81), .val (.long (i1.toInt64)), .second, .val (.long ((i1.toInt64) + (i2.toInt64))), .second, .val (.int (1 : Int32)), .val (.int (1 : Int32)), .val (.int (2 : Int32)), .val (.long (i3.toInt64)), .second, .val (.long ((i3.toInt64) + (i4.toInt64))), .second, .val (.int (1 : Int32)), .val (.int (1 : Int32)), .val (.int (0 : Int32)), .unset]) rfl ?_
          refine w_iload X hx (dq hby d0_208) rfl ?_
          refine w_if_eq X hx (dj hby d0_210) (fun hc210 => (?_ : False).elim) (fun hc210 => ?_)
          · exact absurd hc210 (by decide)
          refine w_iload X hx (dq hby d0_213) rfl ?_
          refine w_if_eq X hx (dj hby d0_215) (fun hc215 => (?_ : False).elim) (fun hc215 => ?_)
          · exact absurd hc215 (by decide)
          refine w_iconst X hx (dq hby d0_218) (z := 2) rfl ?_
          refine w_goto X hx (dj hby d0_219) ?_
          refine w_iload X hx (dq hby d0_223) rfl ?_
          refine w_icmp_le X hx (dj hby d0_225) (fun hc225 => ?_) (fun hc225 => (?_ : False).elim)
          rotate_left
          · exact absurd hc225 (by decide)
          refine w_iconst X hx (dq hby d0_232) (z := 0) rfl ?_
          refine w_istore X hx (dq hby d0_233) (z := (0 : Int32)) rfl (Ls' := #[.val (.long i0), .second, .val (.int i1), .val (.int i2), .val (.int i3), .val (.int i4), .val (.long v6_5), .second, .val (.ref b7), .val (.int v9_30), .val (.int v10_44), .val (.ref bs), .val (.int v12_66), .val (.int v13_81), .val (.long (i1.toInt64)), .second, .val (.long ((i1.toInt64) + (i2.toInt64))), .second, .val (.int (1 : Int32)), .val (.int (1 : Int32)), .val (.int (2 : Int32)), .val (.long (i3.toInt64)), .second, .val (.long ((i3.toInt64) + (i4.toInt64))), .second, .val (.int (1 : Int32)), .val (.int (1 : Int32)), .val (.int (0 : Int32)), .val (.int (0 : Int32))]) rfl ?_
          have e1 : r1 = 1 := by rw [hr1, rw_t _ hc99]; rfl
          have e2 : r2 = 2 := by rw [hr2, rw_t _ hc114, e1]; rfl
          have e3 : r3 = 1 := by rw [hr3, rw_t _ hc165]; rfl
          have em : cb = 2 := by rw [hcb, e2]; decide
          have d_v9_30 : v9_30 = 1 := by rw [hv9_30, cnt_t hc99 (by decide)]
          have d_v10_44 : v10_44 = 1 := by rw [hv10_44, cnt_t hc114 (by rw [e1]; decide)]
          have d_v12_66 : v12_66 = 0 := by rw [hv12_66, cnt_z hc165 (by rw [em]; decide)]
          have d_v13_81 : v13_81 = 0 := by rw [hv13_81, cnt_z hc180 (by rw [e3, em]; decide)]
          refine w_iload X hx (dq hby d0_235) rfl ?_
          refine w_iload X hx (dq hby d0_237) rfl ?_
          refine w_icmp_ne X hx (dj hby d0_239) (fun hc239 => (?_ : False).elim) (fun hc239 => ?_)
          · exact hc239 d_v9_30
          refine w_iload X hx (dq hby d0_242) rfl ?_
          refine w_iload X hx (dq hby d0_244) rfl ?_
          refine w_icmp_ne X hx (dj hby d0_246) (fun hc246 => (?_ : False).elim) (fun hc246 => ?_)
          · exact hc246 d_v10_44
          refine w_iload X hx (dq hby d0_249) rfl ?_
          refine w_iload X hx (dq hby d0_251) rfl ?_
          refine w_icmp_ne X hx (dj hby d0_253) (fun hc253 => (?_ : False).elim) (fun hc253 => ?_)
          · exact hc253 d_v12_66
          refine w_iload X hx (dq hby d0_256) rfl ?_
          refine w_iload X hx (dq hby d0_258) rfl ?_
          refine w_icmp_ne X hx (dj hby d0_260) (fun hc260 => (?_ : False).elim) (fun hc260 => ?_)
          · exact hc260 d_v13_81
          refine w_iconst X hx (dq hby d0_263) (z := 1) rfl ?_
          refine w_goto X hx (dj hby d0_264) ?_
          refine w_retN X hx hret (by simp) hlk (dq hby d0_268) (by decide) (by decide) ?_
          exact ⟨by simp [nar], N⟩
set_option maxRecDepth 65536 in
set_option maxHeartbeats 40000000 in
theorem comes_1 {Post : Tables → Env → Array Value → State → Outcome → State → Prop} (hpost : ∀ tb e args s v u, (limb_1_1.after args s (.returned v) u = true ∧ limb_1_2.after args s (.returned v) u = true) → FrameEnd s (.returned v) u (Jvm.fieldLocs frame_1_writes args s ++ Jvm.arrayLocs frame_1_arrays args s ++ Jvm.staticLocs frame_1_statics s) 16 128 → Post tb e args s (.returned v) u) :
    ArmFor flags0 classFile x code maxLocals ret World_1 tables_1 room_1 Calls_1 rest_1 Pre_1 Post := by
  intro l hfl _ _ p e ha hc hk s m args below hf hA hF happ hP
  obtain ⟨hcalls, hrest, hpre⟩ := hP
  obtain ⟨-, -, -, hnamed, -, -, -, hat⟩ := (Spec.applies_iff hf).mp happ
  obtain ⟨hg, hn⟩ := and_e (Cond.before_iff.mp (show (Jvm.Cond.and given_1 narrow_1).before args s = true from hpre))
  obtain ⟨g0, k0⟩ := and_e hg
  obtain ⟨g1, k1⟩ := and_e k0
  obtain ⟨g2, k2⟩ := and_e k1
  obtain ⟨g3, k3⟩ := and_e k2
  obtain ⟨g4, k4⟩ := and_e k3
  obtain ⟨w0, w1, w2, w3, w4, rfl⟩ : ∃ w0 w1 w2 w3 w4 : Value, args = #[w0, w1, w2, w3, w4] := by
    have hs : args.size = 5 := by simpa [Cond.value, given_1] using g0
    obtain ⟨L⟩ := args
    match L, hs with
    | [w0, w1, w2, w3, w4], _ => exact ⟨w0, w1, w2, w3, w4, rfl⟩
  have hw := fun d (hd : d ∈ tables_1) => atoms_spec (ws := Jvm.Cond.code x code maxLocals ret :: tables_1) hat d (List.mem_cons_of_mem _ hd)
  obtain ⟨i0, ei0⟩ := isL_v g1
  obtain rfl : w0 = (.long i0) := Option.some.inj ei0
  obtain ⟨i1, ei1⟩ := is_v g2
  obtain rfl : w1 = (.int i1) := Option.some.inj ei1
  obtain ⟨i2, ei2⟩ := is_v g3
  obtain rfl : w2 = (.int i2) := Option.some.inj ei2
  obtain ⟨i3, ei3⟩ := is_v g4
  obtain rfl : w3 = (.int i3) := Option.some.inj ei3
  obtain ⟨i4, ei4⟩ := is_v k4
  obtain rfl : w4 = (.int i4) := Option.some.inj ei4
  obtain ⟨n, o, h1, h2, h3, _, L, rfl, ⟨rfl, N⟩, hq⟩ := rm0 l s _ hw tables_1 i0 i1 i2 i3 i4 s.heap s.heap.size (Nat.le_refl _) p e ha hc hk s m _ below hf ((Spec.applies_iff_loose hf).mp happ).1 ⟨rfl, State.Warmed39.refl s, rfl⟩ trivial
  exact ⟨n, _, h1, h2, h3, hpost _ _ _ _ _ _ ⟨Cond.after_iff.mpr rfl, Cond.after_iff.mpr (eq_i res_at (Term.int_eval (1)) rfl)⟩ ⟨hq.1, hq.2.1, hq.2.2.sift fun y hy => Or.inr (N y hy)⟩⟩
theorem main_1_1 : Claimed_1_1 := comes_1 fun _ _ _ _ _ _ h hF => ⟨h.1, hF⟩
theorem main_1_2 : Claimed_1_2 := comes_1 fun _ _ _ _ _ _ h hF => ⟨h.2, hF⟩

end Jvm.Pilot.@@N@@
namespace Jvm.Pilot.@@N@@
open Jvm Jvm.ClassFile Sem Op Lib Jvm.Free Jvm.Stand Jvm.Pilot.@@N@@.Jvm.D
/-! MADE BY PROGRAM (witnessworld.py) out of the Statement's table words and the real class files: 10 classes; the members and pool entries that the words name. The judged class is class 1, her method 1. -/
namespace start1
open Jvm.ClassFile
def u (s : String) : CpInfo := .utf8 (stringToUtf16 s)
/-- a pool by its gaps: so many unusable entries, then the entry; so many at the end -/
def gap : Nat → List CpInfo → List CpInfo
  | 0, r => r
  | n + 1, r => .unusable :: gap n r
def poolList (es : List (Nat × CpInfo)) (last : Nat) : List CpInfo := es.foldr (fun e r => gap e.1 (e.2 :: r)) (gap last [])
def pool (es : List (Nat × CpInfo)) (last : Nat) : Array CpInfo := ⟨poolList es last⟩
def fileOf (pool : Array CpInfo) (this : Nat) (attrs : Array Attribute := #[]) (ms : Array MethodInfo := #[]) (fl : Nat := 33) (sup : Nat := 0) (ifs : Array Nat := #[]) (fds : Array FieldInfo := #[]) : ClassFile where
  minorVersion := 0
  majorVersion := 65
  constantPool := pool
  accessFlags := fl
  thisClass := this
  superClass := sup
  interfaces := ifs
  fields := fds
  methods := ms
  attributes := attrs
def plain (name : String) (sup : Option ClassId) : Class where
  name := name
  kind := .ordinary
  loader := none
  accessFlags := 33
  super := sup
  interfaces := #[]
  cf := none
  fields := #[]
  methods := #[]
  instanceTypes := #[]
  staticTypes := #[]
  resolved := #[]
  callSites := []
  init := .initialized
  statics := none
  mirror := none

def pool0 : Array CpInfo := pool [(5, u "<init>"), (0, u "()V"), (1, .class_ 10), (1, u "java/lang/Object")] 113

def k0c0 : Code := { maxStack := 0, maxLocals := 1, code := object_method_1_code, exceptionTable := #[], attributes := #[] }
def k0m0 : Method := { name := "<init>", desc := "()V", sig := { parameters := [], returnType := none }, accessFlags := 1, code := some k0c0 }
/-- java/lang/Object -/
def k0 : Class := { plain "java/lang/Object" none with
  accessFlags := 33
  interfaces := #[]
  cf := some (fileOf pool0 8 #[] #[{ accessFlags := 1, nameIndex := 5, descriptorIndex := 6, attributes := #[] }] 33 0 #[] #[])
  fields := #[]
  methods := #[k0m0]
  instanceTypes := #[]
  staticTypes := #[]
  resolved := Array.replicate 124 none
  statics := none }

def pool1 : Array CpInfo := pool [(2, .class_ 4), (1, u "java/lang/Object"), (0, u "<init>"), (0, u "()V"), (2, .long 9223372036854775807), (1, .class_ 12), (0, u "com/example/tidemark/tidemark/ReadRoom"), (0, .methodref 11 14), (0, .nameAndType 5 15), (0, u "(J)V"), (0, .methodref 11 17), (0, .nameAndType 18 19), (0, u "take"), (0, u "(I)Z"), (0, .methodref 11 21), (0, .nameAndType 22 23), (0, u "countsRead"), (0, u "()Z"), (0, .methodref 11 25), (0, .nameAndType 26 27), (0, u "again"), (0, u "()Lcom/example/tidemark/tidemark/ReadRoom;"), (0, .class_ 29), (0, u "com/example/tidemark/tidemark/ReadRoomCountsReadPinLaw"), (2, u "law"), (0, u "(JIIII)Z")] 3

def k1m0 : Method := { name := "<init>", desc := "()V", sig := { parameters := [], returnType := none }, accessFlags := 1, code := none }
def k1c1 : Code := { maxStack := 4, maxLocals := 29, code := code, exceptionTable := #[], attributes := #[] }
def k1m1 : Method := { name := "law", desc := "(JIIII)Z", sig := { parameters := [.long, .int, .int, .int, .int], returnType := some .boolean }, accessFlags := 9, code := some k1c1 }
/-- com/example/tidemark/tidemark/ReadRoomCountsReadPinLaw -/
def k1 : Class := { plain "com/example/tidemark/tidemark/ReadRoomCountsReadPinLaw" (some 0) with
  accessFlags := 49
  interfaces := #[]
  cf := some (fileOf pool1 28 #[] #[{ accessFlags := 1, nameIndex := 5, descriptorIndex := 6, attributes := #[] }, { accessFlags := 9, nameIndex := 32, descriptorIndex := 33, attributes := #[] }] 49 2 #[] #[])
  fields := #[]
  methods := #[k1m0, k1m1]
  instanceTypes := #[]
  staticTypes := #[]
  resolved := Array.replicate 37 none
  statics := none }

def pool2 : Array CpInfo := pool [(1, .methodref 2 3), (0, .class_ 4), (0, .nameAndType 5 6), (0, u "com/example/tidemark/tidemark/ReadRoom"), (0, u "<init>"), (0, u "(JI)V"), (0, .methodref 8 9), (0, .class_ 10), (0, .nameAndType 5 11), (0, u "java/lang/Object"), (0, u "()V"), (0, .fieldref 2 13), (0, .nameAndType 14 15), (0, u "bytes"), (0, u "J"), (0, .fieldref 2 17), (0, .nameAndType 18 19), (0, u "countedBefore"), (0, u "I"), (6, u "(J)V"), (0, .fieldref 2 28), (0, .nameAndType 29 15), (0, u "needed"), (0, .methodref 2 31), (0, .nameAndType 32 33), (0, u "heldAll"), (0, u "()Z"), (0, .fieldref 2 35), (0, .nameAndType 36 19), (0, u "readWhole"), (0, .methodref 38 39), (0, .class_ 40), (0, .nameAndType 41 42), (0, u "java/lang/Math"), (0, u "max"), (0, u "(II)I"), (2, u "LEFT_OUT"), (0, u "[B"), (3, u "()Lcom/example/tidemark/tidemark/ReadRoom;"), (1, u "take"), (0, u "(I)Z"), (1, u "countsRead"), (0, u "again")] 3

def k2c0 : Code := { maxStack := 4, maxLocals := 3, code := prog_7_method_1_code, exceptionTable := #[], attributes := #[] }
def k2m0 : Method := { name := "<init>", desc := "(J)V", sig := { parameters := [.long], returnType := none }, accessFlags := 0, code := some k2c0 }
def k2c1 : Code := { maxStack := 3, maxLocals := 4, code := prog_7_method_2_code, exceptionTable := #[], attributes := #[] }
def k2m1 : Method := { name := "<init>", desc := "(JI)V", sig := { parameters := [.long, .int], returnType := none }, accessFlags := 2, code := some k2c1 }
def k2c2 : Code := { maxStack := 5, maxLocals := 2, code := prog_7_method_5_code, exceptionTable := #[], attributes := #[] }
def k2m2 : Method := { name := "take", desc := "(I)Z", sig := { parameters := [.int], returnType := some .boolean }, accessFlags := 0, code := some k2c2 }
def k2c3 : Code := { maxStack := 4, maxLocals := 1, code := prog_7_method_6_code, exceptionTable := #[], attributes := #[] }
def k2m3 : Method := { name := "heldAll", desc := "()Z", sig := { parameters := [], returnType := some .boolean }, accessFlags := 0, code := some k2c3 }
def k2c4 : Code := { maxStack := 3, maxLocals := 2, code := prog_7_method_8_code, exceptionTable := #[], attributes := #[] }
def k2m4 : Method := { name := "countsRead", desc := "()Z", sig := { parameters := [], returnType := some .boolean }, accessFlags := 0, code := some k2c4 }
def k2c5 : Code := { maxStack := 6, maxLocals := 1, code := prog_7_method_9_code, exceptionTable := #[], attributes := #[] }
def k2m5 : Method := { name := "again", desc := "()Lcom/example/tidemark/tidemark/ReadRoom;", sig := { parameters := [], returnType := some (.object "com/example/tidemark/tidemark/ReadRoom") }, accessFlags := 0, code := some k2c5 }
/-- com/example/tidemark/tidemark/ReadRoom -/
def k2 : Class := { plain "com/example/tidemark/tidemark/ReadRoom" (some 0) with
  accessFlags := 48
  interfaces := #[]
  cf := some (fileOf pool2 2 #[] #[{ accessFlags := 0, nameIndex := 5, descriptorIndex := 26, attributes := #[] }, { accessFlags := 2, nameIndex := 5, descriptorIndex := 6, attributes := #[] }, { accessFlags := 0, nameIndex := 52, descriptorIndex := 53, attributes := #[] }, { accessFlags := 0, nameIndex := 32, descriptorIndex := 33, attributes := #[] }, { accessFlags := 0, nameIndex := 55, descriptorIndex := 33, attributes := #[] }, { accessFlags := 0, nameIndex := 56, descriptorIndex := 50, attributes := #[] }] 48 8 #[] #[{ accessFlags := 24, nameIndex := 45, descriptorIndex := 46, attributes := #[] }, { accessFlags := 18, nameIndex := 14, descriptorIndex := 15, attributes := #[] }, { accessFlags := 18, nameIndex := 18, descriptorIndex := 19, attributes := #[] }, { accessFlags := 2, nameIndex := 29, descriptorIndex := 15, attributes := #[] }, { accessFlags := 2, nameIndex := 36, descriptorIndex := 19, attributes := #[] }])
  fields := #[{ name := "LEFT_OUT", type := (.array .byte), accessFlags := 24, slot := 0, constantValue := 0 }, { name := "bytes", type := .long, accessFlags := 18, slot := 0, constantValue := 0 }, { name := "countedBefore", type := .int, accessFlags := 18, slot := 1, constantValue := 0 }, { name := "needed", type := .long, accessFlags := 2, slot := 2, constantValue := 0 }, { name := "readWhole", type := .int, accessFlags := 2, slot := 3, constantValue := 0 }]
  methods := #[k2m0, k2m1, k2m2, k2m3, k2m4, k2m5]
  instanceTypes := #[.long, .int, .long, .int]
  staticTypes := #[(.array .byte)]
  resolved := Array.replicate 60 none
  statics := none }

def pool3 : Array CpInfo := pool [(1, .class_ 2), (0, u "java/lang/Math"), (1, .class_ 6), (1, u "java/lang/Object"), (0, u "<init>"), (0, u "()V"), (89, .class_ 100), (1, u "java/lang/Math$RandomNumberGeneratorHolder"), (71, u "negativeZeroFloatBits"), (0, u "J"), (2, u "negativeZeroDoubleBits"), (21, u "max"), (46, u "$assertionsDisabled"), (0, u "Z"), (88, u "(II)I"), (2, u "twoToTheDoubleScaleDown"), (0, u "D"), (4, u "twoToTheDoubleScaleUp"), (9, u "E"), (3, u "PI"), (2, u "TAU"), (2, u "DEGREES_TO_RADIANS"), (0, u "RADIANS_TO_DEGREES")] 94

def k3m0 : Method := { name := "<init>", desc := "()V", sig := { parameters := [], returnType := none }, accessFlags := 2, code := none }
def k3c1 : Code := { maxStack := 2, maxLocals := 2, code := jdk_29_method_65_code, exceptionTable := #[], attributes := #[] }
def k3m1 : Method := { name := "max", desc := "(II)I", sig := { parameters := [.int, .int], returnType := some .int }, accessFlags := 9, code := some k3c1 }
/-- java/lang/Math -/
def k3 : Class := { plain "java/lang/Math" (some 0) with
  accessFlags := 49
  interfaces := #[]
  cf := some (fileOf pool3 1 #[.nestMembers #[98]] #[{ accessFlags := 2, nameIndex := 7, descriptorIndex := 8, attributes := #[] }, { accessFlags := 9, nameIndex := 198, descriptorIndex := 335, attributes := #[] }] 49 4 #[] #[{ accessFlags := 25, nameIndex := 354, descriptorIndex := 339, attributes := #[] }, { accessFlags := 25, nameIndex := 358, descriptorIndex := 339, attributes := #[] }, { accessFlags := 25, nameIndex := 361, descriptorIndex := 339, attributes := #[] }, { accessFlags := 26, nameIndex := 364, descriptorIndex := 339, attributes := #[] }, { accessFlags := 26, nameIndex := 365, descriptorIndex := 339, attributes := #[] }, { accessFlags := 26, nameIndex := 172, descriptorIndex := 173, attributes := #[] }, { accessFlags := 26, nameIndex := 176, descriptorIndex := 173, attributes := #[] }, { accessFlags := 8, nameIndex := 344, descriptorIndex := 339, attributes := #[] }, { accessFlags := 8, nameIndex := 338, descriptorIndex := 339, attributes := #[] }, { accessFlags := 4120, nameIndex := 245, descriptorIndex := 246, attributes := #[] }])
  fields := #[{ name := "E", type := .double, accessFlags := 25, slot := 0, constantValue := 0 }, { name := "PI", type := .double, accessFlags := 25, slot := 1, constantValue := 0 }, { name := "TAU", type := .double, accessFlags := 25, slot := 2, constantValue := 0 }, { name := "DEGREES_TO_RADIANS", type := .double, accessFlags := 26, slot := 3, constantValue := 0 }, { name := "RADIANS_TO_DEGREES", type := .double, accessFlags := 26, slot := 4, constantValue := 0 }, { name := "negativeZeroFloatBits", type := .long, accessFlags := 26, slot := 5, constantValue := 0 }, { name := "negativeZeroDoubleBits", type := .long, accessFlags := 26, slot := 6, constantValue := 0 }, { name := "twoToTheDoubleScaleUp", type := .double, accessFlags := 8, slot := 7, constantValue := 0 }, { name := "twoToTheDoubleScaleDown", type := .double, accessFlags := 8, slot := 8, constantValue := 0 }, { name := "$assertionsDisabled", type := .boolean, accessFlags := 4120, slot := 9, constantValue := 0 }]
  methods := #[k3m0, k3m1]
  instanceTypes := #[]
  staticTypes := #[.double, .double, .double, .double, .double, .long, .long, .double, .double, .boolean]
  resolved := Array.replicate 460 none
  statics := none }

def pool4 : Array CpInfo := pool [(1, u "java/lang/Cloneable"), (0, .class_ 1), (0, u "java/lang/Object"), (0, .class_ 3)] 3

/-- java/lang/Cloneable -/
def k4 : Class := { plain "java/lang/Cloneable" (some 0) with
  accessFlags := 1537
  interfaces := #[]
  cf := some (fileOf pool4 2 #[] #[] 1537 4 #[] #[])
  fields := #[]
  methods := #[]
  instanceTypes := #[]
  staticTypes := #[]
  resolved := Array.replicate 8 none
  statics := none }

def pool5 : Array CpInfo := pool [(1, u "java/io/Serializable"), (0, .class_ 1), (0, u "java/lang/Object"), (0, .class_ 3)] 3

/-- java/io/Serializable -/
def k5 : Class := { plain "java/io/Serializable" (some 0) with
  accessFlags := 1537
  interfaces := #[]
  cf := some (fileOf pool5 2 #[] #[] 1537 4 #[] #[])
  fields := #[]
  methods := #[]
  instanceTypes := #[]
  staticTypes := #[]
  resolved := Array.replicate 8 none
  statics := none }

/-- the primitive byte -/
def k6 : Class := { plain "byte" none with kind := .primitive 'B', accessFlags := 0x411 }
/-- [B -/
def k7 : Class := { plain "[B" (some 0) with kind := .array 6 .byte, interfaces := #[4, 5], accessFlags := 1041 }

/-- the primitive int -/
def k8 : Class := { plain "int" none with kind := .primitive 'I', accessFlags := 0x411 }
/-- [I -/
def k9 : Class := { plain "[I" (some 0) with kind := .array 8 .int, interfaces := #[4, 5], accessFlags := 1041 }

def heap : Heap := #[]
def classes : Array Class := #[k0, k1, k2, k3, k4, k5, k6, k7, k8, k9]
def interned : List (Array UInt16 × Addr) := []
def slotsUsed : Nat := 0
def theMethod : MethodId := ⟨1, 1⟩
def args0 : Array Value := #[.long 5, .int 7, .int 1, .int 2, .int 3]
def aboutOver (below : List Frame) : State where
  vm := { classes := classes, interned := interned.toArray }
  heap := heap
  slotsUsed := slotsUsed
  threads := #[{ frames := .invoking theMethod args0 :: below }]
def below0 : List Frame := [.native { method := ⟨0, 0⟩, args := #[] }]
def about1 : State := aboutOver below0
def p0 : Program := .bare "" "" ""
def e0 : Env := launch0.env 0 0 0
theorem w_frames : about1.frames = Frame.invoking theMethod args0 :: below0 := rfl
set_option maxRecDepth 65536 in
theorem w_args : argsFit about1.vm theMethod args0 = true := by decide +kernel
set_option maxRecDepth 65536 in
theorem w_heap : heapFits about1 = true := by decide +kernel
set_option maxRecDepth 65536 in
theorem w_runnable : about1.curStatus? = some .runnable := by decide +kernel
set_option maxRecDepth 65536 in
theorem w_alone : about1.alone = true := by decide +kernel
set_option maxRecDepth 65536 in
theorem w_named : about1.methodNamed? x = some theMethod := by decide +kernel
set_option maxRecDepth 65536 in
theorem w_hears : about1.hears theMethod below0 = true := by decide +kernel
set_option maxRecDepth 65536 in
theorem w_ripe : about1.ripe theMethod args0 below0 = true := by decide +kernel
theorem w_running : about1.status = .running := rfl
set_option maxRecDepth 65536 in
theorem w_room : about1.hasRoom e0.platform room_1 = true :=
  launch0.hasRoom_least _ room_1 (by decide +kernel) (by decide +kernel) (by decide +kernel) (by decide +kernel) (by decide +kernel) (by decide +kernel)
theorem allAtoms_all (ts : List Jvm.Cond) (a : Array Jvm.Value) (st : Jvm.State) : (allAtoms ts).before a st = ts.all (fun c => c.before a st) := by
  induction ts with
  | nil => rfl
  | cons c t ih =>
    show (Jvm.Cond.and c (allAtoms t)).before a st = _
    rw [Jvm.Cond.before_and, ih, List.all_cons]
def words1 : List Jvm.Cond := Jvm.Cond.code x code maxLocals ret :: tables_1
/-- a 'code' word, met by the world's own term for the bytes: nothing is compared byte by byte -/
theorem code_word {y : MethodName} {bytes : ByteArray} {mx : Nat} {rt : Option FieldType} {a : Array Value} {s : State} {m : MethodId} {meth : Method} {c : Code} (h1 : s.methodNamed? y = some m) (h2 : s.vm.method? m = some meth) (h3 : meth.code = some c) (h4 : c.code = bytes)
    (h5 : (c.maxLocals == mx && c.exceptionTable.isEmpty && decide (c.maxStack ≤ mostOperands) && decide (meth.sig.returnType = rt) && !meth.locks && decide (parseMethodDescriptor y.desc = some meth.sig)) = true) : (Jvm.Cond.code y bytes mx rt).before a s = true := by
  simp only [Bool.and_eq_true, beq_iff_eq, Bool.not_eq_true', decide_eq_true_eq] at h5
  obtain ⟨⟨⟨⟨⟨g1, g2⟩, g3⟩, g4⟩, g5⟩, g6⟩ := h5
  simp [Cond.before, Cond.holds, Cond.value, h1, h2, h3, h4, g1, g2, g3, g4, g5, g6]
def isCode : Jvm.Cond → Bool
  | .code _ _ _ _ => true
  | _ => false
theorem all_split {L : List Jvm.Cond} {P : Jvm.Cond → Bool} (h1 : L.all (fun c => isCode c || P c) = true) (h2 : ∀ c ∈ L.filter isCode, P c = true) : L.all P = true := by
  refine List.all_eq_true.mpr fun c hc => ?_
  have h := List.all_eq_true.mp h1 c hc
  rcases Bool.eq_false_or_eq_true (isCode c) with hi | hi
  · exact h2 c (List.mem_filter.mpr ⟨hc, hi⟩)
  · simpa [hi] using h
set_option maxRecDepth 65536 in
theorem w_c0 : (Jvm.Cond.code x code maxLocals ret).before args0 about1 = true := code_word (m := ⟨1, 1⟩) (meth := k1m1) (c := k1c1) (by decide +kernel) rfl rfl rfl (by decide +kernel)
set_option maxRecDepth 65536 in
theorem w_c1 : (Jvm.Cond.code ({ cls := "com/example/tidemark/tidemark/ReadRoom", name := "<init>", desc := "(J)V" } : Jvm.MethodName) prog_7_method_1_code (3 : Nat) (Option.none : Option Jvm.ClassFile.FieldType)).before args0 about1 = true := code_word (m := ⟨2, 0⟩) (meth := k2m0) (c := k2c0) (by decide +kernel) rfl rfl rfl (by decide +kernel)
set_option maxRecDepth 65536 in
theorem w_c2 : (Jvm.Cond.code ({ cls := "com/example/tidemark/tidemark/ReadRoom", name := "<init>", desc := "(JI)V" } : Jvm.MethodName) prog_7_method_2_code (4 : Nat) (Option.none : Option Jvm.ClassFile.FieldType)).before args0 about1 = true := code_word (m := ⟨2, 1⟩) (meth := k2m1) (c := k2c1) (by decide +kernel) rfl rfl rfl (by decide +kernel)
set_option maxRecDepth 65536 in
theorem w_c3 : (Jvm.Cond.code ({ cls := "java/lang/Object", name := "<init>", desc := "()V" } : Jvm.MethodName) object_method_1_code (1 : Nat) (Option.none : Option Jvm.ClassFile.FieldType)).before args0 about1 = true := code_word (m := ⟨0, 0⟩) (meth := k0m0) (c := k0c0) (by decide +kernel) rfl rfl rfl (by decide +kernel)
set_option maxRecDepth 65536 in
theorem w_c4 : (Jvm.Cond.code ({ cls := "com/example/tidemark/tidemark/ReadRoom", name := "take", desc := "(I)Z" } : Jvm.MethodName) prog_7_method_5_code (2 : Nat) (Option.some Jvm.ClassFile.FieldType.boolean)).before args0 about1 = true := code_word (m := ⟨2, 2⟩) (meth := k2m2) (c := k2c2) (by decide +kernel) rfl rfl rfl (by decide +kernel)
set_option maxRecDepth 65536 in
theorem w_c5 : (Jvm.Cond.code ({ cls := "com/example/tidemark/tidemark/ReadRoom", name := "heldAll", desc := "()Z" } : Jvm.MethodName) prog_7_method_6_code (1 : Nat) (Option.some Jvm.ClassFile.FieldType.boolean)).before args0 about1 = true := code_word (m := ⟨2, 3⟩) (meth := k2m3) (c := k2c3) (by decide +kernel) rfl rfl rfl (by decide +kernel)
set_option maxRecDepth 65536 in
theorem w_c6 : (Jvm.Cond.code ({ cls := "com/example/tidemark/tidemark/ReadRoom", name := "countsRead", desc := "()Z" } : Jvm.MethodName) prog_7_method_8_code (2 : Nat) (Option.some Jvm.ClassFile.FieldType.boolean)).before args0 about1 = true := code_word (m := ⟨2, 4⟩) (meth := k2m4) (c := k2c4) (by decide +kernel) rfl rfl rfl (by decide +kernel)
set_option maxRecDepth 65536 in
theorem w_c7 : (Jvm.Cond.code ({ cls := "com/example/tidemark/tidemark/ReadRoom", name := "again", desc := "()Lcom/example/tidemark/tidemark/ReadRoom;" } : Jvm.MethodName) prog_7_method_9_code (1 : Nat) (Option.some (Jvm.ClassFile.FieldType.object "com/example/tidemark/tidemark/ReadRoom"))).before args0 about1 = true := code_word (m := ⟨2, 5⟩) (meth := k2m5) (c := k2c5) (by decide +kernel) rfl rfl rfl (by decide +kernel)
set_option maxRecDepth 65536 in
theorem w_c8 : (Jvm.Cond.code ({ cls := "java/lang/Math", name := "max", desc := "(II)I" } : Jvm.MethodName) jdk_29_method_65_code (2 : Nat) (Option.some Jvm.ClassFile.FieldType.int)).before args0 about1 = true := code_word (m := ⟨3, 1⟩) (meth := k3m1) (c := k3c1) (by decide +kernel) rfl rfl rfl (by decide +kernel)
def codes1 : List Jvm.Cond := [Jvm.Cond.code x code maxLocals ret, Jvm.Cond.code ({ cls := "com/example/tidemark/tidemark/ReadRoom", name := "<init>", desc := "(J)V" } : Jvm.MethodName) prog_7_method_1_code (3 : Nat) (Option.none : Option Jvm.ClassFile.FieldType), Jvm.Cond.code ({ cls := "com/example/tidemark/tidemark/ReadRoom", name := "<init>", desc := "(JI)V" } : Jvm.MethodName) prog_7_method_2_code (4 : Nat) (Option.none : Option Jvm.ClassFile.FieldType), Jvm.Cond.code ({ cls := "java/lang/Object", name := "<init>", desc := "()V" } : Jvm.MethodName) object_method_1_code (1 : Nat) (Option.none : Option Jvm.ClassFile.FieldType), Jvm.Cond.code ({ cls := "com/example/tidemark/tidemark/ReadRoom", name := "take", desc := "(I)Z" } : Jvm.MethodName) prog_7_method_5_code (2 : Nat) (Option.some Jvm.ClassFile.FieldType.boolean), Jvm.Cond.code ({ cls := "com/example/tidemark/tidemark/ReadRoom", name := "heldAll", desc := "()Z" } : Jvm.MethodName) prog_7_method_6_code (1 : Nat) (Option.some Jvm.ClassFile.FieldType.boolean), Jvm.Cond.code ({ cls := "com/example/tidemark/tidemark/ReadRoom", name := "countsRead", desc := "()Z" } : Jvm.MethodName) prog_7_method_8_code (2 : Nat) (Option.some Jvm.ClassFile.FieldType.boolean), Jvm.Cond.code ({ cls := "com/example/tidemark/tidemark/ReadRoom", name := "again", desc := "()Lcom/example/tidemark/tidemark/ReadRoom;" } : Jvm.MethodName) prog_7_method_9_code (1 : Nat) (Option.some (Jvm.ClassFile.FieldType.object "com/example/tidemark/tidemark/ReadRoom")), Jvm.Cond.code ({ cls := "java/lang/Math", name := "max", desc := "(II)I" } : Jvm.MethodName) jdk_29_method_65_code (2 : Nat) (Option.some Jvm.ClassFile.FieldType.int)]
set_option maxRecDepth 65536 in
theorem codes_eq : words1.filter isCode = codes1 := rfl
theorem w_codes : ∀ c ∈ words1.filter isCode, c.before args0 about1 = true := by
  rw [codes_eq]
  intro c hc
  simp only [codes1, List.mem_cons, List.not_mem_nil, or_false] at hc
  rcases hc with rfl | rfl | rfl | rfl | rfl | rfl | rfl | rfl | rfl
  · exact w_c0
  · exact w_c1
  · exact w_c2
  · exact w_c3
  · exact w_c4
  · exact w_c5
  · exact w_c6
  · exact w_c7
  · exact w_c8
set_option maxRecDepth 65536 in
theorem w_t1 : (words1.take 24).all (fun c => isCode c || c.before args0 about1) = true := by decide +kernel
set_option maxRecDepth 65536 in
theorem w_t2 : (words1.drop 24).all (fun c => isCode c || c.before args0 about1) = true := by decide +kernel
theorem w_tables : (allAtoms (Jvm.Cond.code x code maxLocals ret :: tables_1)).before args0 about1 = true := by
  rw [allAtoms_all]
  show words1.all (fun c => c.before args0 about1) = true
  refine all_split ?_ w_codes
  rw [← List.take_append_drop 24 words1, List.all_append, w_t1, w_t2]
  rfl
set_option maxRecDepth 65536 in
theorem w_case : (Jvm.Cond.and given_1 narrow_1).before args0 about1 = true := by decide +kernel
theorem w_applies : (headSpec (Jvm.Cond.code x code maxLocals ret :: tables_1) room_1).applies x e0.platform about1 = true :=
  (Spec.applies_iff w_frames).mpr ⟨w_running, w_runnable, w_alone, w_named, w_hears, w_ripe, w_room, w_tables⟩
theorem atStart : AtStart classFile x code maxLocals ret World_1 tables_1 room_1 Calls_1 rest_1 Pre_1 launch0 p0 e0 about1 theMethod args0 below0 :=
  ⟨lists_1, trivial, launch0.admits_env _ _ _, launch0.least_env, fairChoices_fair.cas, fairChoices_fair.clock, w_frames, w_args, w_heap, w_applies, trivial, trivial, w_case⟩
end start1
theorem witness_1 : WitnessClaimed_1 := ⟨start1.p0, start1.e0, start1.about1, start1.theMethod, start1.args0, start1.below0, start1.atStart⟩
end Jvm.Pilot.@@N@@
