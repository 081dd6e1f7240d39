import JvmDerived
import JvmDerived.Pilot.@@N@@Statement
import JvmDerived.Pilot.@@N@@Code
set_option linter.unusedVariables false
set_option linter.unusedSimpArgs false
@@BLOCK:NumsL.lean.txt@@
namespace Jvm.Pilot.@@N@@
open Jvm Jvm.ClassFile Sem Op Lib Jvm.Free Jvm.Stand Jvm.LawKit Jvm.RoadKit Bundle Jvm.Pilot.@@N@@.Jvm.D
section Kit
variable {p : Program} {l : Launch} {e : Env} {R : Room} {s : State} {m : MethodId} {args : Array Value} {below : List Frame} {meth : Method} {c : Code} {T : State} {locs : List Loc} {cells slots : Nat} {Z : State} {a0 : Array Value} {h : Heap}
variable {Q : Option Value → Heap → List Loc → Prop} {C S : Nat} {pc pc' : Nat} {Ls Ls' : Array Slot} {rest : List Value}
variable {FE : State → Outcome → State → List Loc → Nat → Nat → Prop}
/-- the goal of a walk: from the state σ the run comes to its end, which is as Q says -/
def Go (FE : State → Outcome → State → List Loc → Nat → Nat → Prop) (p : Program) (e : Env) (below : List Frame) (s : State) (Q : Option Value → Heap → List Loc → Prop) (C S : Nat) (σ : State) : Prop :=
  ∃ s₂ o, Steps p.tables e below σ s₂ ∧ s₂.status = .running ∧ Ended s₂ below o ∧ ∃ v L, o = .returned v ∧ Q v s₂.heap L ∧ FE s o s₂ L C S
theorem Go.step {σ τ : State} (st : ∀ t, Steps p.tables e below τ t → Steps p.tables e below σ t) (k : Go FE p e below s Q C S τ) : Go FE p e below s Q C S σ := by
  obtain ⟨s₂, o, h1, h2⟩ := k
  exact ⟨s₂, o, st _ h1, h2⟩
theorem Go.mono {Q' : Option Value → Heap → List Loc → Prop} {σ : State} (k : Go FE p e below s Q C S σ) (hq : ∀ v h L, Q v h L → Q' v h L) : Go FE p e below s Q' C S σ := by
  obtain ⟨s₂, o, h1, h2, h3, v, L, h4, h5, h6⟩ := k
  exact ⟨s₂, o, h1, h2, h3, v, L, h4, hq _ _ _ h5, h6⟩
/-- a join: the road behind it is walked once -/
theorem w_j1 {A0 : Type} {σ : State} (F : A0 → State) (P : A0 → Prop) (hJ : ∀ a0, P a0 → Go FE p e below s Q C S (F a0)) (hB : (∀ a0, P a0 → Go FE p e below s Q C S (F a0)) → Go FE p e below s Q C S σ) : Go FE p e below s Q C S σ := hB hJ
theorem w_j2 {A0 A1 : Type} {σ : State} (F : A0 → A1 → State) (P : A0 → A1 → Prop) (hJ : ∀ a0 a1, P a0 a1 → Go FE p e below s Q C S (F a0 a1)) (hB : (∀ a0 a1, P a0 a1 → Go FE p e below s Q C S (F a0 a1)) → Go FE p e below s Q C S σ) : Go FE p e below s Q C S σ := hB hJ
theorem w_j3 {A0 A1 A2 : Type} {σ : State} (F : A0 → A1 → A2 → State) (P : A0 → A1 → A2 → Prop) (hJ : ∀ a0 a1 a2, P a0 a1 a2 → Go FE p e below s Q C S (F a0 a1 a2)) (hB : (∀ a0 a1 a2, P a0 a1 a2 → Go FE p e below s Q C S (F a0 a1 a2)) → Go FE p e below s Q C S σ) : Go FE p e below s Q C S σ := hB hJ
theorem w_j4 {A0 A1 A2 A3 : Type} {σ : State} (F : A0 → A1 → A2 → A3 → State) (P : A0 → A1 → A2 → A3 → Prop) (hJ : ∀ a0 a1 a2 a3, P a0 a1 a2 a3 → Go FE p e below s Q C S (F a0 a1 a2 a3)) (hB : (∀ a0 a1 a2 a3, P a0 a1 a2 a3 → Go FE p e below s Q C S (F a0 a1 a2 a3)) → Go FE p e below s Q C S σ) : Go FE p e below s Q C S σ := hB hJ
theorem w_j5 {A0 A1 A2 A3 A4 : Type} {σ : State} (F : A0 → A1 → A2 → A3 → A4 → State) (P : A0 → A1 → A2 → A3 → A4 → Prop) (hJ : ∀ a0 a1 a2 a3 a4, P a0 a1 a2 a3 a4 → Go FE p e below s Q C S (F a0 a1 a2 a3 a4)) (hB : (∀ a0 a1 a2 a3 a4, P a0 a1 a2 a3 a4 → Go FE p e below s Q C S (F a0 a1 a2 a3 a4)) → Go FE p e below s Q C S σ) : Go FE p e below s Q C S σ := hB hJ
theorem w_j6 {A0 A1 A2 A3 A4 A5 : Type} {σ : State} (F : A0 → A1 → A2 → A3 → A4 → A5 → State) (P : A0 → A1 → A2 → A3 → A4 → A5 → Prop) (hJ : ∀ a0 a1 a2 a3 a4 a5, P a0 a1 a2 a3 a4 a5 → Go FE p e below s Q C S (F a0 a1 a2 a3 a4 a5)) (hB : (∀ a0 a1 a2 a3 a4 a5, P a0 a1 a2 a3 a4 a5 → Go FE p e below s Q C S (F a0 a1 a2 a3 a4 a5)) → Go FE p e below s Q C S σ) : Go FE p e below s Q C S σ := hB hJ
theorem w_j7 {A0 A1 A2 A3 A4 A5 A6 : Type} {σ : State} (F : A0 → A1 → A2 → A3 → A4 → A5 → A6 → State) (P : A0 → A1 → A2 → A3 → A4 → A5 → A6 → Prop) (hJ : ∀ a0 a1 a2 a3 a4 a5 a6, P a0 a1 a2 a3 a4 a5 a6 → Go FE p e below s Q C S (F a0 a1 a2 a3 a4 a5 a6)) (hB : (∀ a0 a1 a2 a3 a4 a5 a6, P a0 a1 a2 a3 a4 a5 a6 → Go FE p e below s Q C S (F a0 a1 a2 a3 a4 a5 a6)) → Go FE p e below s Q C S σ) : Go FE p e below s Q C S σ := hB hJ
theorem w_j8 {A0 A1 A2 A3 A4 A5 A6 A7 : Type} {σ : State} (F : A0 → A1 → A2 → A3 → A4 → A5 → A6 → A7 → State) (P : A0 → A1 → A2 → A3 → A4 → A5 → A6 → A7 → Prop) (hJ : ∀ a0 a1 a2 a3 a4 a5 a6 a7, P a0 a1 a2 a3 a4 a5 a6 a7 → Go FE p e below s Q C S (F a0 a1 a2 a3 a4 a5 a6 a7)) (hB : (∀ a0 a1 a2 a3 a4 a5 a6 a7, P a0 a1 a2 a3 a4 a5 a6 a7 → Go FE p e below s Q C S (F a0 a1 a2 a3 a4 a5 a6 a7)) → Go FE p e below s Q C S σ) : Go FE p e below s Q C S σ := hB hJ
theorem w_j9 {A0 A1 A2 A3 A4 A5 A6 A7 A8 : Type} {σ : State} (F : A0 → A1 → A2 → A3 → A4 → A5 → A6 → A7 → A8 → State) (P : A0 → A1 → A2 → A3 → A4 → A5 → A6 → A7 → A8 → Prop) (hJ : ∀ a0 a1 a2 a3 a4 a5 a6 a7 a8, P a0 a1 a2 a3 a4 a5 a6 a7 a8 → Go FE p e below s Q C S (F a0 a1 a2 a3 a4 a5 a6 a7 a8)) (hB : (∀ a0 a1 a2 a3 a4 a5 a6 a7 a8, P a0 a1 a2 a3 a4 a5 a6 a7 a8 → Go FE p e below s Q C S (F a0 a1 a2 a3 a4 a5 a6 a7 a8)) → Go FE p e below s Q C S σ) : Go FE p e below s Q C S σ := hB hJ
theorem w_j10 {A0 A1 A2 A3 A4 A5 A6 A7 A8 A9 : Type} {σ : State} (F : A0 → A1 → A2 → A3 → A4 → A5 → A6 → A7 → A8 → A9 → State) (P : A0 → A1 → A2 → A3 → A4 → A5 → A6 → A7 → A8 → A9 → Prop) (hJ : ∀ a0 a1 a2 a3 a4 a5 a6 a7 a8 a9, P a0 a1 a2 a3 a4 a5 a6 a7 a8 a9 → Go FE p e below s Q C S (F a0 a1 a2 a3 a4 a5 a6 a7 a8 a9)) (hB : (∀ a0 a1 a2 a3 a4 a5 a6 a7 a8 a9, P a0 a1 a2 a3 a4 a5 a6 a7 a8 a9 → Go FE p e below s Q C S (F a0 a1 a2 a3 a4 a5 a6 a7 a8 a9)) → Go FE p e below s Q C S σ) : Go FE p e below s Q C S σ := hB hJ
theorem w_eqI {x z : Int32} (hz : x = z) (k : Go FE p e below s Q C S (T.setTop (mkF m pc Ls (.int z :: rest)))) : Go FE p e below s Q C S (T.setTop (mkF m pc Ls (.int x :: rest))) := hz ▸ k
theorem w_eqJ {x z : Int64} (hz : x = z) (k : Go FE p e below s Q C S (T.setTop (mkF m pc Ls (.long z :: rest)))) : Go FE p e below s Q C S (T.setTop (mkF m pc Ls (.long x :: rest))) := hz ▸ k
def Dc (code : ByteArray) (pc : Nat) (i : Instr) (n pc' : Nat) : Prop := decode code pc = .ok (i, n) ∧ pc + n = pc'
def Dj (code : ByteArray) (pc : Nat) (i : Instr) (o : Int) (pcT pcF : Nat) : Prop := decode code pc = .ok (i, 3) ∧ 0 ≤ (pc : Int) + o ∧ ((pc : Int) + o).toNat = pcT ∧ pc + 3 = pcF
theorem dq {code : ByteArray} {i : Instr} {n : Nat} (hq : c.code = code) (d : Dc code pc i n pc') : Dc c.code pc i n pc' := hq ▸ d
theorem dj {code : ByteArray} {i : Instr} {o : Int} {pcT pcF : Nat} (hq : c.code = code) (d : Dj code pc i o pcT pcF) : Dj c.code pc i o pcT pcF := hq ▸ d
abbrev St (p : Program) (l : Launch) (e : Env) (R : Room) (s : State) (m : MethodId) (args : Array Value) (below : List Frame) (meth : Method) (c : Code) (T : State) (locs : List Loc) (cells slots : Nat) : Prop := Stand p l e R s m args below meth c T locs cells slots
/-! loads, stores, constants -/
theorem w_iload (X : Stand p l e R s m args below meth c T locs cells slots) (hx : p.tables.exec = Jvm.exec) {n : Nat} {z : Int32} (hd : Dc c.code pc (.iload n) 2 pc') (hl : Ls[n]? = some (.val (.int z))) (k : Go FE p e below s Q C S (T.setTop (mkF m pc' Ls (.int z :: rest)))) : Go FE p e below s Q C S (T.setTop (mkF m pc Ls (rest))) := by
  obtain ⟨hd, rfl⟩ := hd; exact k.step fun _ t => XS.iload X.here hx rfl hd hl t
theorem w_iloadN (X : Stand p l e R s m args below meth c T locs cells slots) (hx : p.tables.exec = Jvm.exec) {n : Fin 4} {z : Int32} (hd : Dc c.code pc (.iload_n n) 1 pc') (hl : Ls[n.val]? = some (.val (.int z))) (k : Go FE p e below s Q C S (T.setTop (mkF m pc' Ls (.int z :: rest)))) : Go FE p e below s Q C S (T.setTop (mkF m pc Ls (rest))) := by
  obtain ⟨hd, rfl⟩ := hd; exact k.step fun _ t => XS.iloadN X.here hx rfl hd hl t
theorem w_istore (X : Stand p l e R s m args below meth c T locs cells slots) (hx : p.tables.exec = Jvm.exec) {n : Nat} {x z : Int32} (hd : Dc c.code pc (.istore n) 2 pc') (hz : z = x) (hs : storeLocals Ls n (.int z) = some Ls') (k : Go FE p e below s Q C S (T.setTop (mkF m pc' Ls' (rest)))) : Go FE p e below s Q C S (T.setTop (mkF m pc Ls (.int x :: rest))) := by
  obtain ⟨hd, rfl⟩ := hd; subst hz; exact k.step fun _ t => XS.istore X.here hx rfl hd rfl hs t
theorem w_istoreN (X : Stand p l e R s m args below meth c T locs cells slots) (hx : p.tables.exec = Jvm.exec) {n : Fin 4} {x z : Int32} (hd : Dc c.code pc (.istore_n n) 1 pc') (hz : z = x) (hs : storeLocals Ls n.val (.int z) = some Ls') (k : Go FE p e below s Q C S (T.setTop (mkF m pc' Ls' (rest)))) : Go FE p e below s Q C S (T.setTop (mkF m pc Ls (.int x :: rest))) := by
  obtain ⟨hd, rfl⟩ := hd; subst hz; exact k.step fun _ t => XS.istoreN X.here hx rfl hd rfl hs t
theorem w_lload (X : Stand p l e R s m args below meth c T locs cells slots) (hx : p.tables.exec = Jvm.exec) {n : Nat} {z : Int64} (hd : Dc c.code pc (.lload n) 2 pc') (hl : Ls[n]? = some (.val (.long z))) (k : Go FE p e below s Q C S (T.setTop (mkF m pc' Ls (.long z :: rest)))) : Go FE p e below s Q C S (T.setTop (mkF m pc Ls (rest))) := by
  obtain ⟨hd, rfl⟩ := hd; exact k.step fun _ t => XS.lload X.here hx rfl hd hl t
theorem w_lloadN (X : Stand p l e R s m args below meth c T locs cells slots) (hx : p.tables.exec = Jvm.exec) {n : Fin 4} {z : Int64} (hd : Dc c.code pc (.lload_n n) 1 pc') (hl : Ls[n.val]? = some (.val (.long z))) (k : Go FE p e below s Q C S (T.setTop (mkF m pc' Ls (.long z :: rest)))) : Go FE p e below s Q C S (T.setTop (mkF m pc Ls (rest))) := by
  obtain ⟨hd, rfl⟩ := hd; exact k.step fun _ t => XS.lloadN X.here hx rfl hd hl t
theorem w_lstore (X : Stand p l e R s m args below meth c T locs cells slots) (hx : p.tables.exec = Jvm.exec) {n : Nat} {x z : Int64} (hd : Dc c.code pc (.lstore n) 2 pc') (hz : z = x) (hs : storeLocals Ls n (.long z) = some Ls') (k : Go FE p e below s Q C S (T.setTop (mkF m pc' Ls' (rest)))) : Go FE p e below s Q C S (T.setTop (mkF m pc Ls (.long x :: rest))) := by
  obtain ⟨hd, rfl⟩ := hd; subst hz; exact k.step fun _ t => XS.lstore X.here hx rfl hd rfl hs t
theorem w_lstoreN (X : Stand p l e R s m args below meth c T locs cells slots) (hx : p.tables.exec = Jvm.exec) {n : Fin 4} {x z : Int64} (hd : Dc c.code pc (.lstore_n n) 1 pc') (hz : z = x) (hs : storeLocals Ls n.val (.long z) = some Ls') (k : Go FE p e below s Q C S (T.setTop (mkF m pc' Ls' (rest)))) : Go FE p e below s Q C S (T.setTop (mkF m pc Ls (.long x :: rest))) := by
  obtain ⟨hd, rfl⟩ := hd; subst hz; exact k.step fun _ t => XS.lstoreN X.here hx rfl hd rfl hs t
theorem w_aload (X : Stand p l e R s m args below meth c T locs cells slots) (hx : p.tables.exec = Jvm.exec) {n : Nat} {v : Value} (hd : Dc c.code pc (.aload n) 2 pc') (hl : Ls[n]? = some (.val v)) (hv : v.isRef = true) (k : Go FE p e below s Q C S (T.setTop (mkF m pc' Ls (v :: rest)))) : Go FE p e below s Q C S (T.setTop (mkF m pc Ls (rest))) := by
  obtain ⟨hd, rfl⟩ := hd; exact k.step fun _ t => XS.aload X.here hx rfl hd hl hv t
theorem w_aloadN (X : Stand p l e R s m args below meth c T locs cells slots) (hx : p.tables.exec = Jvm.exec) {n : Fin 4} {v : Value} (hd : Dc c.code pc (.aload_n n) 1 pc') (hl : Ls[n.val]? = some (.val v)) (hv : v.isRef = true) (k : Go FE p e below s Q C S (T.setTop (mkF m pc' Ls (v :: rest)))) : Go FE p e below s Q C S (T.setTop (mkF m pc Ls (rest))) := by
  obtain ⟨hd, rfl⟩ := hd; exact k.step fun _ t => XS.aloadN X.here hx rfl hd hl hv t
theorem w_astore (X : Stand p l e R s m args below meth c T locs cells slots) (hx : p.tables.exec = Jvm.exec) {n : Nat} {v : Value} (hd : Dc c.code pc (.astore n) 2 pc') (hv : v.isRef = true) (hs : storeLocals Ls n v = some Ls') (k : Go FE p e below s Q C S (T.setTop (mkF m pc' Ls' (rest)))) : Go FE p e below s Q C S (T.setTop (mkF m pc Ls (v :: rest))) := by
  obtain ⟨hd, rfl⟩ := hd; exact k.step fun _ t => XS.astore X.here hx rfl hd rfl hv hs t
theorem w_astoreN (X : Stand p l e R s m args below meth c T locs cells slots) (hx : p.tables.exec = Jvm.exec) {n : Fin 4} {v : Value} (hd : Dc c.code pc (.astore_n n) 1 pc') (hv : v.isRef = true) (hs : storeLocals Ls n.val v = some Ls') (k : Go FE p e below s Q C S (T.setTop (mkF m pc' Ls' (rest)))) : Go FE p e below s Q C S (T.setTop (mkF m pc Ls (v :: rest))) := by
  obtain ⟨hd, rfl⟩ := hd; exact k.step fun _ t => XS.astoreN X.here hx rfl hd rfl hv hs t
theorem w_iconst (X : Stand p l e R s m args below meth c T locs cells slots) (hx : p.tables.exec = Jvm.exec) {i : Int} {z : Int32} (hd : Dc c.code pc (.iconst i) 1 pc') (hz : Int32.ofInt i = z) (k : Go FE p e below s Q C S (T.setTop (mkF m pc' Ls (.int z :: rest)))) : Go FE p e below s Q C S (T.setTop (mkF m pc Ls rest)) := by
  obtain ⟨hd, rfl⟩ := hd; subst hz; exact k.step fun _ t => XS.iconst X.here hx rfl hd t
theorem w_bipush (X : Stand p l e R s m args below meth c T locs cells slots) (hx : p.tables.exec = Jvm.exec) {i : Int} {z : Int32} (hd : Dc c.code pc (.bipush i) 2 pc') (hz : (Int8.ofInt i).toInt32 = z) (k : Go FE p e below s Q C S (T.setTop (mkF m pc' Ls (.int z :: rest)))) : Go FE p e below s Q C S (T.setTop (mkF m pc Ls rest)) := by
  obtain ⟨hd, rfl⟩ := hd; subst hz; exact k.step fun _ t => XS.bipush X.here hx rfl hd t
theorem w_sipush (X : Stand p l e R s m args below meth c T locs cells slots) (hx : p.tables.exec = Jvm.exec) {i : Int} {z : Int32} (hd : Dc c.code pc (.sipush i) 3 pc') (hz : (Int16.ofInt i).toInt32 = z) (k : Go FE p e below s Q C S (T.setTop (mkF m pc' Ls (.int z :: rest)))) : Go FE p e below s Q C S (T.setTop (mkF m pc Ls rest)) := by
  obtain ⟨hd, rfl⟩ := hd; subst hz; exact k.step fun _ t => XS.sipush X.here hx rfl hd t
theorem w_lconst (X : Stand p l e R s m args below meth c T locs cells slots) (hx : p.tables.exec = Jvm.exec) {i : Fin 2} {z : Int64} (hd : Dc c.code pc (.lconst i) 1 pc') (hz : Int64.ofNat i = z) (k : Go FE p e below s Q C S (T.setTop (mkF m pc' Ls (.long z :: rest)))) : Go FE p e below s Q C S (T.setTop (mkF m pc Ls rest)) := by
  obtain ⟨hd, rfl⟩ := hd; subst hz; exact k.step fun _ t => XS.lconst X.here hx rfl hd t
theorem w_null (X : Stand p l e R s m args below meth c T locs cells slots) (hx : p.tables.exec = Jvm.exec) (hd : Dc c.code pc .aconst_null 1 pc') (k : Go FE p e below s Q C S (T.setTop (mkF m pc' Ls (.null :: rest)))) : Go FE p e below s Q C S (T.setTop (mkF m pc Ls rest)) := by
  obtain ⟨hd, rfl⟩ := hd; exact k.step fun _ t => XS.aconstNull X.here hx rfl hd t
theorem w_ldc (X : Stand p l e R s m args below meth c T locs cells slots) (hx : p.tables.exec = Jvm.exec) (hZ : Z.Warmed39 s.vm) {own : String} {index : Nat} {z : Int32} (hown : s.vm.findClass own = some m.cls) (w : (Jvm.Cond.constant own index z).before a0 Z = true) (hd : Dc c.code pc (.ldc index) 2 pc') (k : Go FE p e below s Q C S (T.setTop (mkF m pc' Ls (.int z :: rest)))) : Go FE p e below s Q C S (T.setTop (mkF m pc Ls rest)) := by
  obtain ⟨hd, rfl⟩ := hd; exact k.step fun t q => X.ldcInt hx hown (mvT hZ w) (g := mkF m pc Ls rest) rfl hd t q
theorem w_ldcw (X : Stand p l e R s m args below meth c T locs cells slots) (hx : p.tables.exec = Jvm.exec) (hZ : Z.Warmed39 s.vm) {own : String} {index : Nat} {z : Int32} (hown : s.vm.findClass own = some m.cls) (w : (Jvm.Cond.constant own index z).before a0 Z = true) (hd : Dc c.code pc (.ldc_w index) 3 pc') (k : Go FE p e below s Q C S (T.setTop (mkF m pc' Ls (.int z :: rest)))) : Go FE p e below s Q C S (T.setTop (mkF m pc Ls rest)) := by
  obtain ⟨hd, rfl⟩ := hd; exact k.step fun t q => X.ldcwInt hx hown (mvT hZ w) (g := mkF m pc Ls rest) rfl hd t q
theorem w_ldc2 (X : Stand p l e R s m args below meth c T locs cells slots) (hx : p.tables.exec = Jvm.exec) (hZ : Z.Warmed39 s.vm) {own : String} {index : Nat} {z : Int64} (hown : s.vm.findClass own = some m.cls) (w : (Jvm.Cond.constantLong own index z).before a0 Z = true) (hd : Dc c.code pc (.ldc2_w index) 3 pc') (k : Go FE p e below s Q C S (T.setTop (mkF m pc' Ls (.long z :: rest)))) : Go FE p e below s Q C S (T.setTop (mkF m pc Ls rest)) := by
  obtain ⟨hd, rfl⟩ := hd; exact k.step fun t q => X.ldc2Long hx hown (mvT hZ w) (g := mkF m pc Ls rest) rfl hd t q
theorem w_iinc (X : Stand p l e R s m args below meth c T locs cells slots) (hx : p.tables.exec = Jvm.exec) {n : Nat} {i : Int} {x z : Int32} (hd : Dc c.code pc (.iinc n i) 3 pc') (hl : Ls[n]? = some (.val (.int x))) (hz : x + Int32.ofInt i = z) (hs : storeLocals Ls n (.int z) = some Ls') (k : Go FE p e below s Q C S (T.setTop (mkF m pc' Ls' rest))) : Go FE p e below s Q C S (T.setTop (mkF m pc Ls rest)) := by
  obtain ⟨hd, rfl⟩ := hd; subst hz; exact k.step fun _ t => XS.iinc X.here hx rfl hd hl hs t
/-! arithmetic -/
def IShl (x y : Int32) : Int32 := x <<< (y &&& 31)
def IShr (x y : Int32) : Int32 := x >>> (y &&& 31)
def IUshr (x y : Int32) : Int32 := (x.toUInt32 >>> (y &&& 31).toUInt32).toInt32
def LShl (x : Int64) (y : Int32) : Int64 := x <<< (y &&& 0x3f).toInt64
def LShr (x : Int64) (y : Int32) : Int64 := x >>> (y &&& 0x3f).toInt64
def LUshr (x : Int64) (y : Int32) : Int64 := (x.toUInt64 >>> (y &&& 0x3f).toInt64.toUInt64).toInt64
theorem w_iadd (X : Stand p l e R s m args below meth c T locs cells slots) (hx : p.tables.exec = Jvm.exec) {x y : Int32} (hd : Dc c.code pc .iadd 1 pc') (k : Go FE p e below s Q C S (T.setTop (mkF m pc' Ls (.int (x + y) :: rest)))) : Go FE p e below s Q C S (T.setTop (mkF m pc Ls (.int y :: .int x :: rest))) := by
  obtain ⟨hd, rfl⟩ := hd; exact k.step fun _ t => XS.iadd X.here hx rfl hd rfl t
theorem w_isub (X : Stand p l e R s m args below meth c T locs cells slots) (hx : p.tables.exec = Jvm.exec) {x y : Int32} (hd : Dc c.code pc .isub 1 pc') (k : Go FE p e below s Q C S (T.setTop (mkF m pc' Ls (.int (x - y) :: rest)))) : Go FE p e below s Q C S (T.setTop (mkF m pc Ls (.int y :: .int x :: rest))) := by
  obtain ⟨hd, rfl⟩ := hd; exact k.step fun _ t => XS.isub X.here hx rfl hd rfl t
theorem w_imul (X : Stand p l e R s m args below meth c T locs cells slots) (hx : p.tables.exec = Jvm.exec) {x y : Int32} (hd : Dc c.code pc .imul 1 pc') (k : Go FE p e below s Q C S (T.setTop (mkF m pc' Ls (.int (x * y) :: rest)))) : Go FE p e below s Q C S (T.setTop (mkF m pc Ls (.int y :: .int x :: rest))) := by
  obtain ⟨hd, rfl⟩ := hd; exact k.step fun _ t => XS.imul X.here hx rfl hd rfl t
theorem w_iand (X : Stand p l e R s m args below meth c T locs cells slots) (hx : p.tables.exec = Jvm.exec) {x y : Int32} (hd : Dc c.code pc .iand 1 pc') (k : Go FE p e below s Q C S (T.setTop (mkF m pc' Ls (.int (x &&& y) :: rest)))) : Go FE p e below s Q C S (T.setTop (mkF m pc Ls (.int y :: .int x :: rest))) := by
  obtain ⟨hd, rfl⟩ := hd; exact k.step fun _ t => XS.iand X.here hx rfl hd rfl t
theorem w_ior (X : Stand p l e R s m args below meth c T locs cells slots) (hx : p.tables.exec = Jvm.exec) {x y : Int32} (hd : Dc c.code pc .ior 1 pc') (k : Go FE p e below s Q C S (T.setTop (mkF m pc' Ls (.int (x ||| y) :: rest)))) : Go FE p e below s Q C S (T.setTop (mkF m pc Ls (.int y :: .int x :: rest))) := by
  obtain ⟨hd, rfl⟩ := hd; exact k.step fun _ t => XS.ior X.here hx rfl hd rfl t
theorem w_ixor (X : Stand p l e R s m args below meth c T locs cells slots) (hx : p.tables.exec = Jvm.exec) {x y : Int32} (hd : Dc c.code pc .ixor 1 pc') (k : Go FE p e below s Q C S (T.setTop (mkF m pc' Ls (.int (x ^^^ y) :: rest)))) : Go FE p e below s Q C S (T.setTop (mkF m pc Ls (.int y :: .int x :: rest))) := by
  obtain ⟨hd, rfl⟩ := hd; exact k.step fun _ t => XS.ixor X.here hx rfl hd rfl t
theorem w_ishl (X : Stand p l e R s m args below meth c T locs cells slots) (hx : p.tables.exec = Jvm.exec) {x : Int32} {y : Int32} (hd : Dc c.code pc .ishl 1 pc') (k : Go FE p e below s Q C S (T.setTop (mkF m pc' Ls (.int (IShl x y) :: rest)))) : Go FE p e below s Q C S (T.setTop (mkF m pc Ls (.int y :: .int x :: rest))) := by
  obtain ⟨hd, rfl⟩ := hd; exact k.step fun _ t => XS.ishl X.here hx rfl hd rfl t
theorem w_ishr (X : Stand p l e R s m args below meth c T locs cells slots) (hx : p.tables.exec = Jvm.exec) {x : Int32} {y : Int32} (hd : Dc c.code pc .ishr 1 pc') (k : Go FE p e below s Q C S (T.setTop (mkF m pc' Ls (.int (IShr x y) :: rest)))) : Go FE p e below s Q C S (T.setTop (mkF m pc Ls (.int y :: .int x :: rest))) := by
  obtain ⟨hd, rfl⟩ := hd; exact k.step fun _ t => XS.ishr X.here hx rfl hd rfl t
theorem w_iushr (X : Stand p l e R s m args below meth c T locs cells slots) (hx : p.tables.exec = Jvm.exec) {x : Int32} {y : Int32} (hd : Dc c.code pc .iushr 1 pc') (k : Go FE p e below s Q C S (T.setTop (mkF m pc' Ls (.int (IUshr x y) :: rest)))) : Go FE p e below s Q C S (T.setTop (mkF m pc Ls (.int y :: .int x :: rest))) := by
  obtain ⟨hd, rfl⟩ := hd; exact k.step fun _ t => XS.iushr X.here hx rfl hd rfl t
theorem w_ladd (X : Stand p l e R s m args below meth c T locs cells slots) (hx : p.tables.exec = Jvm.exec) {x y : Int64} (hd : Dc c.code pc .ladd 1 pc') (k : Go FE p e below s Q C S (T.setTop (mkF m pc' Ls (.long (x + y) :: rest)))) : Go FE p e below s Q C S (T.setTop (mkF m pc Ls (.long y :: .long x :: rest))) := by
  obtain ⟨hd, rfl⟩ := hd; exact k.step fun _ t => XS.ladd X.here hx rfl hd rfl t
theorem w_lsub (X : Stand p l e R s m args below meth c T locs cells slots) (hx : p.tables.exec = Jvm.exec) {x y : Int64} (hd : Dc c.code pc .lsub 1 pc') (k : Go FE p e below s Q C S (T.setTop (mkF m pc' Ls (.long (x - y) :: rest)))) : Go FE p e below s Q C S (T.setTop (mkF m pc Ls (.long y :: .long x :: rest))) := by
  obtain ⟨hd, rfl⟩ := hd; exact k.step fun _ t => XS.lsub X.here hx rfl hd rfl t
theorem w_lmul (X : Stand p l e R s m args below meth c T locs cells slots) (hx : p.tables.exec = Jvm.exec) {x y : Int64} (hd : Dc c.code pc .lmul 1 pc') (k : Go FE p e below s Q C S (T.setTop (mkF m pc' Ls (.long (x * y) :: rest)))) : Go FE p e below s Q C S (T.setTop (mkF m pc Ls (.long y :: .long x :: rest))) := by
  obtain ⟨hd, rfl⟩ := hd; exact k.step fun _ t => XS.lmul X.here hx rfl hd rfl t
theorem w_land (X : Stand p l e R s m args below meth c T locs cells slots) (hx : p.tables.exec = Jvm.exec) {x y : Int64} (hd : Dc c.code pc .land 1 pc') (k : Go FE p e below s Q C S (T.setTop (mkF m pc' Ls (.long (x &&& y) :: rest)))) : Go FE p e below s Q C S (T.setTop (mkF m pc Ls (.long y :: .long x :: rest))) := by
  obtain ⟨hd, rfl⟩ := hd; exact k.step fun _ t => XS.land X.here hx rfl hd rfl t
theorem w_lor (X : Stand p l e R s m args below meth c T locs cells slots) (hx : p.tables.exec = Jvm.exec) {x y : Int64} (hd : Dc c.code pc .lor 1 pc') (k : Go FE p e below s Q C S (T.setTop (mkF m pc' Ls (.long (x ||| y) :: rest)))) : Go FE p e below s Q C S (T.setTop (mkF m pc Ls (.long y :: .long x :: rest))) := by
  obtain ⟨hd, rfl⟩ := hd; exact k.step fun _ t => XS.lor X.here hx rfl hd rfl t
theorem w_lxor (X : Stand p l e R s m args below meth c T locs cells slots) (hx : p.tables.exec = Jvm.exec) {x y : Int64} (hd : Dc c.code pc .lxor 1 pc') (k : Go FE p e below s Q C S (T.setTop (mkF m pc' Ls (.long (x ^^^ y) :: rest)))) : Go FE p e below s Q C S (T.setTop (mkF m pc Ls (.long y :: .long x :: rest))) := by
  obtain ⟨hd, rfl⟩ := hd; exact k.step fun _ t => XS.lxor X.here hx rfl hd rfl t
theorem w_lshl (X : Stand p l e R s m args below meth c T locs cells slots) (hx : p.tables.exec = Jvm.exec) {x : Int64} {y : Int32} (hd : Dc c.code pc .lshl 1 pc') (k : Go FE p e below s Q C S (T.setTop (mkF m pc' Ls (.long (LShl x y) :: rest)))) : Go FE p e below s Q C S (T.setTop (mkF m pc Ls (.int y :: .long x :: rest))) := by
  obtain ⟨hd, rfl⟩ := hd; exact k.step fun _ t => XS.lshl X.here hx rfl hd rfl t
theorem w_lshr (X : Stand p l e R s m args below meth c T locs cells slots) (hx : p.tables.exec = Jvm.exec) {x : Int64} {y : Int32} (hd : Dc c.code pc .lshr 1 pc') (k : Go FE p e below s Q C S (T.setTop (mkF m pc' Ls (.long (LShr x y) :: rest)))) : Go FE p e below s Q C S (T.setTop (mkF m pc Ls (.int y :: .long x :: rest))) := by
  obtain ⟨hd, rfl⟩ := hd; exact k.step fun _ t => XS.lshr X.here hx rfl hd rfl t
theorem w_lushr (X : Stand p l e R s m args below meth c T locs cells slots) (hx : p.tables.exec = Jvm.exec) {x : Int64} {y : Int32} (hd : Dc c.code pc .lushr 1 pc') (k : Go FE p e below s Q C S (T.setTop (mkF m pc' Ls (.long (LUshr x y) :: rest)))) : Go FE p e below s Q C S (T.setTop (mkF m pc Ls (.int y :: .long x :: rest))) := by
  obtain ⟨hd, rfl⟩ := hd; exact k.step fun _ t => XS.lushr X.here hx rfl hd rfl t
theorem w_ineg (X : Stand p l e R s m args below meth c T locs cells slots) (hx : p.tables.exec = Jvm.exec) {x : Int32} (hd : Dc c.code pc .ineg 1 pc') (k : Go FE p e below s Q C S (T.setTop (mkF m pc' Ls (.int (-x) :: rest)))) : Go FE p e below s Q C S (T.setTop (mkF m pc Ls (.int x :: rest))) := by
  obtain ⟨hd, rfl⟩ := hd; exact k.step fun _ t => XS.ineg X.here hx rfl hd rfl t
theorem w_lneg (X : Stand p l e R s m args below meth c T locs cells slots) (hx : p.tables.exec = Jvm.exec) {x : Int64} (hd : Dc c.code pc .lneg 1 pc') (k : Go FE p e below s Q C S (T.setTop (mkF m pc' Ls (.long (-x) :: rest)))) : Go FE p e below s Q C S (T.setTop (mkF m pc Ls (.long x :: rest))) := by
  obtain ⟨hd, rfl⟩ := hd; exact k.step fun _ t => XS.lneg X.here hx rfl hd rfl t
theorem w_i2l (X : Stand p l e R s m args below meth c T locs cells slots) (hx : p.tables.exec = Jvm.exec) {x : Int32} (hd : Dc c.code pc .i2l 1 pc') (k : Go FE p e below s Q C S (T.setTop (mkF m pc' Ls (.long (x.toInt64) :: rest)))) : Go FE p e below s Q C S (T.setTop (mkF m pc Ls (.int x :: rest))) := by
  obtain ⟨hd, rfl⟩ := hd; exact k.step fun _ t => XS.i2l X.here hx rfl hd rfl t
theorem w_l2i (X : Stand p l e R s m args below meth c T locs cells slots) (hx : p.tables.exec = Jvm.exec) {x : Int64} (hd : Dc c.code pc .l2i 1 pc') (k : Go FE p e below s Q C S (T.setTop (mkF m pc' Ls (.int (x.toInt32) :: rest)))) : Go FE p e below s Q C S (T.setTop (mkF m pc Ls (.long x :: rest))) := by
  obtain ⟨hd, rfl⟩ := hd; exact k.step fun _ t => XS.l2i X.here hx rfl hd rfl t
theorem w_i2b (X : Stand p l e R s m args below meth c T locs cells slots) (hx : p.tables.exec = Jvm.exec) {x : Int32} (hd : Dc c.code pc .i2b 1 pc') (k : Go FE p e below s Q C S (T.setTop (mkF m pc' Ls (.int (x.toInt8.toInt32) :: rest)))) : Go FE p e below s Q C S (T.setTop (mkF m pc Ls (.int x :: rest))) := by
  obtain ⟨hd, rfl⟩ := hd; exact k.step fun _ t => XS.i2b X.here hx rfl hd rfl t
theorem w_i2c (X : Stand p l e R s m args below meth c T locs cells slots) (hx : p.tables.exec = Jvm.exec) {x : Int32} (hd : Dc c.code pc .i2c 1 pc') (k : Go FE p e below s Q C S (T.setTop (mkF m pc' Ls (.int (x.toUInt32.toUInt16.toUInt32.toInt32) :: rest)))) : Go FE p e below s Q C S (T.setTop (mkF m pc Ls (.int x :: rest))) := by
  obtain ⟨hd, rfl⟩ := hd; exact k.step fun _ t => XS.i2c X.here hx rfl hd rfl t
theorem w_i2s (X : Stand p l e R s m args below meth c T locs cells slots) (hx : p.tables.exec = Jvm.exec) {x : Int32} (hd : Dc c.code pc .i2s 1 pc') (k : Go FE p e below s Q C S (T.setTop (mkF m pc' Ls (.int (x.toInt16.toInt32) :: rest)))) : Go FE p e below s Q C S (T.setTop (mkF m pc Ls (.int x :: rest))) := by
  obtain ⟨hd, rfl⟩ := hd; exact k.step fun _ t => XS.i2s X.here hx rfl hd rfl t
theorem w_idiv (X : Stand p l e R s m args below meth c T locs cells slots) (hx : p.tables.exec = Jvm.exec) {x y : Int32} (hd : Dc c.code pc .idiv 1 pc') (hy : y ≠ 0) (k : Go FE p e below s Q C S (T.setTop (mkF m pc' Ls (.int (x / y) :: rest)))) : Go FE p e below s Q C S (T.setTop (mkF m pc Ls (.int y :: .int x :: rest))) := by
  obtain ⟨hd, rfl⟩ := hd; exact k.step fun _ t => XS.idiv X.here hx rfl hd rfl hy t
theorem w_irem (X : Stand p l e R s m args below meth c T locs cells slots) (hx : p.tables.exec = Jvm.exec) {x y : Int32} (hd : Dc c.code pc .irem 1 pc') (hy : y ≠ 0) (k : Go FE p e below s Q C S (T.setTop (mkF m pc' Ls (.int (x % y) :: rest)))) : Go FE p e below s Q C S (T.setTop (mkF m pc Ls (.int y :: .int x :: rest))) := by
  obtain ⟨hd, rfl⟩ := hd; exact k.step fun _ t => iremM X hx rfl hd rfl hy t
theorem w_ldiv (X : Stand p l e R s m args below meth c T locs cells slots) (hx : p.tables.exec = Jvm.exec) {x y : Int64} (hd : Dc c.code pc .ldiv 1 pc') (hy : y ≠ 0) (k : Go FE p e below s Q C S (T.setTop (mkF m pc' Ls (.long (x / y) :: rest)))) : Go FE p e below s Q C S (T.setTop (mkF m pc Ls (.long y :: .long x :: rest))) := by
  obtain ⟨hd, rfl⟩ := hd; exact k.step fun _ t => XS.ldiv X.here hx rfl hd rfl hy t
theorem w_dup (X : Stand p l e R s m args below meth c T locs cells slots) (hx : p.tables.exec = Jvm.exec) {v : Value} (hd : Dc c.code pc .dup 1 pc') (hc : v.category = 1) (k : Go FE p e below s Q C S (T.setTop (mkF m pc' Ls (v :: v :: rest)))) : Go FE p e below s Q C S (T.setTop (mkF m pc Ls (v :: rest))) := by
  obtain ⟨hd, rfl⟩ := hd; exact k.step fun _ t => XS.dup X.here hx rfl hd rfl hc t
theorem w_dupx1 (X : Stand p l e R s m args below meth c T locs cells slots) (hx : p.tables.exec = Jvm.exec) {v w : Value} (hd : Dc c.code pc .dup_x1 1 pc') (hc : v.category = 1) (hc' : w.category = 1) (k : Go FE p e below s Q C S (T.setTop (mkF m pc' Ls (v :: w :: v :: rest)))) : Go FE p e below s Q C S (T.setTop (mkF m pc Ls (v :: w :: rest))) := by
  obtain ⟨hd, rfl⟩ := hd; exact k.step fun _ t => XS.dupX1 X.here hx rfl hd rfl hc hc' t
theorem w_dup2 (X : Stand p l e R s m args below meth c T locs cells slots) (hx : p.tables.exec = Jvm.exec) {v w : Value} (hd : Dc c.code pc .dup2 1 pc') (hc : v.category = 1) (hc' : w.category = 1) (k : Go FE p e below s Q C S (T.setTop (mkF m pc' Ls (v :: w :: v :: w :: rest)))) : Go FE p e below s Q C S (T.setTop (mkF m pc Ls (v :: w :: rest))) := by
  obtain ⟨hd, rfl⟩ := hd; exact k.step fun _ t => XT.dup2 X.here hx rfl hd rfl hc hc' t
theorem w_dup2L (X : Stand p l e R s m args below meth c T locs cells slots) (hx : p.tables.exec = Jvm.exec) {x : Int64} (hd : Dc c.code pc .dup2 1 pc') (k : Go FE p e below s Q C S (T.setTop (mkF m pc' Ls (.long x :: .long x :: rest)))) : Go FE p e below s Q C S (T.setTop (mkF m pc Ls (.long x :: rest))) := by
  obtain ⟨hd, rfl⟩ := hd; exact k.step fun _ t => XT.dup2L X.here hx rfl hd rfl t
theorem w_pop (X : Stand p l e R s m args below meth c T locs cells slots) (hx : p.tables.exec = Jvm.exec) {v : Value} (hd : Dc c.code pc .pop 1 pc') (hc : v.category = 1) (k : Go FE p e below s Q C S (T.setTop (mkF m pc' Ls rest))) : Go FE p e below s Q C S (T.setTop (mkF m pc Ls (v :: rest))) := by
  obtain ⟨hd, rfl⟩ := hd; exact k.step fun _ t => XS.pop X.here hx rfl hd rfl hc t
/-! branches -/
theorem w_goto (X : Stand p l e R s m args below meth c T locs cells slots) (hx : p.tables.exec = Jvm.exec) {o : Int} {pcT pcF : Nat} (hd : Dj c.code pc (.goto o) o pcT pcF) (k : Go FE p e below s Q C S (T.setTop (mkF m pcT Ls rest))) : Go FE p e below s Q C S (T.setTop (mkF m pc Ls rest)) := by
  obtain ⟨hd, ho, rfl, -⟩ := hd; exact k.step fun _ t => XS.goto X.here hx rfl rfl hd ho rfl t
theorem w_icmp_eq (X : Stand p l e R s m args below meth c T locs cells slots) (hx : p.tables.exec = Jvm.exec) {o : Int} {x y : Int32} {pcT pcF : Nat} (hd : Dj c.code pc (.if_icmp .eq o) o pcT pcF) (kt : x = y → Go FE p e below s Q C S (T.setTop (mkF m pcT Ls (rest)))) (kf : x ≠ y → Go FE p e below s Q C S (T.setTop (mkF m pcF Ls (rest)))) : Go FE p e below s Q C S (T.setTop (mkF m pc Ls (.int y :: .int x :: rest))) := by
  obtain ⟨hd, ho, rfl, rfl⟩ := hd
  by_cases hb : x = y
  · exact (kt hb).step fun _ t => XS.icmpYes X.here hx rfl rfl hd rfl (teq hb).1 ho rfl t
  · exact (kf hb).step fun _ t => XS.icmpNo X.here hx rfl hd rfl (feq hb).1 t
theorem w_if_eq (X : Stand p l e R s m args below meth c T locs cells slots) (hx : p.tables.exec = Jvm.exec) {o : Int} {x : Int32} {pcT pcF : Nat} (hd : Dj c.code pc (.ifCond .eq o) o pcT pcF) (kt : x = 0 → Go FE p e below s Q C S (T.setTop (mkF m pcT Ls (rest)))) (kf : x ≠ 0 → Go FE p e below s Q C S (T.setTop (mkF m pcF Ls (rest)))) : Go FE p e below s Q C S (T.setTop (mkF m pc Ls (.int x :: rest))) := by
  obtain ⟨hd, ho, rfl, rfl⟩ := hd
  have e0 : (0 : Int32).toInt = 0 := rfl
  by_cases hb : x = (0 : Int32)
  · exact (kt hb).step fun _ t => XS.ifYes X.here hx rfl rfl hd rfl ((if0 _ _).trans (teq hb).1) ho rfl t
  · exact (kf hb).step fun _ t => XS.ifNo X.here hx rfl hd rfl ((if0 _ _).trans (feq hb).1) t
theorem w_lcmp_eq (X : Stand p l e R s m args below meth c T locs cells slots) (hx : p.tables.exec = Jvm.exec) {o : Int} {x y : Int64} {pc1 pcT pcF : Nat} (hd1 : Dc c.code pc .lcmp 1 pc1) (hd : Dj c.code pc1 (.ifCond .eq o) o pcT pcF) (kt : x = y → Go FE p e below s Q C S (T.setTop (mkF m pcT Ls (rest)))) (kf : x ≠ y → Go FE p e below s Q C S (T.setTop (mkF m pcF Ls (rest)))) : Go FE p e below s Q C S (T.setTop (mkF m pc Ls (.long y :: .long x :: rest))) := by
  obtain ⟨hd1, rfl⟩ := hd1
  refine Go.step (fun _ t => XS.lcmp X.here hx rfl hd1 rfl t) ?_
  exact w_if_eq X hx hd (fun q => kt ((lw_eq x y).mp q)) (fun q => kf (fun r => q ((lw_eq x y).mpr r)))
theorem w_icmp_ne (X : Stand p l e R s m args below meth c T locs cells slots) (hx : p.tables.exec = Jvm.exec) {o : Int} {x y : Int32} {pcT pcF : Nat} (hd : Dj c.code pc (.if_icmp .ne o) o pcT pcF) (kt : x ≠ y → Go FE p e below s Q C S (T.setTop (mkF m pcT Ls (rest)))) (kf : x = y → Go FE p e below s Q C S (T.setTop (mkF m pcF Ls (rest)))) : Go FE p e below s Q C S (T.setTop (mkF m pc Ls (.int y :: .int x :: rest))) := by
  obtain ⟨hd, ho, rfl, rfl⟩ := hd
  by_cases hb : x = y
  · exact (kf hb).step fun _ t => XS.icmpNo X.here hx rfl hd rfl (teq hb).2 t
  · exact (kt hb).step fun _ t => XS.icmpYes X.here hx rfl rfl hd rfl (feq hb).2 ho rfl t
theorem w_if_ne (X : Stand p l e R s m args below meth c T locs cells slots) (hx : p.tables.exec = Jvm.exec) {o : Int} {x : Int32} {pcT pcF : Nat} (hd : Dj c.code pc (.ifCond .ne o) o pcT pcF) (kt : x ≠ 0 → Go FE p e below s Q C S (T.setTop (mkF m pcT Ls (rest)))) (kf : x = 0 → Go FE p e below s Q C S (T.setTop (mkF m pcF Ls (rest)))) : Go FE p e below s Q C S (T.setTop (mkF m pc Ls (.int x :: rest))) := by
  obtain ⟨hd, ho, rfl, rfl⟩ := hd
  have e0 : (0 : Int32).toInt = 0 := rfl
  by_cases hb : x = (0 : Int32)
  · exact (kf hb).step fun _ t => XS.ifNo X.here hx rfl hd rfl ((if0 _ _).trans (teq hb).2) t
  · exact (kt hb).step fun _ t => XS.ifYes X.here hx rfl rfl hd rfl ((if0 _ _).trans (feq hb).2) ho rfl t
theorem w_lcmp_ne (X : Stand p l e R s m args below meth c T locs cells slots) (hx : p.tables.exec = Jvm.exec) {o : Int} {x y : Int64} {pc1 pcT pcF : Nat} (hd1 : Dc c.code pc .lcmp 1 pc1) (hd : Dj c.code pc1 (.ifCond .ne o) o pcT pcF) (kt : x ≠ y → Go FE p e below s Q C S (T.setTop (mkF m pcT Ls (rest)))) (kf : x = y → Go FE p e below s Q C S (T.setTop (mkF m pcF Ls (rest)))) : Go FE p e below s Q C S (T.setTop (mkF m pc Ls (.long y :: .long x :: rest))) := by
  obtain ⟨hd1, rfl⟩ := hd1
  refine Go.step (fun _ t => XS.lcmp X.here hx rfl hd1 rfl t) ?_
  exact w_if_ne X hx hd (fun q => kt (fun r => q ((lw_eq x y).mpr r))) (fun q => kf ((lw_eq x y).mp q))
theorem w_icmp_lt (X : Stand p l e R s m args below meth c T locs cells slots) (hx : p.tables.exec = Jvm.exec) {o : Int} {x y : Int32} {pcT pcF : Nat} (hd : Dj c.code pc (.if_icmp .lt o) o pcT pcF) (kt : x.toInt < y.toInt → Go FE p e below s Q C S (T.setTop (mkF m pcT Ls (rest)))) (kf : y.toInt ≤ x.toInt → Go FE p e below s Q C S (T.setTop (mkF m pcF Ls (rest)))) : Go FE p e below s Q C S (T.setTop (mkF m pc Ls (.int y :: .int x :: rest))) := by
  obtain ⟨hd, ho, rfl, rfl⟩ := hd
  by_cases hb : x < y
  · exact (kt (Int32.lt_iff_toInt_lt.mp hb)).step fun _ t => XS.icmpYes X.here hx rfl rfl hd rfl (tlt hb).1 ho rfl t
  · exact (kf (by rw [Int32.lt_iff_toInt_lt] at hb; omega)).step fun _ t => XS.icmpNo X.here hx rfl hd rfl (flt hb).1 t
theorem w_if_lt (X : Stand p l e R s m args below meth c T locs cells slots) (hx : p.tables.exec = Jvm.exec) {o : Int} {x : Int32} {pcT pcF : Nat} (hd : Dj c.code pc (.ifCond .lt o) o pcT pcF) (kt : x.toInt < 0 → Go FE p e below s Q C S (T.setTop (mkF m pcT Ls (rest)))) (kf : 0 ≤ x.toInt → Go FE p e below s Q C S (T.setTop (mkF m pcF Ls (rest)))) : Go FE p e below s Q C S (T.setTop (mkF m pc Ls (.int x :: rest))) := by
  obtain ⟨hd, ho, rfl, rfl⟩ := hd
  have e0 : (0 : Int32).toInt = 0 := rfl
  by_cases hb : x < (0 : Int32)
  · exact (kt (by rw [Int32.lt_iff_toInt_lt] at hb; omega)).step fun _ t => XS.ifYes X.here hx rfl rfl hd rfl ((if0 _ _).trans (tlt hb).1) ho rfl t
  · exact (kf (by rw [Int32.lt_iff_toInt_lt] at hb; omega)).step fun _ t => XS.ifNo X.here hx rfl hd rfl ((if0 _ _).trans (flt hb).1) t
theorem w_lcmp_lt (X : Stand p l e R s m args below meth c T locs cells slots) (hx : p.tables.exec = Jvm.exec) {o : Int} {x y : Int64} {pc1 pcT pcF : Nat} (hd1 : Dc c.code pc .lcmp 1 pc1) (hd : Dj c.code pc1 (.ifCond .lt o) o pcT pcF) (kt : x.toInt < y.toInt → Go FE p e below s Q C S (T.setTop (mkF m pcT Ls (rest)))) (kf : y.toInt ≤ x.toInt → Go FE p e below s Q C S (T.setTop (mkF m pcF Ls (rest)))) : Go FE p e below s Q C S (T.setTop (mkF m pc Ls (.long y :: .long x :: rest))) := by
  obtain ⟨hd1, rfl⟩ := hd1
  have e0 : (0 : Int32).toInt = 0 := rfl
  have L : (lcmpW x y).toInt < 0 → x.toInt < y.toInt := fun q => by have := (lw_lt x y).mp (by rw [Int32.lt_iff_toInt_lt]; omega); rwa [Int64.lt_iff_toInt_lt] at this
  have N : 0 ≤ (lcmpW x y).toInt → y.toInt ≤ x.toInt := fun q => by
    have h1 : ¬ x < y := fun r => by have := (lw_lt x y).mpr r; rw [Int32.lt_iff_toInt_lt] at this; omega
    rw [Int64.lt_iff_toInt_lt] at h1; omega
  have M : 0 < (lcmpW x y).toInt → y.toInt < x.toInt := fun q => by have := (lw_gt x y).mp (by rw [Int32.lt_iff_toInt_lt]; omega); rwa [Int64.lt_iff_toInt_lt] at this
  have P : (lcmpW x y).toInt ≤ 0 → x.toInt ≤ y.toInt := fun q => by
    have h1 : ¬ y < x := fun r => by have := (lw_gt x y).mpr r; rw [Int32.lt_iff_toInt_lt] at this; omega
    rw [Int64.lt_iff_toInt_lt] at h1; omega
  refine Go.step (fun _ t => XS.lcmp X.here hx rfl hd1 rfl t) ?_
  exact w_if_lt X hx hd (fun q => kt (L q)) (fun q => kf (N q))
theorem w_icmp_ge (X : Stand p l e R s m args below meth c T locs cells slots) (hx : p.tables.exec = Jvm.exec) {o : Int} {x y : Int32} {pcT pcF : Nat} (hd : Dj c.code pc (.if_icmp .ge o) o pcT pcF) (kt : y.toInt ≤ x.toInt → Go FE p e below s Q C S (T.setTop (mkF m pcT Ls (rest)))) (kf : x.toInt < y.toInt → Go FE p e below s Q C S (T.setTop (mkF m pcF Ls (rest)))) : Go FE p e below s Q C S (T.setTop (mkF m pc Ls (.int y :: .int x :: rest))) := by
  obtain ⟨hd, ho, rfl, rfl⟩ := hd
  by_cases hb : x < y
  · exact (kf (Int32.lt_iff_toInt_lt.mp hb)).step fun _ t => XS.icmpNo X.here hx rfl hd rfl (tlt hb).2.1 t
  · exact (kt (by rw [Int32.lt_iff_toInt_lt] at hb; omega)).step fun _ t => XS.icmpYes X.here hx rfl rfl hd rfl (flt hb).2.1 ho rfl t
theorem w_if_ge (X : Stand p l e R s m args below meth c T locs cells slots) (hx : p.tables.exec = Jvm.exec) {o : Int} {x : Int32} {pcT pcF : Nat} (hd : Dj c.code pc (.ifCond .ge o) o pcT pcF) (kt : 0 ≤ x.toInt → Go FE p e below s Q C S (T.setTop (mkF m pcT Ls (rest)))) (kf : x.toInt < 0 → Go FE p e below s Q C S (T.setTop (mkF m pcF Ls (rest)))) : Go FE p e below s Q C S (T.setTop (mkF m pc Ls (.int x :: rest))) := by
  obtain ⟨hd, ho, rfl, rfl⟩ := hd
  have e0 : (0 : Int32).toInt = 0 := rfl
  by_cases hb : x < (0 : Int32)
  · exact (kf (by rw [Int32.lt_iff_toInt_lt] at hb; omega)).step fun _ t => XS.ifNo X.here hx rfl hd rfl ((if0 _ _).trans (tlt hb).2.1) t
  · exact (kt (by rw [Int32.lt_iff_toInt_lt] at hb; omega)).step fun _ t => XS.ifYes X.here hx rfl rfl hd rfl ((if0 _ _).trans (flt hb).2.1) ho rfl t
theorem w_lcmp_ge (X : Stand p l e R s m args below meth c T locs cells slots) (hx : p.tables.exec = Jvm.exec) {o : Int} {x y : Int64} {pc1 pcT pcF : Nat} (hd1 : Dc c.code pc .lcmp 1 pc1) (hd : Dj c.code pc1 (.ifCond .ge o) o pcT pcF) (kt : y.toInt ≤ x.toInt → Go FE p e below s Q C S (T.setTop (mkF m pcT Ls (rest)))) (kf : x.toInt < y.toInt → Go FE p e below s Q C S (T.setTop (mkF m pcF Ls (rest)))) : Go FE p e below s Q C S (T.setTop (mkF m pc Ls (.long y :: .long x :: rest))) := by
  obtain ⟨hd1, rfl⟩ := hd1
  have e0 : (0 : Int32).toInt = 0 := rfl
  have L : (lcmpW x y).toInt < 0 → x.toInt < y.toInt := fun q => by have := (lw_lt x y).mp (by rw [Int32.lt_iff_toInt_lt]; omega); rwa [Int64.lt_iff_toInt_lt] at this
  have N : 0 ≤ (lcmpW x y).toInt → y.toInt ≤ x.toInt := fun q => by
    have h1 : ¬ x < y := fun r => by have := (lw_lt x y).mpr r; rw [Int32.lt_iff_toInt_lt] at this; omega
    rw [Int64.lt_iff_toInt_lt] at h1; omega
  have M : 0 < (lcmpW x y).toInt → y.toInt < x.toInt := fun q => by have := (lw_gt x y).mp (by rw [Int32.lt_iff_toInt_lt]; omega); rwa [Int64.lt_iff_toInt_lt] at this
  have P : (lcmpW x y).toInt ≤ 0 → x.toInt ≤ y.toInt := fun q => by
    have h1 : ¬ y < x := fun r => by have := (lw_gt x y).mpr r; rw [Int32.lt_iff_toInt_lt] at this; omega
    rw [Int64.lt_iff_toInt_lt] at h1; omega
  refine Go.step (fun _ t => XS.lcmp X.here hx rfl hd1 rfl t) ?_
  exact w_if_ge X hx hd (fun q => kt (N q)) (fun q => kf (L q))
theorem w_icmp_gt (X : Stand p l e R s m args below meth c T locs cells slots) (hx : p.tables.exec = Jvm.exec) {o : Int} {x y : Int32} {pcT pcF : Nat} (hd : Dj c.code pc (.if_icmp .gt o) o pcT pcF) (kt : y.toInt < x.toInt → Go FE p e below s Q C S (T.setTop (mkF m pcT Ls (rest)))) (kf : x.toInt ≤ y.toInt → Go FE p e below s Q C S (T.setTop (mkF m pcF Ls (rest)))) : Go FE p e below s Q C S (T.setTop (mkF m pc Ls (.int y :: .int x :: rest))) := by
  obtain ⟨hd, ho, rfl, rfl⟩ := hd
  by_cases hb : y < x
  · exact (kt (Int32.lt_iff_toInt_lt.mp hb)).step fun _ t => XS.icmpYes X.here hx rfl rfl hd rfl (tlt hb).2.2.1 ho rfl t
  · exact (kf (by rw [Int32.lt_iff_toInt_lt] at hb; omega)).step fun _ t => XS.icmpNo X.here hx rfl hd rfl (flt hb).2.2.1 t
theorem w_if_gt (X : Stand p l e R s m args below meth c T locs cells slots) (hx : p.tables.exec = Jvm.exec) {o : Int} {x : Int32} {pcT pcF : Nat} (hd : Dj c.code pc (.ifCond .gt o) o pcT pcF) (kt : 0 < x.toInt → Go FE p e below s Q C S (T.setTop (mkF m pcT Ls (rest)))) (kf : x.toInt ≤ 0 → Go FE p e below s Q C S (T.setTop (mkF m pcF Ls (rest)))) : Go FE p e below s Q C S (T.setTop (mkF m pc Ls (.int x :: rest))) := by
  obtain ⟨hd, ho, rfl, rfl⟩ := hd
  have e0 : (0 : Int32).toInt = 0 := rfl
  by_cases hb : (0 : Int32) < x
  · exact (kt (by rw [Int32.lt_iff_toInt_lt] at hb; omega)).step fun _ t => XS.ifYes X.here hx rfl rfl hd rfl ((if0 _ _).trans (tlt hb).2.2.1) ho rfl t
  · exact (kf (by rw [Int32.lt_iff_toInt_lt] at hb; omega)).step fun _ t => XS.ifNo X.here hx rfl hd rfl ((if0 _ _).trans (flt hb).2.2.1) t
theorem w_lcmp_gt (X : Stand p l e R s m args below meth c T locs cells slots) (hx : p.tables.exec = Jvm.exec) {o : Int} {x y : Int64} {pc1 pcT pcF : Nat} (hd1 : Dc c.code pc .lcmp 1 pc1) (hd : Dj c.code pc1 (.ifCond .gt o) o pcT pcF) (kt : y.toInt < x.toInt → Go FE p e below s Q C S (T.setTop (mkF m pcT Ls (rest)))) (kf : x.toInt ≤ y.toInt → Go FE p e below s Q C S (T.setTop (mkF m pcF Ls (rest)))) : Go FE p e below s Q C S (T.setTop (mkF m pc Ls (.long y :: .long x :: rest))) := by
  obtain ⟨hd1, rfl⟩ := hd1
  have e0 : (0 : Int32).toInt = 0 := rfl
  have L : (lcmpW x y).toInt < 0 → x.toInt < y.toInt := fun q => by have := (lw_lt x y).mp (by rw [Int32.lt_iff_toInt_lt]; omega); rwa [Int64.lt_iff_toInt_lt] at this
  have N : 0 ≤ (lcmpW x y).toInt → y.toInt ≤ x.toInt := fun q => by
    have h1 : ¬ x < y := fun r => by have := (lw_lt x y).mpr r; rw [Int32.lt_iff_toInt_lt] at this; omega
    rw [Int64.lt_iff_toInt_lt] at h1; omega
  have M : 0 < (lcmpW x y).toInt → y.toInt < x.toInt := fun q => by have := (lw_gt x y).mp (by rw [Int32.lt_iff_toInt_lt]; omega); rwa [Int64.lt_iff_toInt_lt] at this
  have P : (lcmpW x y).toInt ≤ 0 → x.toInt ≤ y.toInt := fun q => by
    have h1 : ¬ y < x := fun r => by have := (lw_gt x y).mpr r; rw [Int32.lt_iff_toInt_lt] at this; omega
    rw [Int64.lt_iff_toInt_lt] at h1; omega
  refine Go.step (fun _ t => XS.lcmp X.here hx rfl hd1 rfl t) ?_
  exact w_if_gt X hx hd (fun q => kt (M q)) (fun q => kf (P q))
theorem w_icmp_le (X : Stand p l e R s m args below meth c T locs cells slots) (hx : p.tables.exec = Jvm.exec) {o : Int} {x y : Int32} {pcT pcF : Nat} (hd : Dj c.code pc (.if_icmp .le o) o pcT pcF) (kt : x.toInt ≤ y.toInt → Go FE p e below s Q C S (T.setTop (mkF m pcT Ls (rest)))) (kf : y.toInt < x.toInt → Go FE p e below s Q C S (T.setTop (mkF m pcF Ls (rest)))) : Go FE p e below s Q C S (T.setTop (mkF m pc Ls (.int y :: .int x :: rest))) := by
  obtain ⟨hd, ho, rfl, rfl⟩ := hd
  by_cases hb : y < x
  · exact (kf (Int32.lt_iff_toInt_lt.mp hb)).step fun _ t => XS.icmpNo X.here hx rfl hd rfl (tlt hb).2.2.2 t
  · exact (kt (by rw [Int32.lt_iff_toInt_lt] at hb; omega)).step fun _ t => XS.icmpYes X.here hx rfl rfl hd rfl (flt hb).2.2.2 ho rfl t
theorem w_if_le (X : Stand p l e R s m args below meth c T locs cells slots) (hx : p.tables.exec = Jvm.exec) {o : Int} {x : Int32} {pcT pcF : Nat} (hd : Dj c.code pc (.ifCond .le o) o pcT pcF) (kt : x.toInt ≤ 0 → Go FE p e below s Q C S (T.setTop (mkF m pcT Ls (rest)))) (kf : 0 < x.toInt → Go FE p e below s Q C S (T.setTop (mkF m pcF Ls (rest)))) : Go FE p e below s Q C S (T.setTop (mkF m pc Ls (.int x :: rest))) := by
  obtain ⟨hd, ho, rfl, rfl⟩ := hd
  have e0 : (0 : Int32).toInt = 0 := rfl
  by_cases hb : (0 : Int32) < x
  · exact (kf (by rw [Int32.lt_iff_toInt_lt] at hb; omega)).step fun _ t => XS.ifNo X.here hx rfl hd rfl ((if0 _ _).trans (tlt hb).2.2.2) t
  · exact (kt (by rw [Int32.lt_iff_toInt_lt] at hb; omega)).step fun _ t => XS.ifYes X.here hx rfl rfl hd rfl ((if0 _ _).trans (flt hb).2.2.2) ho rfl t
theorem w_lcmp_le (X : Stand p l e R s m args below meth c T locs cells slots) (hx : p.tables.exec = Jvm.exec) {o : Int} {x y : Int64} {pc1 pcT pcF : Nat} (hd1 : Dc c.code pc .lcmp 1 pc1) (hd : Dj c.code pc1 (.ifCond .le o) o pcT pcF) (kt : x.toInt ≤ y.toInt → Go FE p e below s Q C S (T.setTop (mkF m pcT Ls (rest)))) (kf : y.toInt < x.toInt → Go FE p e below s Q C S (T.setTop (mkF m pcF Ls (rest)))) : Go FE p e below s Q C S (T.setTop (mkF m pc Ls (.long y :: .long x :: rest))) := by
  obtain ⟨hd1, rfl⟩ := hd1
  have e0 : (0 : Int32).toInt = 0 := rfl
  have L : (lcmpW x y).toInt < 0 → x.toInt < y.toInt := fun q => by have := (lw_lt x y).mp (by rw [Int32.lt_iff_toInt_lt]; omega); rwa [Int64.lt_iff_toInt_lt] at this
  have N : 0 ≤ (lcmpW x y).toInt → y.toInt ≤ x.toInt := fun q => by
    have h1 : ¬ x < y := fun r => by have := (lw_lt x y).mpr r; rw [Int32.lt_iff_toInt_lt] at this; omega
    rw [Int64.lt_iff_toInt_lt] at h1; omega
  have M : 0 < (lcmpW x y).toInt → y.toInt < x.toInt := fun q => by have := (lw_gt x y).mp (by rw [Int32.lt_iff_toInt_lt]; omega); rwa [Int64.lt_iff_toInt_lt] at this
  have P : (lcmpW x y).toInt ≤ 0 → x.toInt ≤ y.toInt := fun q => by
    have h1 : ¬ y < x := fun r => by have := (lw_gt x y).mpr r; rw [Int32.lt_iff_toInt_lt] at this; omega
    rw [Int64.lt_iff_toInt_lt] at h1; omega
  refine Go.step (fun _ t => XS.lcmp X.here hx rfl hd1 rfl t) ?_
  exact w_if_le X hx hd (fun q => kt (P q)) (fun q => kf (M q))
theorem w_acmp (X : Stand p l e R s m args below meth c T locs cells slots) (hx : p.tables.exec = Jvm.exec) {o : Int} {cd : ClassFile.ACond} {x y : Value} {pcT pcF : Nat} (hd : Dj c.code pc (.if_acmp cd o) o pcT pcF) (h1 : x.isRef = true) (h2 : y.isRef = true) {b : Bool} (hb : acV cd (decide (x = y)) = b) (k : Go FE p e below s Q C S (T.setTop (mkF m (if b = true then pcT else pcF) Ls rest))) : Go FE p e below s Q C S (T.setTop (mkF m pc Ls (y :: x :: rest))) := by
  obtain ⟨hd, ho, rfl, rfl⟩ := hd; subst hb; exact k.step fun _ t => Jvm.RoadKit.acmp X hx rfl h1 h2 rfl hd rfl rfl ho rfl t
theorem w_ifnullR (X : Stand p l e R s m args below meth c T locs cells slots) (hx : p.tables.exec = Jvm.exec) {o : Int} {b : Addr} {pcT pcF : Nat} (hd : Dj c.code pc (.ifnull o) o pcT pcF) (k : Go FE p e below s Q C S (T.setTop (mkF m pcF Ls rest))) : Go FE p e below s Q C S (T.setTop (mkF m pc Ls (.ref b :: rest))) := by
  obtain ⟨hd, -, -, rfl⟩ := hd; exact k.step fun _ t => XS.ifnullNo X.here hx rfl hd rfl t
/-! returns -/
theorem w_ret (X : Stand p l e R s m args below meth c T locs cells slots) (hx : p.tables.exec = Jvm.exec) (hret : meth.sig.returnType = none) (hlk : meth.locks = false) (hd : Dc c.code pc .return_ 1 pc') (hC : cells ≤ C) (hS : slots ≤ S) (hQ : Q none T.heap locs) : Go FrameEnd p e below s Q C S (T.setTop (mkF m pc Ls [])) := by
  obtain ⟨fs, hr, hrun, hended, hW, hsame⟩ := X.leave (v := none) (fun _ => rfl) hlk
  exact ⟨_, _, X.returnOut hx hret hd.1 hr, hrun, hended, _, _, rfl, hQ, ⟨_, rfl⟩, hW, hsame.mono hC hS⟩
theorem w_retI (X : Stand p l e R s m args below meth c T locs cells slots) (hx : p.tables.exec = Jvm.exec) (hret : meth.sig.returnType = some .int) (hlk : meth.locks = false) {z : Int32} (hd : Dc c.code pc .ireturn 1 pc') (hC : cells ≤ C) (hS : slots ≤ S) (hQ : Q (some (.int z)) T.heap locs) : Go FrameEnd p e below s Q C S (T.setTop (mkF m pc Ls (.int z :: rest))) := by
  obtain ⟨fs, hr, hrun, hended, hW, hsame⟩ := X.leave (v := some (.int z)) (fun h => by rw [hret] at h; cases h) hlk
  exact ⟨_, _, retOut X hx hret rfl (Or.inl ⟨rfl, Or.inl rfl, _, rfl⟩) hd.1 hr, hrun, hended, _, _, rfl, hQ, ⟨_, rfl⟩, hW, hsame.mono hC hS⟩
theorem w_retN (X : Stand p l e R s m args below meth c T locs cells slots) (hx : p.tables.exec = Jvm.exec) {t : FieldType} (hret : meth.sig.returnType = some t) (ht : t = .boolean ∨ t = .byte ∨ t = .char ∨ t = .short) (hlk : meth.locks = false) {z : Int32} (hd : Dc c.code pc .ireturn 1 pc') (hC : cells ≤ C) (hS : slots ≤ S) (hQ : Q (some (.int (nar t z))) T.heap locs) : Go FrameEnd p e below s Q C S (T.setTop (mkF m pc Ls (.int z :: rest))) := by
  obtain ⟨fs, hr, hrun, hended, hW, hsame⟩ := X.leave (v := some (.int (nar t z))) (fun h => by rw [hret] at h; cases h) hlk
  exact ⟨_, _, retN X hx hret ht hd.1 hr, hrun, hended, _, _, rfl, hQ, ⟨_, rfl⟩, hW, hsame.mono hC hS⟩
theorem w_retJ (X : Stand p l e R s m args below meth c T locs cells slots) (hx : p.tables.exec = Jvm.exec) (hret : meth.sig.returnType = some .long) (hlk : meth.locks = false) {z : Int64} (hd : Dc c.code pc .lreturn 1 pc') (hC : cells ≤ C) (hS : slots ≤ S) (hQ : Q (some (.long z)) T.heap locs) : Go FrameEnd p e below s Q C S (T.setTop (mkF m pc Ls (.long z :: rest))) := by
  obtain ⟨fs, hr, hrun, hended, hW, hsame⟩ := X.leave (v := some (.long z)) (fun h => by rw [hret] at h; cases h) hlk
  exact ⟨_, _, retOut X hx hret rfl (Or.inr (Or.inl ⟨rfl, rfl, _, rfl⟩)) hd.1 hr, hrun, hended, _, _, rfl, hQ, ⟨_, rfl⟩, hW, hsame.mono hC hS⟩
theorem w_retA (X : Stand p l e R s m args below meth c T locs cells slots) (hx : p.tables.exec = Jvm.exec) {t : FieldType} {a : Addr} (hret : meth.sig.returnType = some t) (ht : t.isReference = true) (hn : narrow t (.ref a) = .ref a) (hlk : meth.locks = false) (hd : Dc c.code pc .areturn 1 pc') (hC : cells ≤ C) (hS : slots ≤ S) (hQ : Q (some (.ref a)) T.heap locs) : Go FrameEnd p e below s Q C S (T.setTop (mkF m pc Ls (.ref a :: rest))) := by
  obtain ⟨fs, hr, hrun, hended, hW, hsame⟩ := X.leave (v := some (.ref a)) (fun h => by rw [hret] at h; cases h) hlk
  exact ⟨_, _, retOut X hx hret hn (Or.inr (Or.inr (Or.inr (Or.inr ⟨rfl, ht, rfl⟩)))) hd.1 hr, hrun, hended, _, _, rfl, hQ, ⟨_, rfl⟩, hW, hsame.mono hC hS⟩
/-! contracts -/
def Ct (l : Launch) (Z : State) (y : MethodName) (bytes : ByteArray) (maxL : Nat) (ret : Option FieldType) (rm : Room) (as' : Array Value) (h : Heap) (Q : Option Value → Heap → List Loc → Prop) : Prop :=
  MetFree l y (head1 [Jvm.Cond.code y bytes maxL ret] rm) (fun a U => a = as' ∧ Z.Warmed39 U.vm ∧ U.heap = h) (fun _ _ _ _ _ => True) (fun _ U o U' => ∃ v L, o = .returned v ∧ Q v U'.heap L ∧ FrameEnd U o U' L rm.cells rm.slots)
theorem w_body {y : MethodName} {bytes : ByteArray} {maxL : Nat} {ret : Option FieldType} {rm : Room} {as' : Array Value} {ws : List Jvm.Cond} (hp : plainFor y = true)
    (body : ∀ (p : Program) (e : Env) (s : State) (m : MethodId) (below : List Frame) (meth : Method) (c : Code) (T : State), Stand p l e rm s m as' below meth c T [] 0 0 → p.tables.exec = Jvm.exec → c.code = bytes → c.maxLocals = maxL → s.vm.findClass y.cls = some m.cls → meth.name = y.name → meth.sig.returnType = ret → meth.locks = false → Z.Warmed39 s.vm → T.heap = h → Go FrameEnd p e below s Q C S (T.setTop (entryFrame m as' maxL))) :
    MetFree l y (head1 (Jvm.Cond.code y bytes maxL ret :: ws) rm) (fun a U => a = as' ∧ Z.Warmed39 U.vm ∧ U.heap = h) (fun _ _ _ _ _ => True) (fun _ U o U' => ∃ v L, o = .returned v ∧ Q v U'.heap L ∧ FrameEnd U o U' L C S) := by
  refine MetFree.of_bodySF hp hisR ?_
  intro p e s m args below meth c s₁ Bd hml0 hP hK
  obtain ⟨rfl, hZ, hh⟩ := hP
  exact body p e s m below meth c s₁ (Stand.of_body Bd) Bd.exec Bd.bytes hml0 (findClass_of_methodNamed Bd.named) (name_of_methodNamed Bd.named Bd.method).1 Bd.returns Bd.notSynchronized hZ (by rw [← hh, Bd.state]; rfl)
theorem Ct.body {y : MethodName} {bytes : ByteArray} {maxL : Nat} {ret : Option FieldType} {rm : Room} {as' : Array Value} (hp : plainFor y = true)
    (body : ∀ (p : Program) (e : Env) (s : State) (m : MethodId) (below : List Frame) (meth : Method) (c : Code) (T : State), Stand p l e rm s m as' below meth c T [] 0 0 → p.tables.exec = Jvm.exec → c.code = bytes → c.maxLocals = maxL → s.vm.findClass y.cls = some m.cls → meth.name = y.name → meth.sig.returnType = ret → meth.locks = false → Z.Warmed39 s.vm → T.heap = h → Go FrameEnd p e below s Q rm.cells rm.slots (T.setTop (entryFrame m as' maxL))) :
    Ct l Z y bytes maxL ret rm as' h Q := w_body hp body
/-! calls -/
theorem w_callS (X : Stand p l e R s m args below meth c T locs cells slots) (hx : p.tables.exec = Jvm.exec) (hZ : Z.Warmed39 s.vm) (eT : T.heap = h) {kk : Nat} (hml : c.maxLocals = kk) (hkk : Ls.size = kk) {own : String} (hown : s.vm.findClass own = some m.cls) {index : Nat} {y : MethodName} {bytes : ByteArray} {maxL : Nat} {ret : Option FieldType} {rm : Room} {as' : Array Value} {Qc : Option Value → Heap → List Loc → Prop}
    (w1 : (Jvm.Cond.methodLink own index y).before a0 Z = true) (w2 : (Jvm.Cond.static y).before a0 Z = true) (w3 : (Jvm.Cond.initialized y.cls).before a0 Z = true) (w4 : (Jvm.Cond.code y bytes maxL ret).before a0 Z = true) (hy : y.cls ≠ "java/lang/invoke/MethodHandle" ∧ y.cls ≠ "java/lang/invoke/VarHandle")
    (hM : Ct l Z y bytes maxL ret rm as' h Qc) (hd : Dc c.code pc (.invokestatic index) 3 pc') {ps : List FieldType} {r : Option FieldType} (hpd : parseMethodDescriptor y.desc = some ⟨ps, r⟩) {argsL st rest : List Value} (has : argsL.toArray = as') (hst : st = argsL.reverse ++ rest) (hlen : argsL.length = ps.length) {W : Nat} (hW : (rest.map fun v => v.category).sum = W)
    (hf : rm.frames + 1 ≤ R.frames) (hl : W + (maxL + 11) + rm.locals ≤ R.locals) (hcl : cells + rm.cells ≤ R.cells) (hsl : slots + rm.slots ≤ R.slots)
    (k : ∀ (v : Option Value) (T' : State) (L : List Loc), Stand p l e R s m args below meth c T' (locs ++ L) (cells + rm.cells) (slots + rm.slots) → Qc v T'.heap L → Go FE p e below s Q C S (T'.setTop (mkF m pc' Ls (v.toList ++ rest)))) :
    Go FE p e below s Q C S (T.setTop (mkF m pc Ls st)) := by
  subst hst has hW
  obtain ⟨hd, rfl⟩ := hd
  obtain ⟨v, _, ⟨T', L', k', n'⟩, -, X', ⟨Lc, hQ, e1, e2, e3⟩, st⟩ := Jvm.LawKit.callS X hx (y := y) hown (mvT hZ w1) (mvT hZ w2) (mvT hZ w3) (mvT hZ w4) hy (backOf (W := (rest.map fun v => v.category).sum) hM hZ w4 w3 hf hl) (g := mkF m pc Ls (argsL.reverse ++ rest)) rfl (hkk.trans hml.symm) (argsL := argsL) (rest := rest) (lenOf hpd hlen) rfl (by show 2 * 0 + _ ≤ _; omega) hd (fun _ _ => ⟨rfl, eT, hcl, hsl⟩)
  dsimp only [Pt.U, Pt.locs, Pt.cells, Pt.slots] at X' e1 e2 e3 st hQ
  subst e1 e2 e3
  exact (k v T' Lc X' hQ).step st
theorem w_callV (X : Stand p l e R s m args below meth c T locs cells slots) (hx : p.tables.exec = Jvm.exec) (hZ : Z.Warmed39 s.vm) (eT : T.heap = h) {kk : Nat} (hml : c.maxLocals = kk) (hkk : Ls.size = kk) {own : String} (hown : s.vm.findClass own = some m.cls) {index : Nat} {y : MethodName} {bytes : ByteArray} {maxL : Nat} {ret : Option FieldType} {rm : Room} {as' : Array Value} {Qc : Option Value → Heap → List Loc → Prop}
    (w1 : (Jvm.Cond.methodLink own index y).before a0 Z = true) (w2 : (Jvm.Cond.declares y).before a0 Z = true) (w5 : (Jvm.Cond.selects y.cls y y).before a0 Z = true) (w6 : (Jvm.Cond.instanceMethod y).before a0 Z = true) (w3 : (Jvm.Cond.initialized y.cls).before a0 Z = true) (w4 : (Jvm.Cond.code y bytes maxL ret).before a0 Z = true) (hy : y.cls ≠ "java/lang/invoke/MethodHandle" ∧ y.cls ≠ "java/lang/invoke/VarHandle")
    (hM : Ct l Z y bytes maxL ret rm as' h Qc) {b : Addr} (E : Exa Z h b y.cls) (hd : Dc c.code pc (.invokevirtual index) 3 pc') {ps : List FieldType} {r : Option FieldType} (hpd : parseMethodDescriptor y.desc = some ⟨ps, r⟩) {argsL st rest : List Value} (has : (.ref b :: argsL).toArray = as') (hst : st = argsL.reverse ++ .ref b :: rest) (hlen : argsL.length = ps.length) {W : Nat} (hW : (rest.map fun v => v.category).sum = W)
    (hf : rm.frames + 1 ≤ R.frames) (hl : W + (maxL + 11) + rm.locals ≤ R.locals) (hcl : cells + rm.cells ≤ R.cells) (hsl : slots + rm.slots ≤ R.slots)
    (k : ∀ (v : Option Value) (T' : State) (L : List Loc), Stand p l e R s m args below meth c T' (locs ++ L) (cells + rm.cells) (slots + rm.slots) → Qc v T'.heap L → Go FE p e below s Q C S (T'.setTop (mkF m pc' Ls (v.toList ++ rest)))) :
    Go FE p e below s Q C S (T.setTop (mkF m pc Ls st)) := by
  subst hst has hW
  obtain ⟨hd, rfl⟩ := hd
  obtain ⟨cq, kq, qa, qb, qc⟩ := isOf hZ eT E
  obtain ⟨v, _, ⟨T', L', k', n'⟩, -, X', ⟨Lc, hQ, e1, e2, e3⟩, st⟩ := X.virtualBack hx (y := y) (z := y) hown (mvT hZ w1) (mvT hZ w2) (notFace_of_selects (args := #[]) (mvT hZ w5)) (mvT hZ w5) (mvT hZ w6) hy (backOf (W := (rest.map fun v => v.category).sum) hM hZ w4 w3 hf hl) qa qc (g := mkF m pc Ls (argsL.reverse ++ .ref b :: rest)) rfl (hkk.trans hml.symm) (Steps.refl _) (argsL := argsL) (rest := rest) (lenOf hpd hlen) rfl (by show 2 * 0 + _ ≤ _; omega) hd (fun _ _ => ⟨rfl, eT, hcl, hsl⟩)
  dsimp only [Pt.U, Pt.locs, Pt.cells, Pt.slots] at X' e1 e2 e3 st hQ
  subst e1 e2 e3
  exact (k v T' Lc X' hQ).step fun _ q => st.trans q
theorem w_callSP (X : Stand p l e R s m args below meth c T locs cells slots) (hx : p.tables.exec = Jvm.exec) (hZ : Z.Warmed39 s.vm) (eT : T.heap = h) {kk : Nat} (hml : c.maxLocals = kk) (hkk : Ls.size = kk) {own : String} (hown : s.vm.findClass own = some m.cls) {index : Nat} {y : MethodName} {bytes : ByteArray} {maxL : Nat} {ret : Option FieldType} {f lo : Nat} {as' : Array Value} {rv : Value}
    (w1 : (Jvm.Cond.methodLink own index y).before a0 Z = true) (w2 : (Jvm.Cond.static y).before a0 Z = true) (w3 : (Jvm.Cond.initialized y.cls).before a0 Z = true) (w4 : (Jvm.Cond.code y bytes maxL ret).before a0 Z = true) (hy : y.cls ≠ "java/lang/invoke/MethodHandle" ∧ y.cls ≠ "java/lang/invoke/VarHandle")
    (hM : Ct l Z y bytes maxL ret ({ frames := f, cells := 0, slots := 0, locals := lo } : Room) as' h (fun v h' L => v = some rv ∧ h' = h ∧ L = [])) (hd : Dc c.code pc (.invokestatic index) 3 pc') {ps : List FieldType} {r : Option FieldType} (hpd : parseMethodDescriptor y.desc = some ⟨ps, r⟩) {argsL st rest : List Value} (has : argsL.toArray = as') (hst : st = argsL.reverse ++ rest) (hlen : argsL.length = ps.length) {W : Nat} (hW : (rest.map fun v => v.category).sum = W)
    (hf : f + 1 ≤ R.frames) (hl : W + (maxL + 11) + lo ≤ R.locals) (hcl : cells ≤ R.cells) (hsl : slots ≤ R.slots)
    (k : ∀ T', Stand p l e R s m args below meth c T' locs cells slots → T'.heap = h → Go FE p e below s Q C S (T'.setTop (mkF m pc' Ls (rv :: rest)))) :
    Go FE p e below s Q C S (T.setTop (mkF m pc Ls st)) := by
  refine w_callS X hx hZ eT hml hkk hown w1 w2 w3 w4 hy hM hd hpd has hst hlen hW hf hl hcl hsl fun v T' L X' hQ => ?_
  obtain ⟨rfl, e', rfl⟩ := hQ
  rw [List.append_nil] at X'
  exact k T' X' e'
theorem w_callVP (X : Stand p l e R s m args below meth c T locs cells slots) (hx : p.tables.exec = Jvm.exec) (hZ : Z.Warmed39 s.vm) (eT : T.heap = h) {kk : Nat} (hml : c.maxLocals = kk) (hkk : Ls.size = kk) {own : String} (hown : s.vm.findClass own = some m.cls) {index : Nat} {y : MethodName} {bytes : ByteArray} {maxL : Nat} {ret : Option FieldType} {f lo : Nat} {as' : Array Value} {rv : Value}
    (w1 : (Jvm.Cond.methodLink own index y).before a0 Z = true) (w2 : (Jvm.Cond.declares y).before a0 Z = true) (w5 : (Jvm.Cond.selects y.cls y y).before a0 Z = true) (w6 : (Jvm.Cond.instanceMethod y).before a0 Z = true) (w3 : (Jvm.Cond.initialized y.cls).before a0 Z = true) (w4 : (Jvm.Cond.code y bytes maxL ret).before a0 Z = true) (hy : y.cls ≠ "java/lang/invoke/MethodHandle" ∧ y.cls ≠ "java/lang/invoke/VarHandle")
    (hM : Ct l Z y bytes maxL ret ({ frames := f, cells := 0, slots := 0, locals := lo } : Room) as' h (fun v h' L => v = some rv ∧ h' = h ∧ L = [])) {b : Addr} (E : Exa Z h b y.cls) (hd : Dc c.code pc (.invokevirtual index) 3 pc') {ps : List FieldType} {r : Option FieldType} (hpd : parseMethodDescriptor y.desc = some ⟨ps, r⟩) {argsL st rest : List Value} (has : (.ref b :: argsL).toArray = as') (hst : st = argsL.reverse ++ .ref b :: rest) (hlen : argsL.length = ps.length) {W : Nat} (hW : (rest.map fun v => v.category).sum = W)
    (hf : f + 1 ≤ R.frames) (hl : W + (maxL + 11) + lo ≤ R.locals) (hcl : cells ≤ R.cells) (hsl : slots ≤ R.slots)
    (k : ∀ T', Stand p l e R s m args below meth c T' locs cells slots → T'.heap = h → Go FE p e below s Q C S (T'.setTop (mkF m pc' Ls (rv :: rest)))) :
    Go FE p e below s Q C S (T.setTop (mkF m pc Ls st)) := by
  refine w_callV X hx hZ eT hml hkk hown w1 w2 w5 w6 w3 w4 hy hM E hd hpd has hst hlen hW hf hl hcl hsl fun v T' L X' hQ => ?_
  obtain ⟨rfl, e', rfl⟩ := hQ
  rw [List.append_nil] at X'
  exact k T' X' e'
theorem w_callI (X : Stand p l e R s m args below meth c T locs cells slots) (hx : p.tables.exec = Jvm.exec) (hZ : Z.Warmed39 s.vm) (eT : T.heap = h) {kk : Nat} (hml : c.maxLocals = kk) (hkk : Ls.size = kk) {own : String} (hown : s.vm.findClass own = some m.cls) {index : Nat} {y : MethodName} {bytes : ByteArray} {maxL : Nat} {rm : Room} {as' : Array Value} {Qc : Option Value → Heap → List Loc → Prop} (hy1 : y.name = "<init>")
    (w1 : (Jvm.Cond.methodLink own index y).before a0 Z = true) (w6 : (Jvm.Cond.instanceMethod y).before a0 Z = true) (w3 : (Jvm.Cond.initialized y.cls).before a0 Z = true) (w4 : (Jvm.Cond.code y bytes maxL none).before a0 Z = true) (hy : y.cls ≠ "java/lang/invoke/MethodHandle" ∧ y.cls ≠ "java/lang/invoke/VarHandle")
    (hM : Ct l Z y bytes maxL none rm as' h Qc) {b : Addr} (hd : Dc c.code pc (.invokespecial index) 3 pc') {ps : List FieldType} {r : Option FieldType} (hpd : parseMethodDescriptor y.desc = some ⟨ps, r⟩) {argsL st rest : List Value} (has : (.ref b :: argsL).toArray = as') (hst : st = argsL.reverse ++ .ref b :: rest) (hlen : argsL.length = ps.length) {W : Nat} (hW : (rest.map fun v => v.category).sum = W)
    (hf : rm.frames + 1 ≤ R.frames) (hl : W + (maxL + 11) + rm.locals ≤ R.locals) (hcl : cells + rm.cells ≤ R.cells) (hsl : slots + rm.slots ≤ R.slots)
    (k : ∀ (v : Option Value) (T' : State) (L : List Loc), Stand p l e R s m args below meth c T' (locs ++ L) (cells + rm.cells) (slots + rm.slots) → Qc v T'.heap L → Go FE p e below s Q C S (T'.setTop (mkF m pc' Ls (v.toList ++ rest)))) :
    Go FE p e below s Q C S (T.setTop (mkF m pc Ls st)) := by
  subst hst has hW
  obtain ⟨hd, rfl⟩ := hd
  obtain ⟨v, _, ⟨T', L', k', n'⟩, -, X', ⟨Lc, hQ, e1, e2, e3⟩, st⟩ := X.specialBack hx (y := y) hy1 hown (mvT hZ w1) (mvT hZ w6) (mvT hZ w4) hy (backOf (W := (rest.map fun v => v.category).sum) hM hZ w4 w3 hf hl) (g := mkF m pc Ls (argsL.reverse ++ .ref b :: rest)) rfl (hkk.trans hml.symm) (Steps.refl _) (a := b) (argsL := argsL) (rest := rest) (lenOf hpd hlen) rfl (by show 2 * 0 + _ ≤ _; omega) hd (fun _ _ => ⟨rfl, eT, hcl, hsl⟩)
  dsimp only [Pt.U, Pt.locs, Pt.cells, Pt.slots] at X' e1 e2 e3 st hQ
  subst e1 e2 e3
  exact (k v T' Lc X' hQ).step fun _ q => st.trans q
theorem w_objinit (X : Stand p l e R s m args below meth c T locs cells slots) (hx : p.tables.exec = Jvm.exec) (hZ : Z.Warmed39 s.vm) (eT : T.heap = h) {kk : Nat} (hml : c.maxLocals = kk) (hkk : Ls.size = kk) {own : String} (hown : s.vm.findClass own = some m.cls) {index : Nat}
    (w1 : (Jvm.Cond.methodLink own index Lib.objectInit).before a0 Z = true) (w2 : (Jvm.Cond.instanceMethod Lib.objectInit).before a0 Z = true) (w3 : (Jvm.Cond.code Lib.objectInit ⟨#[0xb1]⟩ 1 none).before a0 Z = true) (hd : Dc c.code pc (.invokespecial index) 3 pc') {a : Addr} (hf : 1 ≤ R.frames) {W : Nat} (hW : (rest.map fun v => v.category).sum = W) (hl : W + 12 ≤ R.locals)
    (k : ∀ T', Stand p l e R s m args below meth c T' locs cells slots → T'.heap = h → Go FE p e below s Q C S (T'.setTop (mkF m pc' Ls rest))) : Go FE p e below s Q C S (T.setTop (mkF m pc Ls (.ref a :: rest))) := by
  obtain ⟨hd, rfl⟩ := hd
  obtain ⟨T', X', e', st⟩ := initO X hx hZ hown w1 w2 w3 eT (g := mkF m pc Ls (.ref a :: rest)) rfl (hkk.trans hml.symm) rfl hd hf (W := W) (by show 2 * 0 + _ ≤ _; omega) hl
  exact (k T' X' e').step st
/-! fields -/
theorem w_getf (X : Stand p l e R s m args below meth c T locs cells slots) (hx : p.tables.exec = Jvm.exec) (hZ : Z.Warmed39 s.vm) (eT : T.heap = h) {own O n d : String} {index : Nat} (hown : s.vm.findClass own = some m.cls) (w : (Jvm.Cond.fieldLink own index O n d).before a0 Z = true) {a : Addr} {v : Value} (F : Fld Z h a O n d v) (hd : Dc c.code pc (.getfield index) 3 pc')
    (k : ∀ T', Stand p l e R s m args below meth c T' locs cells slots → T'.heap = h → Go FE p e below s Q C S (T'.setTop (mkF m pc' Ls (v :: rest)))) : Go FE p e below s Q C S (T.setTop (mkF m pc Ls (.ref a :: rest))) := by
  obtain ⟨hd, rfl⟩ := hd
  obtain ⟨T', X', e', st⟩ := getF X hx hZ hown (host := "") (Or.inl w) Via.refl eT F (g := mkF m pc Ls (.ref a :: rest)) rfl rfl hd
  exact (k T' X' e').step st
theorem w_putf (X : Stand p l e R s m args below meth c T locs cells slots) (hx : p.tables.exec = Jvm.exec) (hZ : Z.Warmed39 s.vm) (eT : T.heap = h) {own O n d : String} {index kk : Nat} {ty : FieldType} (hown : s.vm.findClass own = some m.cls) (w : (Jvm.Cond.fieldLink own index O n d).before a0 Z = true) {a : Addr} {v old : Value} (F : Fld Z h a O n d old) (E : Exa Z h a O) (L : (Jvm.Cond.lays O O n d).before a0 Z = true ∨ ((Jvm.Cond.laysFinal O O n d).before a0 Z = true ∧ own = O ∧ meth.name = "<init>")) (wi : (Jvm.Cond.instantiable O kk).before a0 Z = true)
    (hty : parseFieldDescriptor d = some ty) (hn : narrow ty v = v) (hf : fits ty v = true) (hd : Dc c.code pc (.putfield index) 3 pc')
    (k : ∀ T' h', Stand p l e R s m args below meth c T' (locs ++ [⟨a, Jvm.RoadKit.slotOf Z O n d⟩]) cells slots → T'.heap = h' → Wr h h' a (Jvm.RoadKit.slotOf Z O n d) v → Go FE p e below s Q C S (T'.setTop (mkF m pc' Ls rest))) : Go FE p e below s Q C S (T.setTop (mkF m pc Ls (v :: .ref a :: rest))) := by
  obtain ⟨hd, rfl⟩ := hd
  obtain ⟨T', h', X', e', W, st⟩ := putF X hx hZ hown (host := "") (Or.inl w) Via.refl eT F E L wi hty hn hf (g := mkF m pc Ls (v :: .ref a :: rest)) rfl rfl hd
  exact (k T' h' X' e' W).step st
theorem w_new (X : Stand p l e R s m args below meth c T locs cells slots) (hx : p.tables.exec = Jvm.exec) (hZ : Z.Warmed39 s.vm) (eT : T.heap = h) {own K : String} {index n : Nat} (hown : s.vm.findClass own = some m.cls) (w : (Jvm.Cond.classLink own index K).before a0 Z = true) (wi : (Jvm.Cond.instantiable K n).before a0 Z = true) (wz : (Jvm.Cond.initialized K).before a0 Z = true) (hd : Dc c.code pc (.new index) 3 pc') (hcl : cells + 1 ≤ R.cells) (hsl : slots + n ≤ R.slots)
    (k : ∀ T' h' b, b = h.size → Stand p l e R s m args below meth c T' locs (cells + 1) (slots + n) → T'.heap = h' → Ext h h' → Exa Z h' b K → (∀ {O nm d : String} {ty : FieldType}, Laid Z a0 K O nm d → parseFieldDescriptor d = some ty → Fld Z h' b O nm d (defaultValue ty)) → Go FE p e below s Q C S (T'.setTop (mkF m pc' Ls (.ref b :: rest)))) : Go FE p e below s Q C S (T.setTop (mkF m pc Ls rest)) := by
  obtain ⟨hd, rfl⟩ := hd
  obtain ⟨T', h', X', e', E, A, D, -, st⟩ := newO X hx hZ hown w wi wz eT (g := mkF m pc Ls rest) rfl hd hcl hsl
  exact (k T' h' _ rfl X' e' E A D).step st
/-! arrays: n places, place i holds f i -/
def AV (Z : State) (h : Heap) (a : Addr) (ty : FieldType) (n : Nat) (f : Nat → Value) : Prop := n < 2 ^ 31 ∧ ∃ cl : Cell, Arr Z h a cl ty ∧ cl.slots.size = n ∧ ∀ i, i < n → cl.slots[i]? = some (f i)
theorem AV.lt {a : Addr} {ty : FieldType} {n : Nat} {f : Nat → Value} (A : AV Z h a ty n f) : a < h.size := by obtain ⟨-, c, A, -⟩ := A; exact A.lt
theorem AV.ext {a : Addr} {ty : FieldType} {n : Nat} {f : Nat → Value} {h' : Heap} (A : AV Z h a ty n f) (E : Ext h h') : AV Z h' a ty n f := by obtain ⟨h1, c, A, r⟩ := A; exact ⟨h1, c, A.ext E, r⟩
theorem AV.other {a b : Addr} {ty : FieldType} {n sl : Nat} {v : Value} {f : Nat → Value} {h' : Heap} (A : AV Z h a ty n f) (W : Wr h h' b sl v) (q : a ≠ b) : AV Z h' a ty n f := by obtain ⟨h1, c, A, r⟩ := A; exact ⟨h1, c, A.other W q, r⟩
theorem AV.keep {a : Addr} {ty : FieldType} {n : Nat} {ws : List Addr} {f : Nat → Value} {h' : Heap} (A : AV Z h a ty n f) (K : Keep h h' ws) (q : a ∉ ws) : AV Z h' a ty n f := by obtain ⟨h1, c, A, r⟩ := A; exact ⟨h1, c, ⟨K.2.1 a c A.1 q, A.2⟩, r⟩
theorem AV.congr {a : Addr} {ty : FieldType} {n : Nat} {f g : Nat → Value} (A : AV Z h a ty n f) (q : ∀ i, i < n → f i = g i) : AV Z h a ty n g := by obtain ⟨h1, c, A, r1, r2⟩ := A; exact ⟨h1, c, A, r1, fun i hi => by rw [r2 i hi, q i hi]⟩
theorem av_idx {j : Int32} {i n : Nat} {cl : Cell} (hj : j.toInt = (i : Int)) (hi : i < n) (hc : cl.slots.size = n) : ¬ (j < 0 ∨ cl.slots.size ≤ j.toNatClampNeg) ∧ j.toNatClampNeg = i := by
  have e0 : (0 : Int32).toInt = 0 := rfl
  simp only [Int32.lt_iff_toInt_lt, Int32.toNatClampNeg, e0, hj, hc]; omega
def put (f : Nat → Value) (i : Nat) (v : Value) : Nat → Value := fun k => if k = i then v else f k
theorem put_at (f : Nat → Value) (i : Nat) (v : Value) : put f i v i = v := by simp [put]
theorem put_ne (f : Nat → Value) {i k : Nat} (v : Value) (q : k ≠ i) : put f i v k = f k := by simp [put, q]
theorem AV.same {a : Addr} {ty : FieldType} {n : Nat} {v : Value} {f : Nat → Value} {h' : Heap} {i : Nat} (A : AV Z h a ty n f) (hi : i < n) (W : Wr h h' a i v) : AV Z h' a ty n (put f i v) := by
  obtain ⟨h1, c, A, r1, r2⟩ := A
  refine ⟨h1, _, A.same W, by rw [sz_set]; exact r1, fun k hk => ?_⟩
  by_cases u : k = i
  · subst u; rw [put_at]; simp [Cell.setSlot, r1, hk]
  · rw [put_ne _ _ u]; simp only [Cell.setSlot]; rw [Array.getElem?_setIfInBounds_ne (Ne.symm u)]; exact r2 k hk
theorem w_newarr (X : Stand p l e R s m args below meth c T locs cells slots) (hx : p.tables.exec = Jvm.exec) (hZ : Z.Warmed39 s.vm) (eT : T.heap = h) {aty : ArrayType} (w : (Jvm.Cond.arrayClass (newarray.typeOf aty)).before a0 Z = true) (hd : Dc c.code pc (.newarray aty) 2 pc') {z : Int32} {n cap : Nat} (hz : z.toInt = (n : Int)) (hcap : n ≤ cap) (hb : cap * 8 ≤ 536870912) (hcl : cells + 1 ≤ R.cells) (hsl : slots + cap ≤ R.slots)
    (k : ∀ T' h' b, b = h.size → Stand p l e R s m args below meth c T' locs (cells + 1) (slots + cap) → T'.heap = h' → Ext h h' → AV Z h' b (newarray.typeOf aty) n (fun _ => defaultValue (newarray.typeOf aty)) → Go FE p e below s Q C S (T'.setTop (mkF m pc' Ls (.ref b :: rest)))) : Go FE p e below s Q C S (T.setTop (mkF m pc Ls (.int z :: rest))) := by
  obtain ⟨hd, rfl⟩ := hd
  have e0 : (0 : Int32).toInt = 0 := rfl
  have hn : ¬ z < 0 := by rw [Int32.lt_iff_toInt_lt]; omega
  have en : z.toNatClampNeg = n := by simp only [Int32.toNatClampNeg]; omega
  have hlt := Int32.toInt_lt z
  obtain ⟨T', h', cA, X', e', E, A, st⟩ := newP X hx hZ w eT (g := mkF m pc Ls (.int z :: rest)) rfl hd rfl hn (cap := cap) (by omega) hb hcl hsl
  refine (k T' h' _ rfl X' e' E ⟨by omega, _, A, by rw [sz_new]; exact en, fun i hi => ?_⟩).step st
  simp [newA, en, hi]
theorem w_arrlen (X : Stand p l e R s m args below meth c T locs cells slots) (hx : p.tables.exec = Jvm.exec) (hZ : Z.Warmed39 s.vm) (eT : T.heap = h) {a : Addr} {ty : FieldType} {n : Nat} {f : Nat → Value} (A : AV Z h a ty n f) {z : Int32} (hz : z.toInt = (n : Int)) (hd : Dc c.code pc .arraylength 1 pc') (k : Go FE p e below s Q C S (T.setTop (mkF m pc' Ls (.int z :: rest)))) : Go FE p e below s Q C S (T.setTop (mkF m pc Ls (.ref a :: rest))) := by
  obtain ⟨hd, rfl⟩ := hd
  obtain ⟨h1, c, A, r1, -⟩ := A
  have ez : z = c.slots.size.toInt32 := Int32.toInt_inj.mp (by rw [len_toInt (by omega), hz, r1])
  subst ez
  exact k.step fun t q => X.arraylength hx (by rw [eT]; exact A.1) (State.isArrayOf_alike hZ.alike A.2.1) (g := mkF m pc Ls (.ref a :: rest)) rfl rfl hd t q
def iF (g : Nat → Int32) : Nat → Value := fun k => .int (g k)
def lF (g : Nat → Int64) : Nat → Value := fun k => .long (g k)
def upd {α : Type} (g : Nat → α) (i : Nat) (v : α) : Nat → α := fun k => if k = i then v else g k
theorem upd_at {α : Type} (g : Nat → α) (i : Nat) (v : α) : upd g i v i = v := by simp [upd]
theorem upd_ne {α : Type} (g : Nat → α) {i k : Nat} (v : α) (q : k ≠ i) : upd g i v k = g k := by simp [upd, q]
theorem put_iF (g : Nat → Int32) (i : Nat) (v : Int32) : put (iF g) i (.int v) = iF (upd g i v) := by funext k; simp only [put, iF, upd]; split <;> rfl
theorem put_lF (g : Nat → Int64) (i : Nat) (v : Int64) : put (lF g) i (.long v) = lF (upd g i v) := by funext k; simp only [put, lF, upd]; split <;> rfl
theorem w_baload (X : Stand p l e R s m args below meth c T locs cells slots) (hx : p.tables.exec = Jvm.exec) (hZ : Z.Warmed39 s.vm) (eT : T.heap = h) {a : Addr} {n : Nat} {g : Nat → Int32} (A : AV Z h a .byte n (iF g)) {j : Int32} {i : Nat} (hj : j.toInt = (i : Int)) (hi : i < n) {z : Int32} (hv : g i = z) (hd : Dc c.code pc .baload 1 pc') (k : Go FE p e below s Q C S (T.setTop (mkF m pc' Ls (.int z :: rest)))) : Go FE p e below s Q C S (T.setTop (mkF m pc Ls (.int j :: .ref a :: rest))) := by
  obtain ⟨hd, rfl⟩ := hd
  subst hv
  obtain ⟨h1, cl, A, r1, r2⟩ := A
  obtain ⟨q1, q2⟩ := av_idx hj hi r1
  exact k.step fun t q => X.baloadBytes hx (by rw [eT]; exact A.1) (State.isArrayOf_alike hZ.alike A.2.1) A.2.2 q1 (by rw [q2, r2 i hi]; rfl) (g := mkF m pc Ls (.int j :: .ref a :: rest)) rfl rfl hd t q
theorem w_iaload (X : Stand p l e R s m args below meth c T locs cells slots) (hx : p.tables.exec = Jvm.exec) (hZ : Z.Warmed39 s.vm) (eT : T.heap = h) {a : Addr} {n : Nat} {g : Nat → Int32} (A : AV Z h a .int n (iF g)) {j : Int32} {i : Nat} (hj : j.toInt = (i : Int)) (hi : i < n) {z : Int32} (hv : g i = z) (hd : Dc c.code pc .iaload 1 pc') (k : Go FE p e below s Q C S (T.setTop (mkF m pc' Ls (.int z :: rest)))) : Go FE p e below s Q C S (T.setTop (mkF m pc Ls (.int j :: .ref a :: rest))) := by
  obtain ⟨hd, rfl⟩ := hd
  subst hv
  obtain ⟨h1, cl, A, r1, r2⟩ := A
  obtain ⟨q1, q2⟩ := av_idx hj hi r1
  exact k.step fun t q => X.iaload hx (by rw [eT]; exact A.1) (State.isArrayOf_alike hZ.alike A.2.1) A.2.2 q1 (by rw [q2, r2 i hi]; rfl) (g := mkF m pc Ls (.int j :: .ref a :: rest)) rfl rfl hd t q
theorem w_laload (X : Stand p l e R s m args below meth c T locs cells slots) (hx : p.tables.exec = Jvm.exec) (hZ : Z.Warmed39 s.vm) (eT : T.heap = h) {a : Addr} {n : Nat} {g : Nat → Int64} (A : AV Z h a .long n (lF g)) {j : Int32} {i : Nat} (hj : j.toInt = (i : Int)) (hi : i < n) {z : Int64} (hv : g i = z) (hd : Dc c.code pc .laload 1 pc') (k : Go FE p e below s Q C S (T.setTop (mkF m pc' Ls (.long z :: rest)))) : Go FE p e below s Q C S (T.setTop (mkF m pc Ls (.int j :: .ref a :: rest))) := by
  obtain ⟨hd, rfl⟩ := hd
  subst hv
  obtain ⟨h1, cl, A, r1, r2⟩ := A
  obtain ⟨q1, q2⟩ := av_idx hj hi r1
  exact k.step fun t q => X.laload hx (by rw [eT]; exact A.1) (State.isArrayOf_alike hZ.alike A.2.1) A.2.2 q1 (by rw [q2, r2 i hi]; rfl) (g := mkF m pc Ls (.int j :: .ref a :: rest)) rfl rfl hd t q
theorem w_zaload (X : Stand p l e R s m args below meth c T locs cells slots) (hx : p.tables.exec = Jvm.exec) (hZ : Z.Warmed39 s.vm) (eT : T.heap = h) {a : Addr} {n : Nat} {g : Nat → Int32} (A : AV Z h a .boolean n (iF g)) {j : Int32} {i : Nat} (hj : j.toInt = (i : Int)) (hi : i < n) {z : Int32} (hv : g i = z) (hd : Dc c.code pc .baload 1 pc') (k : Go FE p e below s Q C S (T.setTop (mkF m pc' Ls (.int z :: rest)))) : Go FE p e below s Q C S (T.setTop (mkF m pc Ls (.int j :: .ref a :: rest))) := by
  obtain ⟨hd, rfl⟩ := hd
  subst hv
  obtain ⟨h1, cl, A, r1, r2⟩ := A
  obtain ⟨q1, q2⟩ := av_idx hj hi r1
  exact k.step fun t q => X.baloadBooleans hx (by rw [eT]; exact A.1) (State.isArrayOf_alike hZ.alike A.2.1) A.2.2 q1 (by rw [q2, r2 i hi]; rfl) (g := mkF m pc Ls (.int j :: .ref a :: rest)) rfl rfl hd t q
theorem w_bastore (X : Stand p l e R s m args below meth c T locs cells slots) (hx : p.tables.exec = Jvm.exec) (hZ : Z.Warmed39 s.vm) (eT : T.heap = h) {a : Addr} {n : Nat} {g : Nat → Int32} (A : AV Z h a .byte n (iF g)) {j : Int32} {x : Int32} {i : Nat} (hj : j.toInt = (i : Int)) (hi : i < n) (hd : Dc c.code pc .bastore 1 pc')
    (k : ∀ T' h', Stand p l e R s m args below meth c T' (locs ++ [⟨a, i⟩]) cells slots → T'.heap = h' → Wr h h' a i (.int (x.toInt8.toInt32)) → AV Z h' a .byte n (iF (upd g i (x.toInt8.toInt32))) → Go FE p e below s Q C S (T'.setTop (mkF m pc' Ls rest))) : Go FE p e below s Q C S (T.setTop (mkF m pc Ls (.int x :: .int j :: .ref a :: rest))) := by
  obtain ⟨hd, rfl⟩ := hd
  have A' := A
  obtain ⟨h1, cl, A, r1, r2⟩ := A
  obtain ⟨q1, q2⟩ := av_idx hj hi r1
  obtain ⟨T', h', X', e', W, st⟩ := stB X hx hZ eT A (j := j) q1 (g := mkF m pc Ls (.int x :: .int j :: .ref a :: rest)) rfl rfl hd
  rw [q2] at X' W
  exact (k T' h' X' e' W (put_iF g i _ ▸ A'.same hi W)).step st
theorem w_zastore (X : Stand p l e R s m args below meth c T locs cells slots) (hx : p.tables.exec = Jvm.exec) (hZ : Z.Warmed39 s.vm) (eT : T.heap = h) {a : Addr} {n : Nat} {g : Nat → Int32} (A : AV Z h a .boolean n (iF g)) {j : Int32} {x : Int32} {i : Nat} (hj : j.toInt = (i : Int)) (hi : i < n) (hd : Dc c.code pc .bastore 1 pc')
    (k : ∀ T' h', Stand p l e R s m args below meth c T' (locs ++ [⟨a, i⟩]) cells slots → T'.heap = h' → Wr h h' a i (.int (x &&& 1)) → AV Z h' a .boolean n (iF (upd g i (x &&& 1))) → Go FE p e below s Q C S (T'.setTop (mkF m pc' Ls rest))) : Go FE p e below s Q C S (T.setTop (mkF m pc Ls (.int x :: .int j :: .ref a :: rest))) := by
  obtain ⟨hd, rfl⟩ := hd
  have A' := A
  obtain ⟨h1, cl, A, r1, r2⟩ := A
  obtain ⟨q1, q2⟩ := av_idx hj hi r1
  obtain ⟨T', h', X', e', W, st⟩ := stZ X hx hZ eT A (j := j) q1 (g := mkF m pc Ls (.int x :: .int j :: .ref a :: rest)) rfl rfl hd
  rw [q2] at X' W
  exact (k T' h' X' e' W (put_iF g i _ ▸ A'.same hi W)).step st
theorem w_iastore (X : Stand p l e R s m args below meth c T locs cells slots) (hx : p.tables.exec = Jvm.exec) (hZ : Z.Warmed39 s.vm) (eT : T.heap = h) {a : Addr} {n : Nat} {g : Nat → Int32} (A : AV Z h a .int n (iF g)) {j : Int32} {x : Int32} {i : Nat} (hj : j.toInt = (i : Int)) (hi : i < n) (hd : Dc c.code pc .iastore 1 pc')
    (k : ∀ T' h', Stand p l e R s m args below meth c T' (locs ++ [⟨a, i⟩]) cells slots → T'.heap = h' → Wr h h' a i (.int (x)) → AV Z h' a .int n (iF (upd g i (x))) → Go FE p e below s Q C S (T'.setTop (mkF m pc' Ls rest))) : Go FE p e below s Q C S (T.setTop (mkF m pc Ls (.int x :: .int j :: .ref a :: rest))) := by
  obtain ⟨hd, rfl⟩ := hd
  have A' := A
  obtain ⟨h1, cl, A, r1, r2⟩ := A
  obtain ⟨q1, q2⟩ := av_idx hj hi r1
  obtain ⟨T', h', X', e', W, st⟩ := stI X hx hZ eT A (j := j) q1 (g := mkF m pc Ls (.int x :: .int j :: .ref a :: rest)) rfl rfl hd
  rw [q2] at X' W
  exact (k T' h' X' e' W (put_iF g i _ ▸ A'.same hi W)).step st
theorem w_lastore (X : Stand p l e R s m args below meth c T locs cells slots) (hx : p.tables.exec = Jvm.exec) (hZ : Z.Warmed39 s.vm) (eT : T.heap = h) {a : Addr} {n : Nat} {g : Nat → Int64} (A : AV Z h a .long n (lF g)) {j : Int32} {x : Int64} {i : Nat} (hj : j.toInt = (i : Int)) (hi : i < n) (hd : Dc c.code pc .lastore 1 pc')
    (k : ∀ T' h', Stand p l e R s m args below meth c T' (locs ++ [⟨a, i⟩]) cells slots → T'.heap = h' → Wr h h' a i (.long (x)) → AV Z h' a .long n (lF (upd g i (x))) → Go FE p e below s Q C S (T'.setTop (mkF m pc' Ls rest))) : Go FE p e below s Q C S (T.setTop (mkF m pc Ls (.long x :: .int j :: .ref a :: rest))) := by
  obtain ⟨hd, rfl⟩ := hd
  have A' := A
  obtain ⟨h1, cl, A, r1, r2⟩ := A
  obtain ⟨q1, q2⟩ := av_idx hj hi r1
  obtain ⟨T', h', X', e', W, st⟩ := stJ X hx hZ eT A (j := j) q1 (g := mkF m pc Ls (.long x :: .int j :: .ref a :: rest)) rfl rfl hd
  rw [q2] at X' W
  exact (k T' h' X' e' W (put_lF g i _ ▸ A'.same hi W)).step st
end Kit
section Num
/-! numbers: an int's or a long's unsigned worth -/
def u32 (x : Int32) : Nat := x.toBitVec.toNat
def u64 (x : Int64) : Nat := x.toBitVec.toNat
theorem u32_lt (x : Int32) : u32 x < 4294967296 := x.toBitVec.isLt
theorem u64_lt (x : Int64) : u64 x < 18446744073709551616 := x.toBitVec.isLt
theorem i_u32 (x : Int32) : x.toInt = if u32 x < 2147483648 then (u32 x : Int) else (u32 x : Int) - 4294967296 := by
  show x.toBitVec.toInt = _
  rw [BitVec.toInt_eq_toNat_cond]; unfold u32; split <;> split <;> omega
theorem i_u64 (x : Int64) : x.toInt = if u64 x < 9223372036854775808 then (u64 x : Int) else (u64 x : Int) - 18446744073709551616 := by
  show x.toBitVec.toInt = _
  rw [BitVec.toInt_eq_toNat_cond]; unfold u64; split <;> split <;> omega
theorem u32_i (x : Int32) : (u32 x : Int) = x.toInt % 4294967296 := by have := u32_lt x; rw [i_u32]; split <;> omega
theorem u64_i (x : Int64) : (u64 x : Int) = x.toInt % 18446744073709551616 := by have := u64_lt x; rw [i_u64]; split <;> omega
theorem u32_inj {x y : Int32} (q : u32 x = u32 y) : x = y := Int32.toBitVec_inj.mp (BitVec.eq_of_toNat_eq q)
theorem u64_inj {x y : Int64} (q : u64 x = u64 y) : x = y := Int64.toBitVec_inj.mp (BitVec.eq_of_toNat_eq q)
theorem i32_inj {x y : Int32} (q : x.toInt = y.toInt) : x = y := Int32.toInt_inj.mp q
theorem i64_inj {x y : Int64} (q : x.toInt = y.toInt) : x = y := Int64.toInt_inj.mp q
theorem i32_ne {x y : Int32} (q : x ≠ y) : x.toInt ≠ y.toInt := fun e => q (Int32.toInt_inj.mp e)
theorem i64_ne {x y : Int64} (q : x ≠ y) : x.toInt ≠ y.toInt := fun e => q (Int64.toInt_inj.mp e)
theorem i_rng32 (x : Int32) : -2147483648 ≤ x.toInt ∧ x.toInt ≤ 2147483647 := by have := u32_lt x; rw [i_u32]; split <;> omega
theorem i_rng64 (x : Int64) : -9223372036854775808 ≤ x.toInt ∧ x.toInt ≤ 9223372036854775807 := by have := u64_lt x; rw [i_u64]; split <;> omega
theorem u32_and (x m : Int32) {k : Nat} (hm : u32 m = 2 ^ k - 1) : u32 (x &&& m) = u32 x % 2 ^ k := by
  unfold u32 at *; rw [Int32.toBitVec_and, BitVec.toNat_and, hm, Nat.and_two_pow_sub_one_eq_mod]
theorem u64_and (x m : Int64) {k : Nat} (hm : u64 m = 2 ^ k - 1) : u64 (x &&& m) = u64 x % 2 ^ k := by
  unfold u64 at *; rw [Int64.toBitVec_and, BitVec.toNat_and, hm, Nat.and_two_pow_sub_one_eq_mod]
theorem and_or64 (x y z : Int64) : x &&& (y ||| z) = (x &&& y) ||| (x &&& z) := by
  apply Int64.toBitVec_inj.mp
  simp only [Int64.toBitVec_and, Int64.toBitVec_or]
  exact BitVec.and_or_distrib_left
theorem or_add {a b : Nat} (k : Nat) (ha : a % 2 ^ k = 0) (hb : b < 2 ^ k) : a ||| b = a + b := by
  obtain ⟨q, rfl⟩ := Nat.dvd_of_mod_eq_zero ha
  exact (Nat.two_pow_add_eq_or_of_lt hb q).symm
theorem u32_or {x y : Int32} (k : Nat) (ha : u32 x % 2 ^ k = 0) (hb : u32 y < 2 ^ k) : u32 (x ||| y) = u32 x + u32 y := by
  unfold u32 at *; rw [Int32.toBitVec_or, BitVec.toNat_or, or_add k ha hb]
theorem u64_or {x y : Int64} (k : Nat) (ha : u64 x % 2 ^ k = 0) (hb : u64 y < 2 ^ k) : u64 (x ||| y) = u64 x + u64 y := by
  unfold u64 at *; rw [Int64.toBitVec_or, BitVec.toNat_or, or_add k ha hb]
theorem u32_add (x y : Int32) : u32 (x + y) = (u32 x + u32 y) % 4294967296 := by unfold u32; rw [Int32.toBitVec_add, BitVec.toNat_add]
theorem u64_add (x y : Int64) : u64 (x + y) = (u64 x + u64 y) % 18446744073709551616 := by unfold u64; rw [Int64.toBitVec_add, BitVec.toNat_add]
theorem i_ofNat {k : Nat} (hk : k < 2147483648) : (Int32.ofNat k).toInt = (k : Int) := Int32.toInt_ofNat_of_lt (by omega)
theorem of_i {y : Int32} {k : Nat} (q : y.toInt = (k : Int)) : y = Int32.ofNat k := by
  have := i_rng32 y
  exact Int32.toInt_inj.mp (by rw [i_ofNat (by omega)]; exact q)
theorem sh64a : ∀ k : Fin 64, (((Int32.ofNat k.val &&& 0x3f).toInt64).toBitVec.smod 64).toNat = k.val := by decide +kernel
theorem sh64b : ∀ k : Fin 64, ((Int32.ofNat k.val &&& 0x3f).toInt64.toUInt64.toBitVec % 64).toNat = k.val := by decide +kernel
theorem sh32a : ∀ k : Fin 32, ((Int32.ofNat k.val &&& 31).toBitVec.smod 32).toNat = k.val := by decide +kernel
theorem sh32b : ∀ k : Fin 32, ((Int32.ofNat k.val &&& 31).toUInt32.toBitVec % 32).toNat = k.val := by decide +kernel
theorem u_lshl (x : Int64) {y : Int32} {k : Nat} (q : y.toInt = (k : Int)) (hk : k < 64) : u64 (LShl x y) = u64 x * 2 ^ k % 18446744073709551616 := by
  have e := sh64a ⟨k, hk⟩
  rw [of_i q]; unfold u64 LShl
  rw [Int64.toBitVec_shiftLeft, BitVec.shiftLeft_eq', e, BitVec.toNat_shiftLeft, Nat.shiftLeft_eq]
theorem i_lshr (x : Int64) {y : Int32} {k : Nat} (q : y.toInt = (k : Int)) (hk : k < 64) : (LShr x y).toInt = x.toInt / 2 ^ k := by
  have e := sh64a ⟨k, hk⟩
  rw [of_i q]; unfold LShr
  exact Jvm.Kit.i64_shr x _ e
theorem u_lushr (x : Int64) {y : Int32} {k : Nat} (q : y.toInt = (k : Int)) (hk : k < 64) : u64 (LUshr x y) = u64 x / 2 ^ k := by
  have e := sh64b ⟨k, hk⟩
  rw [of_i q]; unfold u64 LUshr
  show (x.toUInt64 >>> (Int32.ofNat k &&& 0x3f).toInt64.toUInt64).toBitVec.toNat = _
  rw [UInt64.toBitVec_shiftRight, BitVec.ushiftRight_eq', e, BitVec.toNat_ushiftRight, Nat.shiftRight_eq_div_pow]; rfl
theorem u_ishl (x : Int32) {y : Int32} {k : Nat} (q : y.toInt = (k : Int)) (hk : k < 32) : u32 (IShl x y) = u32 x * 2 ^ k % 4294967296 := by
  have e := sh32a ⟨k, hk⟩
  rw [of_i q]; unfold u32 IShl
  rw [Int32.toBitVec_shiftLeft, BitVec.shiftLeft_eq', e, BitVec.toNat_shiftLeft, Nat.shiftLeft_eq]
theorem i_ishr (x : Int32) {y : Int32} {k : Nat} (q : y.toInt = (k : Int)) (hk : k < 32) : (IShr x y).toInt = x.toInt / 2 ^ k := by
  have e := sh32a ⟨k, hk⟩
  rw [of_i q]; unfold IShr
  exact Jvm.Kit.i32_shr x _ e
theorem u_iushr (x : Int32) {y : Int32} {k : Nat} (q : y.toInt = (k : Int)) (hk : k < 32) : u32 (IUshr x y) = u32 x / 2 ^ k := by
  have e := sh32b ⟨k, hk⟩
  rw [of_i q]; unfold u32 IUshr
  show (x.toUInt32 >>> (Int32.ofNat k &&& 31).toUInt32).toBitVec.toNat = _
  rw [UInt32.toBitVec_shiftRight, BitVec.ushiftRight_eq', e, BitVec.toNat_ushiftRight, Nat.shiftRight_eq_div_pow]; rfl
theorem i_i2l (x : Int32) : x.toInt64.toInt = x.toInt := Int32.toInt_toInt64 x
theorem u_l2i (x : Int64) : u32 x.toInt32 = u64 x % 4294967296 := by
  have h1 := u32_i x.toInt32; have h2 := u64_i x
  have e : x.toInt.bmod (2 ^ 32) % 4294967296 = x.toInt % 4294967296 := Int.bmod_emod
  rw [Int64.toInt_toInt32, e] at h1
  omega
theorem i_i2b (x : Int32) : x.toInt8.toInt32.toInt = if x.toInt % 256 < 128 then x.toInt % 256 else x.toInt % 256 - 256 := by
  rw [Int8.toInt_toInt32, Int32.toInt_toInt8, Int.bmod_def]; split <;> split <;> omega
theorem u_i2b (x : Int32) : u32 x.toInt8.toInt32 % 256 = u32 x % 256 := by
  have h1 := u32_i x.toInt8.toInt32; have h2 := u32_i x; rw [i_i2b] at h1; split at h1 <;> omega
end Num
section Arr
variable {p : Program} {l : Launch} {e : Env} {R : Room} {s : State} {m : MethodId} {args : Array Value} {below : List Frame} {meth : Method} {c : Code} {T : State} {locs : List Loc} {cells slots : Nat} {Z : State} {a0 : Array Value} {h : Heap}
variable {Q : Option Value → Heap → List Loc → Prop} {C S : Nat} {pc pc' : Nat} {Ls Ls' : Array Slot} {rest : List Value}
variable {FE : State → Outcome → State → List Loc → Nat → Nat → Prop}
/-! bytes: arrays copied and cloned; a private method -/
def lst (n : Nat) (g : Nat → Int32) : List Value := (List.range n).map fun i => .int (g i)
theorem lst_at {n : Nat} {g : Nat → Int32} {i : Nat} (hi : i < n) (d : Value) : (lst n g).getD i d = .int (g i) := by
  simp [lst, List.getD_eq_getElem?_getD, hi]
theorem clamp_n {n : Nat} (hn : n < 2147483648) : (Int32.ofNat n).toNatClampNeg = n := by
  simp only [Int32.toNatClampNeg, i_ofNat hn]; omega
theorem clamp_i {z : Int32} {n : Nat} (q : z.toInt = (n : Int)) : z.toNatClampNeg = n := by
  simp only [Int32.toNatClampNeg, q]; omega
theorem nneg {z : Int32} {n : Nat} (q : z.toInt = (n : Int)) : ¬ z < 0 := by
  have e0 : (0 : Int32).toInt = 0 := rfl
  rw [Int32.lt_iff_toInt_lt]; omega
theorem AV.toArv {a : Addr} {n : Nat} {g : Nat → Int32} (A : AV Z h a .byte n (iF g)) (hY : ∀ j, (g j).toInt8.toInt32 = g j) : ∃ k, Arv Z h a k .byte (Int32.ofNat n) (lst n g) (.int 0) := by
  obtain ⟨h1, cl, A, r1, r2⟩ := A
  refine ⟨cl.cls, cl, A, rfl, by rw [clamp_n (by omega)]; exact r1, nneg (i_ofNat (by omega)), fun i hi => ?_, fun i hi => ?_⟩
  · rw [r1] at hi; rw [r2 i hi, lst_at hi]; rfl
  · rw [r1] at hi; rw [lst_at hi, ← hY i]; exact fits_nar_byte _
theorem AV.ofArv {a : Addr} {n : Nat} {g : Nat → Int32} {k : ClassId} {z : Int32} {vs : List Value} {dv : Value} (A : Arv Z h a k .byte z vs dv) (hz : z.toInt = (n : Int)) (hg : ∀ i, i < n → vs.getD i dv = .int (g i)) : AV Z h a .byte n (iF g) := by
  obtain ⟨cl, A, -, r1, -, r2, -⟩ := A
  rw [clamp_i hz] at r1
  have := Int32.toInt_lt z
  exact ⟨by omega, cl, A, r1, fun i hi => by rw [r2 i (by omega), hg i hi]; rfl⟩
def cpy (ga gb : Nat → Int32) (sp dp n : Nat) : Nat → Int32 := fun j => if dp ≤ j ∧ j < dp + n then ga (sp + (j - dp)) else gb j
theorem w_acopy (X : Stand p l e R s m args below meth c T locs cells slots) (hx : p.tables.exec = Jvm.exec) (hZ : Z.Warmed39 s.vm) (eT : T.heap = h) {kk : Nat} (hml : c.maxLocals = kk) (hkk : Ls.size = kk) {own : String} (hown : s.vm.findClass own = some m.cls) {index : Nat}
    (w1 : (Jvm.Cond.methodLink own index Jvm.Stand.acN).before a0 Z = true) (w2 : (Jvm.Cond.native Jvm.Stand.acN).before a0 Z = true) (w3 : (Jvm.Cond.static Jvm.Stand.acN).before a0 Z = true) (w4 : (Jvm.Cond.initialized "java/lang/System").before a0 Z = true)
    {a b : Addr} {na nb : Nat} {ga gb : Nat → Int32} (A : AV Z h a .byte na (iF ga)) (B : AV Z h b .byte nb (iF gb)) (Ya : ∀ j, (ga j).toInt8.toInt32 = ga j) (Yb : ∀ j, (gb j).toInt8.toInt32 = gb j) {zs zd zn : Int32} {sp dp n : Nat} (hs : zs.toInt = (sp : Int)) (hd' : zd.toInt = (dp : Int)) (hn : zn.toInt = (n : Int)) (h4 : sp + n ≤ na) (h5 : dp + n ≤ nb) {n0 : Nat} (N : Fr n0 locs) (ge : n0 ≤ b)
    (hd : Dc c.code pc (.invokestatic index) 3 pc') (hf : 1 ≤ R.frames) {W : Nat} (hW : (rest.map fun v => v.category).sum = W) (hlo : W + (nativeFrameWords "java/lang/System" "arraycopy" 5 + 11) ≤ R.locals)
    (k : ∀ T' h' L, Stand p l e R s m args below meth c T' L cells slots → T'.heap = h' → Fr n0 L → Keep h h' [b] → AV Z h' b .byte nb (iF (cpy ga gb sp dp n)) → Go FE p e below s Q C S (T'.setTop (mkF m pc' Ls rest))) :
    Go FE p e below s Q C S (T.setTop (mkF m pc Ls (.int zn :: .int zd :: .ref b :: .int zs :: .ref a :: rest))) := by
  obtain ⟨hd, rfl⟩ := hd
  have na2 := A.1; have nb2 := B.1
  obtain ⟨ka, VA⟩ := A.toArv Ya
  obtain ⟨kb, VB⟩ := B.toArv Yb
  have ln : (lst nb gb).length = nb := by simp [lst]
  obtain ⟨T', h', L, X', e', N', K', V', st⟩ := cpA X hx hZ hown w1 w2 w3 w4 eT VA VB (us := (List.range zn.toNatClampNeg).map fun i => (lst na ga).getD (zs.toNatClampNeg + i) (.int 0)) (Or.inl ⟨rfl, rfl⟩) (nneg hs) (nneg hd') (nneg hn) (by rw [clamp_i hs, clamp_i hn, clamp_n (by omega)]; exact h4) (by rw [clamp_i hd', clamp_i hn, clamp_n (by omega)]; exact h5) rfl (by rw [clamp_i hd', clamp_i hn, ln]; exact h5) N ge (g := mkF m pc Ls (.int zn :: .int zd :: .ref b :: .int zs :: .ref a :: rest)) rfl (hkk.trans hml.symm) rfl hd hf (W := W) (by show 2 * 0 + _ ≤ _; omega) hlo
  refine (k T' h' L X' e' N' K' (AV.ofArv V' (i_ofNat (by omega)) fun i hi => ?_)).step st
  rw [clamp_i hd', clamp_i hn, clamp_i hs]
  have hlen1 : ((lst nb gb).take dp).length = dp := by rw [List.length_take, ln]; omega
  simp only [List.getD_eq_getElem?_getD]
  by_cases q1 : i < dp
  · rw [List.append_assoc, List.getElem?_append_left (by rw [hlen1]; exact q1), List.getElem?_take_of_lt q1, cpy, if_neg (by omega)]
    have := lst_at (g := gb) hi (.int 0); simpa [List.getD_eq_getElem?_getD] using this
  · by_cases q2 : i < dp + n
    · rw [List.append_assoc, List.getElem?_append_right (by rw [hlen1]; omega), hlen1, List.getElem?_append_left (by simp; omega), cpy, if_pos (by omega)]
      have q3 : i - dp < n := by omega
      have := lst_at (g := ga) (i := sp + (i - dp)) (n := na) (by omega) (.int 0)
      simp only [List.getD_eq_getElem?_getD] at this
      simp [q3, this]
    · rw [List.getElem?_append_right (by simp [hlen1]; omega), cpy, if_neg (by omega)]
      have e3 : ((lst nb gb).take dp ++ (List.range n).map fun i => (lst na ga)[sp + i]?.getD (.int 0)).length = dp + n := by simp [hlen1]
      rw [e3, List.getElem?_drop, show dp + n + (i - (dp + n)) = i by omega]
      have := lst_at (g := gb) hi (.int 0); simpa [List.getD_eq_getElem?_getD] using this
theorem w_newarrE (X : Stand p l e R s m args below meth c T locs cells slots) (hx : p.tables.exec = Jvm.exec) (hZ : Z.Warmed39 s.vm) (eT : T.heap = h) (w : (Jvm.Cond.arrayClass .byte).before a0 Z = true) (hd : Dc c.code pc (.newarray .byte) 2 pc') {z : Int32} {n cap : Nat} (hz : z.toInt = (n : Int)) (hcap : n ≤ cap) (hb : cap * 8 ≤ 536870912) (hcl : cells + 1 ≤ R.cells) (hsl : slots + cap ≤ R.slots)
    (k : ∀ T' h' b, b = h.size → Stand p l e R s m args below meth c T' locs (cells + 1) (slots + cap) → T'.heap = h' → Ext h h' → AV Z h' b .byte n (iF (fun _ => 0)) → Exa Z h' b "[B" → Go FE p e below s Q C S (T'.setTop (mkF m pc' Ls (.ref b :: rest)))) : Go FE p e below s Q C S (T.setTop (mkF m pc Ls (.int z :: rest))) := by
  obtain ⟨hd, rfl⟩ := hd
  have e0 : (0 : Int32).toInt = 0 := rfl
  have hn : ¬ z < 0 := nneg hz
  have en : z.toNatClampNeg = n := clamp_i hz
  have hlt := Int32.toInt_lt z
  obtain ⟨T', h', cA, X', e', E, A, EA, st⟩ := newPE X hx hZ (aty := .byte) w eT (g := mkF m pc Ls (.int z :: rest)) rfl hd rfl hn (cap := cap) (by omega) hb hcl hsl (ad := "[B") (by decide)
  refine (k T' h' _ rfl X' e' E ⟨by omega, _, A, by rw [sz_new]; exact en, fun i hi => ?_⟩ EA).step st
  simp [newA, en, hi, iF]; rfl
theorem w_clone (X : Stand p l e R s m args below meth c T locs cells slots) (hx : p.tables.exec = Jvm.exec) (hZ : Z.Warmed39 s.vm) (eT : T.heap = h) {kk : Nat} (hml : c.maxLocals = kk) (hkk : Ls.size = kk) {own : String} (hown : s.vm.findClass own = some m.cls) {index : Nat}
    (w1 : (Jvm.Cond.methodLink own index ⟨"[B", "clone", "()Ljava/lang/Object;"⟩).before a0 Z = true) (w2 : (Jvm.Cond.sameMethod "[B" "java/lang/Object" "clone" "()Ljava/lang/Object;").before a0 Z = true) (w3 : (Jvm.Cond.native ⟨"java/lang/Object", "clone", "()Ljava/lang/Object;"⟩).before a0 Z = true)
    (w4 : (Jvm.Cond.instanceMethod ⟨"java/lang/Object", "clone", "()Ljava/lang/Object;"⟩).before a0 Z = true) (w5 : (Jvm.Cond.selects "[B" ⟨"[B", "clone", "()Ljava/lang/Object;"⟩ ⟨"java/lang/Object", "clone", "()Ljava/lang/Object;"⟩).before a0 Z = true) (w6 : (Jvm.Cond.castable "[B" "java/lang/Cloneable").before a0 Z = true)
    {a : Addr} {n : Nat} {g : Nat → Int32} (A : AV Z h a .byte n (iF g)) (Y : ∀ j, (g j).toInt8.toInt32 = g j) (E : Exa Z h a "[B") (hd : Dc c.code pc (.invokevirtual index) 3 pc') (hf : 1 ≤ R.frames) {W cap : Nat} (hW : (rest.map fun v => v.category).sum = W) (hl : W + 14 ≤ R.locals) (hcap : n ≤ cap) (hcl : cells + 1 ≤ R.cells) (hsl : slots + cap ≤ R.slots)
    (k : ∀ T' h' b, b = h.size → Stand p l e R s m args below meth c T' locs (cells + 1) (slots + cap) → T'.heap = h' → Ext h h' → AV Z h' b .byte n (iF g) → Exa Z h' b "[B" → Go FE p e below s Q C S (T'.setTop (mkF m pc' Ls (.ref b :: rest)))) : Go FE p e below s Q C S (T.setTop (mkF m pc Ls (.ref a :: rest))) := by
  obtain ⟨hd, rfl⟩ := hd
  have n2 := A.1
  obtain ⟨ka, VA⟩ := A.toArv Y
  obtain ⟨T', h', X', e', EX, V', E', st⟩ := cloneH X hx hZ hown w1 w2 w3 w4 w5 w6 eT VA.arh E (g := mkF m pc Ls (.ref a :: rest)) rfl (hkk.trans hml.symm) rfl hd hf (W := W) (cap := cap) (by show 2 * 0 + _ ≤ _; omega) hl (by rw [clamp_n (by omega)]; exact hcap) hcl hsl
  exact (k T' h' _ rfl X' e' EX (AV.ofArv (show Arv Z h' h.size ka .byte (Int32.ofNat n) (lst n g) (.int 0) from V') (i_ofNat (by omega)) fun i hi => lst_at hi _) E').step st
theorem w_cast (X : Stand p l e R s m args below meth c T locs cells slots) (hx : p.tables.exec = Jvm.exec) (hZ : Z.Warmed39 s.vm) (eT : T.heap = h) {own K : String} (hown : s.vm.findClass own = some m.cls) {index : Nat} (w : (Jvm.Cond.classLink own index K).before a0 Z = true) {a : Addr} (E : Exa Z h a K) (hd : Dc c.code pc (.checkcast index) 3 pc')
    (k : ∀ T', Stand p l e R s m args below meth c T' locs cells slots → T'.heap = h → Go FE p e below s Q C S (T'.setTop (mkF m pc' Ls (.ref a :: rest)))) : Go FE p e below s Q C S (T.setTop (mkF m pc Ls (.ref a :: rest))) := by
  obtain ⟨hd, rfl⟩ := hd
  obtain ⟨T', X', e', st⟩ := castY X hx hZ hown w eT (Ins.self E) (g := mkF m pc Ls (.ref a :: rest)) rfl rfl hd
  exact (k T' X' e').step st
theorem own_sel {y : MethodName} {n : Nat} {args : Array Value} (hZ : Z.Warmed39 s.vm) (hins : (Jvm.Cond.instantiable y.cls n).before a0 Z = true) (hpriv : (Jvm.Cond.privateMethod y).before a0 Z = true) (hinst : (Jvm.Cond.instanceMethod y).before a0 Z = true) (hy : y.cls ≠ "java/lang/invoke/MethodHandle" ∧ y.cls ≠ "java/lang/invoke/VarHandle") : (Jvm.Cond.selects y.cls y y).before args s = true := by
  have h1 : (Jvm.Cond.instantiable y.cls n).before args s = true := mvT hZ hins
  obtain ⟨c, k, hc, hk, -, hniab, -, -⟩ := Cond.instantiable_spec h1
  exact selects_self_of_private hc hk (Bool.or_eq_false_iff.mp hniab).1 (Cond.privateMethod_at (mvP hZ hpriv (args := #[]))) (mvT hZ hinst) hy
theorem w_callP (X : Stand p l e R s m args below meth c T locs cells slots) (hx : p.tables.exec = Jvm.exec) (hZ : Z.Warmed39 s.vm) (eT : T.heap = h) {kk : Nat} (hml : c.maxLocals = kk) (hkk : Ls.size = kk) {own : String} (hown : s.vm.findClass own = some m.cls) {index : Nat} {y : MethodName} {bytes : ByteArray} {maxL : Nat} {ret : Option FieldType} {rm : Room} {as' : Array Value} {Qc : Option Value → Heap → List Loc → Prop} {nn : Nat}
    (w1 : (Jvm.Cond.methodLink own index y).before a0 Z = true) (w6 : (Jvm.Cond.instanceMethod y).before a0 Z = true) (w5 : (Jvm.Cond.instantiable y.cls nn).before a0 Z = true) (w7 : (Jvm.Cond.privateMethod y).before a0 Z = true) (w3 : (Jvm.Cond.initialized y.cls).before a0 Z = true) (w4 : (Jvm.Cond.code y bytes maxL ret).before a0 Z = true) (hy : y.cls ≠ "java/lang/invoke/MethodHandle" ∧ y.cls ≠ "java/lang/invoke/VarHandle")
    (hM : Ct l Z y bytes maxL ret rm as' h Qc) {b : Addr} (E : Exa Z h b y.cls) (hd : Dc c.code pc (.invokevirtual index) 3 pc') {ps : List FieldType} {r : Option FieldType} (hpd : parseMethodDescriptor y.desc = some ⟨ps, r⟩) {argsL st rest : List Value} (has : (.ref b :: argsL).toArray = as') (hst : st = argsL.reverse ++ .ref b :: rest) (hlen : argsL.length = ps.length) {W : Nat} (hW : (rest.map fun v => v.category).sum = W)
    (hf : rm.frames + 1 ≤ R.frames) (hl : W + (maxL + 11) + rm.locals ≤ R.locals) (hcl : cells + rm.cells ≤ R.cells) (hsl : slots + rm.slots ≤ R.slots)
    (k : ∀ (v : Option Value) (T' : State) (L : List Loc), Stand p l e R s m args below meth c T' (locs ++ L) (cells + rm.cells) (slots + rm.slots) → Qc v T'.heap L → Go FE p e below s Q C S (T'.setTop (mkF m pc' Ls (v.toList ++ rest)))) :
    Go FE p e below s Q C S (T.setTop (mkF m pc Ls st)) := by
  subst hst has hW
  obtain ⟨hd, rfl⟩ := hd
  obtain ⟨cq, q, q'⟩ := E.cell
  obtain ⟨v, _, ⟨T', L', k', n'⟩, -, X', ⟨Lc, hQ, e1, e2, e3⟩, st⟩ := X.privateBack hx (y := y) hown (mvT hZ w1) (mvT hZ w6) (own_sel hZ w5 w7 w6 hy) (Cond.privateMethod_at (mvP hZ w7 (args := #[]))) (mvT hZ w4) hy (backOf (W := (rest.map fun v => v.category).sum) hM hZ w4 w3 hf hl) (g := mkF m pc Ls (argsL.reverse ++ .ref b :: rest)) rfl (hkk.trans hml.symm) (Steps.refl _) (a := b) (by rw [eT]; exact q) q' (argsL := argsL) (rest := rest) (lenOf hpd hlen) rfl (by show 2 * 0 + _ ≤ _; omega) hd (fun _ _ => ⟨rfl, eT, hcl, hsl⟩)
  dsimp only [Pt.U, Pt.locs, Pt.cells, Pt.slots] at X' e1 e2 e3 st hQ
  subst e1 e2 e3
  exact (k v T' Lc X' hQ).step fun _ q => st.trans q
theorem w_acmpN (X : Stand p l e R s m args below meth c T locs cells slots) (hx : p.tables.exec = Jvm.exec) {o : Int} {a : Addr} {pcT pcF : Nat} (hd : Dj c.code pc (.if_acmp .ne o) o pcT pcF) (k : Go FE p e below s Q C S (T.setTop (mkF m pcF Ls rest))) : Go FE p e below s Q C S (T.setTop (mkF m pc Ls (.ref a :: .ref a :: rest))) :=
  w_acmp X hx hd rfl rfl (b := false) (by simp [acV]) k
theorem w_acmpE (X : Stand p l e R s m args below meth c T locs cells slots) (hx : p.tables.exec = Jvm.exec) {o : Int} {a : Addr} {pcT pcF : Nat} (hd : Dj c.code pc (.if_acmp .eq o) o pcT pcF) (k : Go FE p e below s Q C S (T.setTop (mkF m pcT Ls rest))) : Go FE p e below s Q C S (T.setTop (mkF m pc Ls (.ref a :: .ref a :: rest))) :=
  w_acmp X hx hd rfl rfl (b := true) (by simp [acV]) k
end Arr
section Wide
variable {p : Program} {l : Launch} {e : Env} {R : Room} {s : State} {m : MethodId} {args : Array Value} {below : List Frame} {meth : Method} {c : Code} {T : State} {locs : List Loc} {cells slots : Nat} {Z : State} {a0 : Array Value} {h : Heap}
variable {Q : Option Value → Heap → List Loc → Prop} {C S : Nat} {pc pc' : Nat} {Ls Ls' : Array Slot} {rest : List Value}
variable {FE : State → Outcome → State → List Loc → Nat → Nat → Prop}
/-! a static read, instanceof, a String constant loaded cold; the wide frame -/
theorem w_gets (X : Stand p l e R s m args below meth c T locs cells slots) (hx : p.tables.exec = Jvm.exec) (hZ : Z.Warmed39 s.vm) (eT : T.heap = h) {own O n d : String} {index : Nat} (hown : s.vm.findClass own = some m.cls) (w : (Jvm.Cond.fieldLink own index O n d).before a0 Z = true) {v : Value} (F : Sta Z h O n d v) (hd : Dc c.code pc (.getstatic index) 3 pc')
    (k : ∀ T', Stand p l e R s m args below meth c T' locs cells slots → T'.heap = h → Go FE p e below s Q C S (T'.setTop (mkF m pc' Ls (v :: rest)))) : Go FE p e below s Q C S (T.setTop (mkF m pc Ls rest)) := by
  obtain ⟨hd, rfl⟩ := hd
  obtain ⟨T', X', e', st⟩ := getS X hx hZ (host := "") hown w Via.refl eT F (g := mkF m pc Ls rest) rfl hd
  exact (k T' X' e').step st
theorem w_inst (X : Stand p l e R s m args below meth c T locs cells slots) (hx : p.tables.exec = Jvm.exec) (hZ : Z.Warmed39 s.vm) (eT : T.heap = h) {own K : String} (hown : s.vm.findClass own = some m.cls) {index : Nat} (w : (Jvm.Cond.classLink own index K).before a0 Z = true) {a : Addr} (E : Exa Z h a K) (hd : Dc c.code pc (.instanceof index) 3 pc')
    (k : ∀ T', Stand p l e R s m args below meth c T' locs cells slots → T'.heap = h → Go FE p e below s Q C S (T'.setTop (mkF m pc' Ls (.int 1 :: rest)))) : Go FE p e below s Q C S (T.setTop (mkF m pc Ls (.ref a :: rest))) := by
  obtain ⟨hd, rfl⟩ := hd
  obtain ⟨T', X', e', st⟩ := instY X hx hZ hown w eT (Ins.self E) (g := mkF m pc Ls (.ref a :: rest)) rfl rfl hd
  exact (k T' X' e').step st
/-- from the narrow frame over the start with the tables at hand to the wide one over the true start -/
theorem Go.wide {vm₁ : Vm} {n : Nat} {σ : State} (hS : s.Since vm₁ n) (k : Go FrameEnd p e below (s.setVm vm₁) (fun v h L => n ≤ h.size ∧ Q v h L) C S σ) : Go ReturnedEndW p e below s Q C S σ := by
  obtain ⟨s₂, o, h1, h2, h3, v, L, h4, ⟨q1, q2⟩, h6, h7, h8⟩ := k
  obtain ⟨a, b, c'⟩ := hS.ended (U := s₂) h7 q1 h8
  exact ⟨s₂, o, h1, h2, h3, v, L, h4, q2, h6, a, b, c'⟩
theorem w_ldcW {EL : List (String × Nat)} (X : Stand p l e R s m args below meth c T locs cells slots) (hx : p.tables.exec = Jvm.exec) (hZ : Z.Warmed39 s.vm) {own text : String} {index : Nat} (hown : s.vm.findClass own = some m.cls) (w : (Jvm.Cond.stringLink own index text).before a0 Z = true) (wS : ∀ a ∈ Bundle.stringAtoms, a.before a0 Z = true)
    (eT : T.heap = h) (hEL : EW Z a0 EL) (hmem : (own, index) ∈ EL) (H : CHv Z EL s.vm h) {vs : List Value} {z : Int32} (ht : (∀ c ∈ text.toList, c.toNat < 256) ∧ text.toList.map (fun c => Value.int (Jvm.Lit.byteI c.toNat.toUInt16)) = vs) (hz : ¬ z < 0) (hl : z.toNatClampNeg = vs.length)
    (hd : Dc c.code pc (.ldc index) 2 pc') {n : Nat} (hn : 4 * text.toList.length ≤ n) (hbig : n ≤ 536870912) (hc : cells + 2 ≤ R.cells) (hl' : slots + (n + 4) ≤ R.slots)
    (k : ∀ (a : Addr) (T' : State) (h' : Heap) (k1 : Nat) (b : Addr) (kb : ClassId), Stand p l e R (s.setVm T'.vm) m args below meth c T' locs (cells + 2) (slots + (n + 4)) → T'.heap = h' → Ext h h' → k1 ≤ h'.size → Z.Warmed39 (s.setVm T'.vm).vm → (s.setVm T'.vm).vm.findClass own = some m.cls →
      Exa Z h' a "java/lang/String" → Fld Z h' a "java/lang/String" "coder" "B" (.int 0) → Fld Z h' a "java/lang/String" "value" "[B" (.ref b) → Arv Z h' b kb .byte z vs (.int 0) →
      Go FrameEnd p e below (s.setVm T'.vm) (fun v h L => k1 ≤ h.size ∧ Q v h L) C S (T'.setTop (mkF m pc' Ls (.ref a :: rest)))) :
    Go ReturnedEndW p e below s Q C S (T.setTop (mkF m pc Ls rest)) := by
  obtain ⟨hd, rfl⟩ := hd
  obtain ⟨a, T', h', k1, b, kb, X', e', EX, hS, hk, hW, hf, q1, q2, q3, q4, -, -, -, -, -, st⟩ := ldcCH (s := s) (vm0 := s.vm) (show Stand p l e R (s.setVm s.vm) m args below meth c T locs cells slots from X) hx hZ hown w wS eT (k0 := 0) ((State.WarmedH.refl s).since 0) (Nat.zero_le _) hEL hmem H ht hz hl (g := mkF m pc Ls rest) rfl hd hn hbig hc hl'
  exact (Go.wide hS (k a T' h' k1 b kb X' e' EX hk hW hf q1 q2 q3 q4)).step st
theorem w_bodyW {y : MethodName} {bytes : ByteArray} {maxL : Nat} {ret : Option FieldType} {rm : Room} {as' : Array Value} {ws : List Jvm.Cond} {EL : List (String × Nat)} (hp : plainFor y = true)
    (body : ∀ (p : Program) (e : Env) (s : State) (m : MethodId) (below : List Frame) (meth : Method) (c : Code) (T : State), Stand p l e rm s m as' below meth c T [] 0 0 → p.tables.exec = Jvm.exec → c.code = bytes → c.maxLocals = maxL → s.vm.findClass y.cls = some m.cls → meth.name = y.name → meth.sig.returnType = ret → meth.locks = false → Z.Warmed39 s.vm → T.heap = h → CHv Z EL s.vm h → Go ReturnedEndW p e below s Q C S (T.setTop (entryFrame m as' maxL))) :
    MetFree l y (head1 (Jvm.Cond.code y bytes maxL ret :: ws) rm) (fun a U => a = as' ∧ Z.Warmed39 U.vm ∧ U.heap = h ∧ CHv Z EL U.vm h) (fun _ _ _ _ _ => True) (fun _ U o U' => ∃ v L, o = .returned v ∧ Q v U'.heap L ∧ ReturnedEndW U o U' L C S) := by
  refine MetFree.of_bodySF hp hisR ?_
  intro p e s m args below meth c s₁ Bd hml0 hP hK
  obtain ⟨rfl, hZ, hh, hC⟩ := hP
  exact body p e s m below meth c s₁ (Stand.of_body Bd) Bd.exec Bd.bytes hml0 (findClass_of_methodNamed Bd.named) (name_of_methodNamed Bd.named Bd.method).1 Bd.returns Bd.notSynchronized hZ (by rw [← hh, Bd.state]; rfl) hC
/-! words of the start into facts -/
theorem wd_eq {args : Array Value} {t : Term} {z : Int32} (h : (Jvm.Cond.eq t (.int z)).value args s none s [] = some true) : t.eval args s none [] s = some (.int z) := by
  cases ht : t.eval args s none [] s with
  | none => simp [Cond.value, ht] at h
  | some x => cases x <;> simp [Cond.value, Term.eval, ht] at h ⊢; exact h
theorem wd_fld {args : Array Value} {t : Term} {a : Addr} {K n d : String} {v : Value} (ev : t.eval args s none [] s = some (.ref a)) (h : (Term.field t K n d).eval args s none [] s = some v) : Fld s s.heap a K n d v := Fld.start (by rw [← fld_at ev]; exact h)
theorem wd_len {args : Array Value} {t : Term} {v : Value} (h : (Term.length t).eval args s none [] s = some v) : ∃ a cell, t.eval args s none [] s = some (.ref a) ∧ s.heap[a]? = some cell ∧ cell.slots.size < 2147483648 ∧ v = .int cell.slots.size.toInt32 := by
  obtain ⟨a, cell, e1, e2, e3⟩ := Term.length_spec h
  refine ⟨a, cell, e1, (State.arrayAt?_spec e2).1, ?_, e3⟩
  by_cases hn : cell.slots.size < 2147483648
  · exact hn
  · simp [Term.eval, e1, e2, hn] at h
theorem wd_arr {args : Array Value} {t : Term} {a : Addr} {n : Nat} {f : Nat → Int32} (ev : t.eval args s none [] s = some (.ref a)) (ha : (Jvm.Cond.arrayOf t .byte).value args s none s [] = some true) (hl : (Jvm.Cond.eq (.length t) (.int (Int32.ofNat n))).value args s none s [] = some true) (hn : n < 2147483648)
    (he : ∀ j, j < n → (Jvm.Cond.eq (.elem t (.int (Int32.ofNat j))) (.int (f j))).value args s none s [] = some true) : AV s s.heap a .byte n (iF f) := by
  obtain ⟨cl, A⟩ := Arr.start ev ha
  obtain ⟨a', cell, e1, e2, e3, e4⟩ := wd_len (wd_eq hl)
  cases ev.symm.trans e1
  cases A.1.symm.trans e2
  have hs : cl.slots.size = n := by
    have q : (Int32.ofNat n).toInt = cl.slots.size.toInt32.toInt := congrArg Int32.toInt (Value.int.inj e4)
    have q1 : (Int32.ofNat n).toInt = (n : Int) := i_ofNat hn
    have q2 : cl.slots.size.toInt32.toInt = (cl.slots.size : Int) := i_ofNat e3
    omega
  refine ⟨hn, cl, A, hs, fun j hj => ?_⟩
  have q := elem_in (wd_eq (he j hj)) ev (Term.int_eval _) A.1
  rw [clamp_n (by omega)] at q
  exact q.2
theorem fld_fun {a : Addr} {K n d : String} {v w : Value} (F : Fld Z h a K n d v) (G : Fld Z h a K n d w) : v = w := by
  obtain ⟨c1, _, _, _, f1, a1, a2, _, _, _, _, a7⟩ := F
  obtain ⟨c2, _, _, _, f2, b1, b2, _, _, _, _, b7⟩ := G
  cases a1.symm.trans b1
  cases a2.symm.trans b2
  exact Option.some.inj (a7.symm.trans b7)
theorem av_fun {a : Addr} {ty : FieldType} {n k : Nat} {f g : Nat → Value} (A : AV Z h a ty n f) (B : AV Z h a ty k g) : n = k ∧ ∀ i, i < n → f i = g i := by
  obtain ⟨-, c1, A, r1, r2⟩ := A
  obtain ⟨-, c2, B, q1, q2⟩ := B
  cases A.1.symm.trans B.1
  obtain rfl : n = k := r1.symm.trans q1
  exact ⟨rfl, fun i hi => Option.some.inj ((r2 i hi).symm.trans (q2 i hi))⟩
end Wide
theorem d0_0 : Dc code 0 (.iload_n 0) 1 1 := ⟨at_0, rfl⟩
theorem d0_1 : Dc code 1 (.ldc 19) 2 3 := ⟨at_1, rfl⟩
theorem d0_3 : Dc code 3 (.iand) 1 4 := ⟨at_3, rfl⟩
theorem d0_4 : Dc code 4 (.iconst 3) 1 5 := ⟨at_4, rfl⟩
theorem d0_5 : Dc code 5 (.irem) 1 6 := ⟨at_5, rfl⟩
theorem d0_6 : Dc code 6 (.istore_n 1) 1 7 := ⟨at_6, rfl⟩
theorem d0_7 : Dc code 7 (.iload_n 1) 1 8 := ⟨at_7, rfl⟩
theorem d0_8 : Dc code 8 (.invokestatic 20) 3 11 := ⟨at_8, rfl⟩
theorem d0_11 : Dc code 11 (.astore_n 2) 1 12 := ⟨at_11, rfl⟩
theorem d0_12 : Dc code 12 (.iload_n 1) 1 13 := ⟨at_12, rfl⟩
theorem d0_13 : Dc code 13 (.iconst 1) 1 14 := ⟨at_13, rfl⟩
theorem d0_14 : Dj code 14 (.if_icmp .ne 7) 7 21 17 := ⟨at_14, by decide, by decide, rfl⟩
theorem d0_17 : Dc code 17 (.iconst 1) 1 18 := ⟨at_17, rfl⟩
theorem d0_18 : Dj code 18 (.goto 4) 4 22 21 := ⟨at_18, by decide, by decide, rfl⟩
theorem d0_21 : Dc code 21 (.iconst 0) 1 22 := ⟨at_21, rfl⟩
theorem d0_22 : Dc code 22 (.istore_n 3) 1 23 := ⟨at_22, rfl⟩
theorem d0_23 : Dc code 23 (.aload_n 2) 1 24 := ⟨at_23, rfl⟩
theorem d0_24 : Dc code 24 (.invokevirtual 26) 3 27 := ⟨at_24, rfl⟩
theorem d0_27 : Dc code 27 (.istore 4) 2 29 := ⟨at_27, rfl⟩
theorem d0_29 : Dc code 29 (.ldc 30) 2 31 := ⟨at_29, rfl⟩
theorem d0_31 : Dc code 31 (.aload_n 2) 1 32 := ⟨at_31, rfl⟩
theorem d0_32 : Dc code 32 (.invokevirtual 32) 3 35 := ⟨at_32, rfl⟩
theorem d0_35 : Dc code 35 (.invokevirtual 36) 3 38 := ⟨at_35, rfl⟩
theorem d0_38 : Dc code 38 (.istore 5) 2 40 := ⟨at_38, rfl⟩
theorem d0_40 : Dc code 40 (.iload 4) 2 42 := ⟨at_40, rfl⟩
theorem d0_42 : Dc code 42 (.iload_n 3) 1 43 := ⟨at_42, rfl⟩
theorem d0_43 : Dj code 43 (.if_icmp .ne 14) 14 57 46 := ⟨at_43, by decide, by decide, rfl⟩
theorem d0_46 : Dc code 46 (.iload 4) 2 48 := ⟨at_46, rfl⟩
theorem d0_48 : Dc code 48 (.iload 5) 2 50 := ⟨at_48, rfl⟩
theorem d0_50 : Dj code 50 (.if_icmp .ne 7) 7 57 53 := ⟨at_50, by decide, by decide, rfl⟩
theorem d0_53 : Dc code 53 (.iconst 1) 1 54 := ⟨at_53, rfl⟩
theorem d0_54 : Dj code 54 (.goto 4) 4 58 57 := ⟨at_54, by decide, by decide, rfl⟩
theorem d0_58 : Dc code 58 (.ireturn) 1 59 := ⟨at_58, rfl⟩
theorem pn_0 : plainFor x = true := plainFor_of_name (by first | (simp [plainName, overriddenIn]; done) | decide +kernel)
theorem ef_0 (m : MethodId) (x0 : Int32) : entryFrame m #[(.int x0)] maxLocals = mkF m 0 #[.val (.int x0), .unset, .unset, .unset, .unset, .unset] [] := by first | (simp [entryFrame, mkF, argsToLocals, Value.category, maxLocals]; done) | rfl
theorem d1_0 : Dc method_2_code 0 (.iload_n 0) 1 1 := ⟨by decide +kernel, rfl⟩
theorem d1_1 : Dj method_2_code 1 (.ifCond .ne 7) 7 8 4 := ⟨by decide +kernel, by decide, by decide, rfl⟩
theorem d1_4 : Dc method_2_code 4 (.getstatic 7) 3 7 := ⟨by decide +kernel, rfl⟩
theorem d1_7 : Dc method_2_code 7 (.areturn) 1 8 := ⟨by decide +kernel, rfl⟩
theorem d1_8 : Dc method_2_code 8 (.iload_n 0) 1 9 := ⟨by decide +kernel, rfl⟩
theorem d1_9 : Dc method_2_code 9 (.iconst 1) 1 10 := ⟨by decide +kernel, rfl⟩
theorem d1_10 : Dj method_2_code 10 (.if_icmp .ne 7) 7 17 13 := ⟨by decide +kernel, by decide, by decide, rfl⟩
theorem d1_13 : Dc method_2_code 13 (.getstatic 13) 3 16 := ⟨by decide +kernel, rfl⟩
theorem d1_16 : Dc method_2_code 16 (.areturn) 1 17 := ⟨by decide +kernel, rfl⟩
theorem d1_17 : Dc method_2_code 17 (.getstatic 16) 3 20 := ⟨by decide +kernel, rfl⟩
theorem d1_20 : Dc method_2_code 20 (.areturn) 1 21 := ⟨by decide +kernel, rfl⟩
theorem pn_1 : plainFor (⟨"com/example/topicweave/topicweave/workloads/PopularityTakesExponentPinLaw", "pick", "(I)Lcom/example/topicweave/topicweave/workloads/Popularity;"⟩ : MethodName) = true := plainFor_of_name (by first | (simp [plainName, overriddenIn]; done) | decide +kernel)
theorem ef_1 (m : MethodId) (x0 : Int32) : entryFrame m #[(.int x0)] 1 = mkF m 0 #[.val (.int x0)] [] := by first | (simp [entryFrame, mkF, argsToLocals, Value.category]; done) | rfl
theorem d2_0 : Dc prog_32_method_5_code 0 (.aload_n 0) 1 1 := ⟨by decide +kernel, rfl⟩
theorem d2_1 : Dc prog_32_method_5_code 1 (.getstatic 7) 3 4 := ⟨by decide +kernel, rfl⟩
theorem d2_4 : Dj prog_32_method_5_code 4 (.if_acmp .ne 7) 7 11 7 := ⟨by decide +kernel, by decide, by decide, rfl⟩
theorem d2_7 : Dc prog_32_method_5_code 7 (.iconst 1) 1 8 := ⟨by decide +kernel, rfl⟩
theorem d2_8 : Dj prog_32_method_5_code 8 (.goto 4) 4 12 11 := ⟨by decide +kernel, by decide, by decide, rfl⟩
theorem d2_11 : Dc prog_32_method_5_code 11 (.iconst 0) 1 12 := ⟨by decide +kernel, rfl⟩
theorem d2_12 : Dc prog_32_method_5_code 12 (.ireturn) 1 13 := ⟨by decide +kernel, rfl⟩
theorem pn_2 : plainFor (⟨"com/example/topicweave/topicweave/workloads/Popularity", "takesExponent", "()Z"⟩ : MethodName) = true := plainFor_of_name (by first | (simp [plainName, overriddenIn]; done) | decide +kernel)
theorem ef_2 (m : MethodId) (x0 : Addr) : entryFrame m #[(.ref x0)] 1 = mkF m 0 #[.val (.ref x0)] [] := by first | (simp [entryFrame, mkF, argsToLocals, Value.category]; done) | rfl
theorem d3_0 : Dc prog_32_method_4_code 0 (.aload_n 0) 1 1 := ⟨by decide +kernel, rfl⟩
theorem d3_1 : Dc prog_32_method_4_code 1 (.getfield 32) 3 4 := ⟨by decide +kernel, rfl⟩
theorem d3_4 : Dc prog_32_method_4_code 4 (.areturn) 1 5 := ⟨by decide +kernel, rfl⟩
theorem pn_3 : plainFor (⟨"com/example/topicweave/topicweave/workloads/Popularity", "key", "()Ljava/lang/String;"⟩ : MethodName) = true := plainFor_of_name (by first | (simp [plainName, overriddenIn]; done) | decide +kernel)
theorem ef_3 (m : MethodId) (x0 : Addr) : entryFrame m #[(.ref x0)] 1 = mkF m 0 #[.val (.ref x0)] [] := by first | (simp [entryFrame, mkF, argsToLocals, Value.category]; done) | rfl
theorem d4_0 : Dc jdk_42_method_66_code 0 (.aload_n 0) 1 1 := ⟨by decide +kernel, rfl⟩
theorem d4_1 : Dc jdk_42_method_66_code 1 (.aload_n 1) 1 2 := ⟨by decide +kernel, rfl⟩
theorem d4_2 : Dj jdk_42_method_66_code 2 (.if_acmp .ne 5) 5 7 5 := ⟨by decide +kernel, by decide, by decide, rfl⟩
theorem d4_5 : Dc jdk_42_method_66_code 5 (.iconst 1) 1 6 := ⟨by decide +kernel, rfl⟩
theorem d4_6 : Dc jdk_42_method_66_code 6 (.ireturn) 1 7 := ⟨by decide +kernel, rfl⟩
theorem d4_7 : Dc jdk_42_method_66_code 7 (.aload_n 1) 1 8 := ⟨by decide +kernel, rfl⟩
theorem d4_8 : Dc jdk_42_method_66_code 8 (.instanceof 10) 3 11 := ⟨by decide +kernel, rfl⟩
theorem d4_11 : Dj jdk_42_method_66_code 11 (.ifCond .eq 43) 43 54 14 := ⟨by decide +kernel, by decide, by decide, rfl⟩
theorem d4_14 : Dc jdk_42_method_66_code 14 (.aload_n 1) 1 15 := ⟨by decide +kernel, rfl⟩
theorem d4_15 : Dc jdk_42_method_66_code 15 (.checkcast 10) 3 18 := ⟨by decide +kernel, rfl⟩
theorem d4_18 : Dc jdk_42_method_66_code 18 (.astore_n 2) 1 19 := ⟨by decide +kernel, rfl⟩
theorem d4_19 : Dc jdk_42_method_66_code 19 (.getstatic 38) 3 22 := ⟨by decide +kernel, rfl⟩
theorem d4_22 : Dj jdk_42_method_66_code 22 (.ifCond .eq 14) 14 36 25 := ⟨by decide +kernel, by decide, by decide, rfl⟩
theorem d4_25 : Dc jdk_42_method_66_code 25 (.aload_n 0) 1 26 := ⟨by decide +kernel, rfl⟩
theorem d4_26 : Dc jdk_42_method_66_code 26 (.getfield 15) 3 29 := ⟨by decide +kernel, rfl⟩
theorem d4_29 : Dc jdk_42_method_66_code 29 (.aload_n 2) 1 30 := ⟨by decide +kernel, rfl⟩
theorem d4_30 : Dc jdk_42_method_66_code 30 (.getfield 15) 3 33 := ⟨by decide +kernel, rfl⟩
theorem d4_33 : Dj jdk_42_method_66_code 33 (.if_icmp .ne 21) 21 54 36 := ⟨by decide +kernel, by decide, by decide, rfl⟩
theorem d4_36 : Dc jdk_42_method_66_code 36 (.aload_n 0) 1 37 := ⟨by decide +kernel, rfl⟩
theorem d4_37 : Dc jdk_42_method_66_code 37 (.getfield 9) 3 40 := ⟨by decide +kernel, rfl⟩
theorem d4_40 : Dc jdk_42_method_66_code 40 (.aload_n 2) 1 41 := ⟨by decide +kernel, rfl⟩
theorem d4_41 : Dc jdk_42_method_66_code 41 (.getfield 9) 3 44 := ⟨by decide +kernel, rfl⟩
theorem d4_44 : Dc jdk_42_method_66_code 44 (.invokestatic 541) 3 47 := ⟨by decide +kernel, rfl⟩
theorem d4_47 : Dj jdk_42_method_66_code 47 (.ifCond .eq 7) 7 54 50 := ⟨by decide +kernel, by decide, by decide, rfl⟩
theorem d4_50 : Dc jdk_42_method_66_code 50 (.iconst 1) 1 51 := ⟨by decide +kernel, rfl⟩
theorem d4_51 : Dj jdk_42_method_66_code 51 (.goto 4) 4 55 54 := ⟨by decide +kernel, by decide, by decide, rfl⟩
theorem d4_54 : Dc jdk_42_method_66_code 54 (.iconst 0) 1 55 := ⟨by decide +kernel, rfl⟩
theorem d4_55 : Dc jdk_42_method_66_code 55 (.ireturn) 1 56 := ⟨by decide +kernel, rfl⟩
theorem pn_4 : plainFor (⟨"java/lang/String", "equals", "(Ljava/lang/Object;)Z"⟩ : MethodName) = true := plainFor_of_name (by first | (simp [plainName, overriddenIn]; done) | decide +kernel)
theorem ef_4 (m : MethodId) (x0 : Addr) (x1 : Addr) : entryFrame m #[(.ref x0), (.ref x1)] 3 = mkF m 0 #[.val (.ref x0), .val (.ref x1), .unset] [] := by first | (simp [entryFrame, mkF, argsToLocals, Value.category]; done) | rfl
theorem d5_0 : Dc jdk_43_method_13_code 0 (.aload_n 0) 1 1 := ⟨by decide +kernel, rfl⟩
theorem d5_1 : Dc jdk_43_method_13_code 1 (.arraylength) 1 2 := ⟨by decide +kernel, rfl⟩
theorem d5_2 : Dc jdk_43_method_13_code 2 (.aload_n 1) 1 3 := ⟨by decide +kernel, rfl⟩
theorem d5_3 : Dc jdk_43_method_13_code 3 (.arraylength) 1 4 := ⟨by decide +kernel, rfl⟩
theorem d5_4 : Dj jdk_43_method_13_code 4 (.if_icmp .ne 30) 30 34 7 := ⟨by decide +kernel, by decide, by decide, rfl⟩
theorem d5_7 : Dc jdk_43_method_13_code 7 (.iconst 0) 1 8 := ⟨by decide +kernel, rfl⟩
theorem d5_8 : Dc jdk_43_method_13_code 8 (.istore_n 2) 1 9 := ⟨by decide +kernel, rfl⟩
theorem d5_9 : Dc jdk_43_method_13_code 9 (.iload_n 2) 1 10 := ⟨by decide +kernel, rfl⟩
theorem d5_10 : Dc jdk_43_method_13_code 10 (.aload_n 0) 1 11 := ⟨by decide +kernel, rfl⟩
theorem d5_11 : Dc jdk_43_method_13_code 11 (.arraylength) 1 12 := ⟨by decide +kernel, rfl⟩
theorem d5_12 : Dj jdk_43_method_13_code 12 (.if_icmp .ge 20) 20 32 15 := ⟨by decide +kernel, by decide, by decide, rfl⟩
theorem d5_15 : Dc jdk_43_method_13_code 15 (.aload_n 0) 1 16 := ⟨by decide +kernel, rfl⟩
theorem d5_16 : Dc jdk_43_method_13_code 16 (.iload_n 2) 1 17 := ⟨by decide +kernel, rfl⟩
theorem d5_17 : Dc jdk_43_method_13_code 17 (.baload) 1 18 := ⟨by decide +kernel, rfl⟩
theorem d5_18 : Dc jdk_43_method_13_code 18 (.aload_n 1) 1 19 := ⟨by decide +kernel, rfl⟩
theorem d5_19 : Dc jdk_43_method_13_code 19 (.iload_n 2) 1 20 := ⟨by decide +kernel, rfl⟩
theorem d5_20 : Dc jdk_43_method_13_code 20 (.baload) 1 21 := ⟨by decide +kernel, rfl⟩
theorem d5_21 : Dj jdk_43_method_13_code 21 (.if_icmp .eq 5) 5 26 24 := ⟨by decide +kernel, by decide, by decide, rfl⟩
theorem d5_24 : Dc jdk_43_method_13_code 24 (.iconst 0) 1 25 := ⟨by decide +kernel, rfl⟩
theorem d5_25 : Dc jdk_43_method_13_code 25 (.ireturn) 1 26 := ⟨by decide +kernel, rfl⟩
theorem d5_26 : Dc jdk_43_method_13_code 26 (.iinc 2 1) 3 29 := ⟨by decide +kernel, rfl⟩
theorem d5_29 : Dj jdk_43_method_13_code 29 (.goto (-20)) (-20) 9 32 := ⟨by decide +kernel, by decide, by decide, rfl⟩
theorem d5_32 : Dc jdk_43_method_13_code 32 (.iconst 1) 1 33 := ⟨by decide +kernel, rfl⟩
theorem d5_33 : Dc jdk_43_method_13_code 33 (.ireturn) 1 34 := ⟨by decide +kernel, rfl⟩
theorem d5_34 : Dc jdk_43_method_13_code 34 (.iconst 0) 1 35 := ⟨by decide +kernel, rfl⟩
theorem d5_35 : Dc jdk_43_method_13_code 35 (.ireturn) 1 36 := ⟨by decide +kernel, rfl⟩
theorem pn_5 : plainFor (⟨"java/lang/StringLatin1", "equals", "([B[B)Z"⟩ : MethodName) = true := plainFor_of_name (by first | (simp [plainName, overriddenIn]; done) | decide +kernel)
theorem ef_5 (m : MethodId) (x0 : Addr) (x1 : Addr) : entryFrame m #[(.ref x0), (.ref x1)] 3 = mkF m 0 #[.val (.ref x0), .val (.ref x1), .unset] [] := by first | (simp [entryFrame, mkF, argsToLocals, Value.category]; done) | rfl
theorem pd_0 : parseMethodDescriptor "([B[B)Z" = some ⟨[(.array .byte), (.array .byte)], some .boolean⟩ := by decide +kernel
theorem pd_1 : parseMethodDescriptor "(I)Lcom/example/topicweave/topicweave/workloads/Popularity;" = some ⟨[.int], some (.object "com/example/topicweave/topicweave/workloads/Popularity")⟩ := by decide +kernel
theorem pd_2 : parseMethodDescriptor "()Z" = some ⟨[], some .boolean⟩ := by decide +kernel
theorem pd_3 : parseMethodDescriptor "()Ljava/lang/String;" = some ⟨[], some (.object "java/lang/String")⟩ := by decide +kernel
theorem pd_4 : parseMethodDescriptor "(Ljava/lang/Object;)Z" = some ⟨[(.object "java/lang/Object")], some .boolean⟩ := by decide +kernel
def txZ : Nat → Int32 := fun j => [122, 105, 112, 102].getD j 0
def txE : Nat → Int32 := fun j => [101, 120, 112, 111].getD j 0
def txU : Nat → Int32 := fun j => [117, 110, 105, 102, 111, 114, 109].getD j 0
set_option maxRecDepth 65536 in
set_option maxHeartbeats 40000000 in
theorem pickU (l : Launch) (Z : State) (a0 : Array Value) (hw : ∀ d ∈ tables_1, d.before a0 Z = true) (aU : Addr) (h0 : Heap) (S_U : Sta Z h0 "com/example/topicweave/topicweave/workloads/Popularity" "UNIFORM" "Lcom/example/topicweave/topicweave/workloads/Popularity;" (.ref aU)) :
    Ct l Z (⟨"com/example/topicweave/topicweave/workloads/PopularityTakesExponentPinLaw", "pick", "(I)Lcom/example/topicweave/topicweave/workloads/Popularity;"⟩ : MethodName) method_2_code 1 (some (.object "com/example/topicweave/topicweave/workloads/Popularity")) ({ frames := 0, cells := 0, slots := 0, locals := 0 } : Room) #[(.int (0 : Int32))] h0 (fun v h' L => v = some (.ref aU) ∧ h' = h0 ∧ L = []) := by
  refine Ct.body pn_1 ?_
  intro p e s m below meth c T X hx hby hml hown hnm hret hlk hZ eT
  rw [ef_1]

  refine w_iloadN X hx (dq hby d1_0) rfl ?_
  refine w_if_ne X hx (dj hby d1_1) (fun hc1 => (?_ : False).elim) (fun hc1 => ?_)
  · exact absurd hc1 (by decide)
  refine w_gets X hx hZ eT hown (hw _ (List.mem_of_getElem? (i := 5) rfl)) S_U (dq hby d1_4) fun T X eT => ?_
  refine w_retA X hx hret rfl rfl hlk (dq hby d1_7) (by decide) (by decide) ?_
  exact ⟨rfl, eT, rfl⟩
set_option maxRecDepth 65536 in
set_option maxHeartbeats 40000000 in
theorem pickZ (l : Launch) (Z : State) (a0 : Array Value) (hw : ∀ d ∈ tables_1, d.before a0 Z = true) (aZ : Addr) (h0 : Heap) (S_Z : Sta Z h0 "com/example/topicweave/topicweave/workloads/Popularity" "ZIPF" "Lcom/example/topicweave/topicweave/workloads/Popularity;" (.ref aZ)) :
    Ct l Z (⟨"com/example/topicweave/topicweave/workloads/PopularityTakesExponentPinLaw", "pick", "(I)Lcom/example/topicweave/topicweave/workloads/Popularity;"⟩ : MethodName) method_2_code 1 (some (.object "com/example/topicweave/topicweave/workloads/Popularity")) ({ frames := 0, cells := 0, slots := 0, locals := 0 } : Room) #[(.int (1 : Int32))] h0 (fun v h' L => v = some (.ref aZ) ∧ h' = h0 ∧ L = []) := by
  refine Ct.body pn_1 ?_
  intro p e s m below meth c T X hx hby hml hown hnm hret hlk hZ eT
  rw [ef_1]

  refine w_iloadN X hx (dq hby d1_0) rfl ?_
  refine w_if_ne X hx (dj hby d1_1) (fun hc1 => ?_) (fun hc1 => (?_ : False).elim)
  rotate_left
  · exact absurd hc1 (by decide)
  refine w_iloadN X hx (dq hby d1_8) rfl ?_
  refine w_iconst X hx (dq hby d1_9) (z := 1) rfl ?_
  refine w_icmp_ne X hx (dj hby d1_10) (fun hc10 => (?_ : False).elim) (fun hc10 => ?_)
  · exact absurd hc10 (by decide)
  refine w_gets X hx hZ eT hown (hw _ (List.mem_of_getElem? (i := 46) rfl)) S_Z (dq hby d1_13) fun T X eT => ?_
  refine w_retA X hx hret rfl rfl hlk (dq hby d1_16) (by decide) (by decide) ?_
  exact ⟨rfl, eT, rfl⟩
set_option maxRecDepth 65536 in
set_option maxHeartbeats 40000000 in
theorem pickE (l : Launch) (Z : State) (a0 : Array Value) (hw : ∀ d ∈ tables_1, d.before a0 Z = true) (aE : Addr) (h0 : Heap) (S_E : Sta Z h0 "com/example/topicweave/topicweave/workloads/Popularity" "EXPO" "Lcom/example/topicweave/topicweave/workloads/Popularity;" (.ref aE)) :
    Ct l Z (⟨"com/example/topicweave/topicweave/workloads/PopularityTakesExponentPinLaw", "pick", "(I)Lcom/example/topicweave/topicweave/workloads/Popularity;"⟩ : MethodName) method_2_code 1 (some (.object "com/example/topicweave/topicweave/workloads/Popularity")) ({ frames := 0, cells := 0, slots := 0, locals := 0 } : Room) #[(.int (2 : Int32))] h0 (fun v h' L => v = some (.ref aE) ∧ h' = h0 ∧ L = []) := by
  refine Ct.body pn_1 ?_
  intro p e s m below meth c T X hx hby hml hown hnm hret hlk hZ eT
  rw [ef_1]

  refine w_iloadN X hx (dq hby d1_0) rfl ?_
  refine w_if_ne X hx (dj hby d1_1) (fun hc1 => ?_) (fun hc1 => (?_ : False).elim)
  rotate_left
  · exact absurd hc1 (by decide)
  refine w_iloadN X hx (dq hby d1_8) rfl ?_
  refine w_iconst X hx (dq hby d1_9) (z := 1) rfl ?_
  refine w_icmp_ne X hx (dj hby d1_10) (fun hc10 => ?_) (fun hc10 => (?_ : False).elim)
  rotate_left
  · exact absurd hc10 (by decide)
  refine w_gets X hx hZ eT hown (hw _ (List.mem_of_getElem? (i := 44) rfl)) S_E (dq hby d1_17) fun T X eT => ?_
  refine w_retA X hx hret rfl rfl hlk (dq hby d1_20) (by decide) (by decide) ?_
  exact ⟨rfl, eT, rfl⟩
set_option maxRecDepth 65536 in
set_option maxHeartbeats 40000000 in
theorem tk1 (l : Launch) (Z : State) (a0 : Array Value) (hw : ∀ d ∈ tables_1, d.before a0 Z = true) (aZ : Addr) (h0 : Heap) (S_Z : Sta Z h0 "com/example/topicweave/topicweave/workloads/Popularity" "ZIPF" "Lcom/example/topicweave/topicweave/workloads/Popularity;" (.ref aZ)) :
    Ct l Z (⟨"com/example/topicweave/topicweave/workloads/Popularity", "takesExponent", "()Z"⟩ : MethodName) prog_32_method_5_code 1 (some .boolean) ({ frames := 0, cells := 0, slots := 0, locals := 0 } : Room) #[(.ref aZ)] h0 (fun v h' L => v = some (.int (1 : Int32)) ∧ h' = h0 ∧ L = []) := by
  refine Ct.body pn_2 ?_
  intro p e s m below meth c T X hx hby hml hown hnm hret hlk hZ eT
  rw [ef_2]

  refine w_aloadN X hx (dq hby d2_0) rfl rfl ?_
  refine w_gets X hx hZ eT hown (hw _ (List.mem_of_getElem? (i := 13) rfl)) S_Z (dq hby d2_1) fun T X eT => ?_
  refine w_acmpN X hx (dj hby d2_4) ?_
  refine w_iconst X hx (dq hby d2_7) (z := 1) rfl ?_
  refine w_goto X hx (dj hby d2_8) ?_
  refine w_retN X hx hret (by simp) hlk (dq hby d2_12) (by decide) (by decide) ?_
  exact ⟨by simp [nar], eT, rfl⟩
set_option maxRecDepth 65536 in
set_option maxHeartbeats 40000000 in
theorem tk0 (l : Launch) (Z : State) (a0 : Array Value) (hw : ∀ d ∈ tables_1, d.before a0 Z = true) (x0 aZ : Addr) (h0 : Heap) (S_Z : Sta Z h0 "com/example/topicweave/topicweave/workloads/Popularity" "ZIPF" "Lcom/example/topicweave/topicweave/workloads/Popularity;" (.ref aZ)) (hne : x0 ≠ aZ) :
    Ct l Z (⟨"com/example/topicweave/topicweave/workloads/Popularity", "takesExponent", "()Z"⟩ : MethodName) prog_32_method_5_code 1 (some .boolean) ({ frames := 0, cells := 0, slots := 0, locals := 0 } : Room) #[(.ref x0)] h0 (fun v h' L => v = some (.int (0 : Int32)) ∧ h' = h0 ∧ L = []) := by
  refine Ct.body pn_2 ?_
  intro p e s m below meth c T X hx hby hml hown hnm hret hlk hZ eT
  rw [ef_2]

  refine w_aloadN X hx (dq hby d2_0) rfl rfl ?_
  refine w_gets X hx hZ eT hown (hw _ (List.mem_of_getElem? (i := 13) rfl)) S_Z (dq hby d2_1) fun T X eT => ?_
  refine w_acmp X hx (dj hby d2_4) rfl rfl (b := true) (by simp [acV, hne]) ?_
  refine w_iconst X hx (dq hby d2_11) (z := 0) rfl ?_
  refine w_retN X hx hret (by simp) hlk (dq hby d2_12) (by decide) (by decide) ?_
  exact ⟨by simp [nar], eT, rfl⟩
set_option maxRecDepth 65536 in
set_option maxHeartbeats 40000000 in
theorem ct3 (l : Launch) (Z : State) (a0 : Array Value) (hw : ∀ d ∈ tables_1, d.before a0 Z = true) (x0 x1 : Addr) (h0 : Heap) (F_key_x0 : Fld Z h0 x0 "com/example/topicweave/topicweave/workloads/Popularity" "key" "Ljava/lang/String;" (.ref x1)) :
    Ct l Z (⟨"com/example/topicweave/topicweave/workloads/Popularity", "key", "()Ljava/lang/String;"⟩ : MethodName) prog_32_method_4_code 1 (some (.object "java/lang/String")) ({ frames := 0, cells := 0, slots := 0, locals := 0 } : Room) #[(.ref x0)] h0 (fun v h' L => v = some (.ref x1) ∧ h' = h0 ∧ L = []) := by
  refine Ct.body pn_3 ?_
  intro p e s m below meth c T X hx hby hml hown hnm hret hlk hZ eT
  rw [ef_3]

  refine w_aloadN X hx (dq hby d3_0) rfl rfl ?_
  refine w_getf X hx hZ eT hown (hw _ (List.mem_of_getElem? (i := 28) rfl)) F_key_x0 (dq hby d3_1) fun T X eT => ?_
  refine w_retA X hx hret rfl rfl hlk (dq hby d3_4) (by decide) (by decide) ?_
  exact ⟨rfl, eT, rfl⟩
set_option maxRecDepth 65536 in
set_option maxHeartbeats 40000000 in
theorem latZ (l : Launch) (Z : State) (a0 : Array Value) (hw : ∀ d ∈ tables_1, d.before a0 Z = true) (x0 x1 : Addr) (h0 : Heap) (A_x0 : AV Z h0 x0 .byte 4 (iF txZ)) (A_x1 : AV Z h0 x1 .byte 4 (iF txZ)) :
    Ct l Z (⟨"java/lang/StringLatin1", "equals", "([B[B)Z"⟩ : MethodName) jdk_43_method_13_code 3 (some .boolean) ({ frames := 0, cells := 0, slots := 0, locals := 0 } : Room) #[(.ref x0), (.ref x1)] h0 (fun v h' L => v = some (.int (1 : Int32)) ∧ h' = h0 ∧ L = []) := by
  refine Ct.body pn_5 ?_
  intro p e s m below meth c T X hx hby hml hown hnm hret hlk hZ eT
  rw [ef_5]

  refine w_aloadN X hx (dq hby d5_0) rfl rfl ?_
  refine w_arrlen X hx hZ eT A_x0 (z := (4 : Int32)) (rfl) (dq hby d5_1) ?_
  refine w_aloadN X hx (dq hby d5_2) rfl rfl ?_
  refine w_arrlen X hx hZ eT A_x1 (z := (4 : Int32)) (rfl) (dq hby d5_3) ?_
  refine w_icmp_ne X hx (dj hby d5_4) (fun hc4 => (?_ : False).elim) (fun hc4 => ?_)
  · exact absurd hc4 (by decide)
  refine w_iconst X hx (dq hby d5_7) (z := 0) rfl ?_
  refine w_istoreN X hx (dq hby d5_8) (z := (0 : Int32)) rfl (Ls' := #[.val (.ref x0), .val (.ref x1), .val (.int (0 : Int32))]) rfl ?_
  refine w_iloadN X hx (dq hby d5_9) rfl ?_
  refine w_aloadN X hx (dq hby d5_10) rfl rfl ?_
  refine w_arrlen X hx hZ eT A_x0 (z := (4 : Int32)) (rfl) (dq hby d5_11) ?_
  refine w_icmp_ge X hx (dj hby d5_12) (fun hc12 => (?_ : False).elim) (fun hc12 => ?_)
  · exact absurd hc12 (by decide)
  refine w_aloadN X hx (dq hby d5_15) rfl rfl ?_
  refine w_iloadN X hx (dq hby d5_16) rfl ?_
  refine w_baload X hx hZ eT A_x0 (i := 0) (rfl) (by decide) (z := (122 : Int32)) (rfl) (dq hby d5_17) ?_
  refine w_aloadN X hx (dq hby d5_18) rfl rfl ?_
  refine w_iloadN X hx (dq hby d5_19) rfl ?_
  refine w_baload X hx hZ eT A_x1 (i := 0) (rfl) (by decide) (z := (122 : Int32)) (rfl) (dq hby d5_20) ?_
  refine w_icmp_eq X hx (dj hby d5_21) (fun hc21 => ?_) (fun hc21 => (?_ : False).elim)
  rotate_left
  · exact absurd hc21 (by decide)
  refine w_iinc X hx (dq hby d5_26) rfl (z := (1 : Int32)) (by decide) (Ls' := #[.val (.ref x0), .val (.ref x1), .val (.int (1 : Int32))]) rfl ?_
  refine w_goto X hx (dj hby d5_29) ?_
  refine w_iloadN X hx (dq hby d5_9) rfl ?_
  refine w_aloadN X hx (dq hby d5_10) rfl rfl ?_
  refine w_arrlen X hx hZ eT A_x0 (z := (4 : Int32)) (rfl) (dq hby d5_11) ?_
  refine w_icmp_ge X hx (dj hby d5_12) (fun hc12 => (?_ : False).elim) (fun hc12 => ?_)
  · exact absurd hc12 (by decide)
  refine w_aloadN X hx (dq hby d5_15) rfl rfl ?_
  refine w_iloadN X hx (dq hby d5_16) rfl ?_
  refine w_baload X hx hZ eT A_x0 (i := 1) (rfl) (by decide) (z := (105 : Int32)) (rfl) (dq hby d5_17) ?_
  refine w_aloadN X hx (dq hby d5_18) rfl rfl ?_
  refine w_iloadN X hx (dq hby d5_19) rfl ?_
  refine w_baload X hx hZ eT A_x1 (i := 1) (rfl) (by decide) (z := (105 : Int32)) (rfl) (dq hby d5_20) ?_
  refine w_icmp_eq X hx (dj hby d5_21) (fun hc21 => ?_) (fun hc21 => (?_ : False).elim)
  rotate_left
  · exact absurd hc21 (by decide)
  refine w_iinc X hx (dq hby d5_26) rfl (z := (2 : Int32)) (by decide) (Ls' := #[.val (.ref x0), .val (.ref x1), .val (.int (2 : Int32))]) rfl ?_
  refine w_goto X hx (dj hby d5_29) ?_
  refine w_iloadN X hx (dq hby d5_9) rfl ?_
  refine w_aloadN X hx (dq hby d5_10) rfl rfl ?_
  refine w_arrlen X hx hZ eT A_x0 (z := (4 : Int32)) (rfl) (dq hby d5_11) ?_
  refine w_icmp_ge X hx (dj hby d5_12) (fun hc12 => (?_ : False).elim) (fun hc12 => ?_)
  · exact absurd hc12 (by decide)
  refine w_aloadN X hx (dq hby d5_15) rfl rfl ?_
  refine w_iloadN X hx (dq hby d5_16) rfl ?_
  refine w_baload X hx hZ eT A_x0 (i := 2) (rfl) (by decide) (z := (112 : Int32)) (rfl) (dq hby d5_17) ?_
  refine w_aloadN X hx (dq hby d5_18) rfl rfl ?_
  refine w_iloadN X hx (dq hby d5_19) rfl ?_
  refine w_baload X hx hZ eT A_x1 (i := 2) (rfl) (by decide) (z := (112 : Int32)) (rfl) (dq hby d5_20) ?_
  refine w_icmp_eq X hx (dj hby d5_21) (fun hc21 => ?_) (fun hc21 => (?_ : False).elim)
  rotate_left
  · exact absurd hc21 (by decide)
  refine w_iinc X hx (dq hby d5_26) rfl (z := (3 : Int32)) (by decide) (Ls' := #[.val (.ref x0), .val (.ref x1), .val (.int (3 : Int32))]) rfl ?_
  refine w_goto X hx (dj hby d5_29) ?_
  refine w_iloadN X hx (dq hby d5_9) rfl ?_
  refine w_aloadN X hx (dq hby d5_10) rfl rfl ?_
  refine w_arrlen X hx hZ eT A_x0 (z := (4 : Int32)) (rfl) (dq hby d5_11) ?_
  refine w_icmp_ge X hx (dj hby d5_12) (fun hc12 => (?_ : False).elim) (fun hc12 => ?_)
  · exact absurd hc12 (by decide)
  refine w_aloadN X hx (dq hby d5_15) rfl rfl ?_
  refine w_iloadN X hx (dq hby d5_16) rfl ?_
  refine w_baload X hx hZ eT A_x0 (i := 3) (rfl) (by decide) (z := (102 : Int32)) (rfl) (dq hby d5_17) ?_
  refine w_aloadN X hx (dq hby d5_18) rfl rfl ?_
  refine w_iloadN X hx (dq hby d5_19) rfl ?_
  refine w_baload X hx hZ eT A_x1 (i := 3) (rfl) (by decide) (z := (102 : Int32)) (rfl) (dq hby d5_20) ?_
  refine w_icmp_eq X hx (dj hby d5_21) (fun hc21 => ?_) (fun hc21 => (?_ : False).elim)
  rotate_left
  · exact absurd hc21 (by decide)
  refine w_iinc X hx (dq hby d5_26) rfl (z := (4 : Int32)) (by decide) (Ls' := #[.val (.ref x0), .val (.ref x1), .val (.int (4 : Int32))]) rfl ?_
  refine w_goto X hx (dj hby d5_29) ?_
  refine w_iloadN X hx (dq hby d5_9) rfl ?_
  refine w_aloadN X hx (dq hby d5_10) rfl rfl ?_
  refine w_arrlen X hx hZ eT A_x0 (z := (4 : Int32)) (rfl) (dq hby d5_11) ?_
  refine w_icmp_ge X hx (dj hby d5_12) (fun hc12 => ?_) (fun hc12 => (?_ : False).elim)
  rotate_left
  · exact absurd hc12 (by decide)
  refine w_iconst X hx (dq hby d5_32) (z := 1) rfl ?_
  refine w_retN X hx hret (by simp) hlk (dq hby d5_33) (by decide) (by decide) ?_
  exact ⟨by simp [nar], eT, rfl⟩
set_option maxRecDepth 65536 in
set_option maxHeartbeats 40000000 in
theorem seqZ (l : Launch) (Z : State) (a0 : Array Value) (hw : ∀ d ∈ tables_1, d.before a0 Z = true) (x0 x1 v0 v1 : Addr) (zc : Int32) (h0 : Heap) (E_x0 : Exa Z h0 x0 "java/lang/String") (E_x1 : Exa Z h0 x1 "java/lang/String") (F_coder_x0 : Fld Z h0 x0 "java/lang/String" "coder" "B" (.int (0 : Int32))) (F_coder_x1 : Fld Z h0 x1 "java/lang/String" "coder" "B" (.int (0 : Int32))) (F_value_x0 : Fld Z h0 x0 "java/lang/String" "value" "[B" (.ref v0)) (F_value_x1 : Fld Z h0 x1 "java/lang/String" "value" "[B" (.ref v1)) (A_v0 : AV Z h0 v0 .byte 4 (iF txZ)) (A_v1 : AV Z h0 v1 .byte 4 (iF txZ)) (S_C : Sta Z h0 "java/lang/String" "COMPACT_STRINGS" "Z" (.int zc)) (hzc : zc ≠ 0) :
    Ct l Z (⟨"java/lang/String", "equals", "(Ljava/lang/Object;)Z"⟩ : MethodName) jdk_42_method_66_code 3 (some .boolean) ({ frames := 1, cells := 0, slots := 0, locals := 14 } : Room) #[(.ref x0), (.ref x1)] h0 (fun v h' L => v = some (.int (1 : Int32)) ∧ h' = h0 ∧ L = []) := by
  refine Ct.body pn_4 ?_
  intro p e s m below meth c T X hx hby hml hown hnm hret hlk hZ eT
  rw [ef_4]

  refine w_aloadN X hx (dq hby d4_0) rfl rfl ?_
  refine w_aloadN X hx (dq hby d4_1) rfl rfl ?_
  by_cases hxx : x0 = x1
  · refine w_acmp X hx (dj hby d4_2) rfl rfl (b := false) (by simp [acV, hxx]) ?_
    refine w_iconst X hx (dq hby d4_5) (z := 1) rfl ?_
    refine w_retN X hx hret (by simp) hlk (dq hby d4_6) (by decide) (by decide) ?_
    exact ⟨by simp [nar], eT, rfl⟩
  · refine w_acmp X hx (dj hby d4_2) rfl rfl (b := true) (by simp [acV, hxx]) ?_
    refine w_aloadN X hx (dq hby d4_7) rfl rfl ?_
    refine w_inst X hx hZ eT hown (hw _ (List.mem_of_getElem? (i := 35) rfl)) E_x1 (dq hby d4_8) fun T X eT => ?_
    refine w_if_eq X hx (dj hby d4_11) (fun hc11 => (?_ : False).elim) (fun hc11 => ?_)
    · exact absurd hc11 (by decide)
    refine w_aloadN X hx (dq hby d4_14) rfl rfl ?_
    refine w_cast X hx hZ eT hown (hw _ (List.mem_of_getElem? (i := 35) rfl)) E_x1 (dq hby d4_15) fun T X eT => ?_
    refine w_astoreN X hx (dq hby d4_18) rfl (Ls' := #[.val (.ref x0), .val (.ref x1), .val (.ref x1)]) rfl ?_
    refine w_gets X hx hZ eT hown (hw _ (List.mem_of_getElem? (i := 37) rfl)) S_C (dq hby d4_19) fun T X eT => ?_
    refine w_if_eq X hx (dj hby d4_22) (fun hc22 => (?_ : False).elim) (fun hc22 => ?_)
    · exact hzc hc22
    refine w_aloadN X hx (dq hby d4_25) rfl rfl ?_
    refine w_getf X hx hZ eT hown (hw _ (List.mem_of_getElem? (i := 38) rfl)) F_coder_x0 (dq hby d4_26) fun T X eT => ?_
    refine w_aloadN X hx (dq hby d4_29) rfl rfl ?_
    refine w_getf X hx hZ eT hown (hw _ (List.mem_of_getElem? (i := 38) rfl)) F_coder_x1 (dq hby d4_30) fun T X eT => ?_
    refine w_icmp_ne X hx (dj hby d4_33) (fun hc33 => (?_ : False).elim) (fun hc33 => ?_)
    · exact absurd hc33 (by decide)
    refine w_aloadN X hx (dq hby d4_36) rfl rfl ?_
    refine w_getf X hx hZ eT hown (hw _ (List.mem_of_getElem? (i := 39) rfl)) F_value_x0 (dq hby d4_37) fun T X eT => ?_
    refine w_aloadN X hx (dq hby d4_40) rfl rfl ?_
    refine w_getf X hx hZ eT hown (hw _ (List.mem_of_getElem? (i := 39) rfl)) F_value_x1 (dq hby d4_41) fun T X eT => ?_
    refine w_callSP X hx hZ eT hml (by rfl) hown (hw _ (List.mem_of_getElem? (i := 40) rfl)) (hw _ (List.mem_of_getElem? (i := 41) rfl)) (hw _ (List.mem_of_getElem? (i := 42) rfl)) (hw _ (List.mem_of_getElem? (i := 43) rfl)) (by decide) (latZ l Z a0 hw v0 v1 h0 A_v0 A_v1) (dq hby d4_44) pd_0 (argsL := [(.ref v0), (.ref v1)]) (rest := []) rfl rfl rfl (W := 0) rfl (by decide) (by decide) (by decide) (by decide) fun T X eT => ?_
    refine w_if_eq X hx (dj hby d4_47) (fun hc47 => (?_ : False).elim) (fun hc47 => ?_)
    · exact absurd hc47 (by decide)
    refine w_iconst X hx (dq hby d4_50) (z := 1) rfl ?_
    refine w_goto X hx (dj hby d4_51) ?_
    refine w_retN X hx hret (by simp) hlk (dq hby d4_55) (by decide) (by decide) ?_
    exact ⟨by simp [nar], eT, rfl⟩
set_option maxRecDepth 65536 in
set_option maxHeartbeats 40000000 in
theorem latE (l : Launch) (Z : State) (a0 : Array Value) (hw : ∀ d ∈ tables_1, d.before a0 Z = true) (x0 x1 : Addr) (h0 : Heap) (A_x0 : AV Z h0 x0 .byte 4 (iF txZ)) (A_x1 : AV Z h0 x1 .byte 4 (iF txE)) :
    Ct l Z (⟨"java/lang/StringLatin1", "equals", "([B[B)Z"⟩ : MethodName) jdk_43_method_13_code 3 (some .boolean) ({ frames := 0, cells := 0, slots := 0, locals := 0 } : Room) #[(.ref x0), (.ref x1)] h0 (fun v h' L => v = some (.int (0 : Int32)) ∧ h' = h0 ∧ L = []) := by
  refine Ct.body pn_5 ?_
  intro p e s m below meth c T X hx hby hml hown hnm hret hlk hZ eT
  rw [ef_5]

  refine w_aloadN X hx (dq hby d5_0) rfl rfl ?_
  refine w_arrlen X hx hZ eT A_x0 (z := (4 : Int32)) (rfl) (dq hby d5_1) ?_
  refine w_aloadN X hx (dq hby d5_2) rfl rfl ?_
  refine w_arrlen X hx hZ eT A_x1 (z := (4 : Int32)) (rfl) (dq hby d5_3) ?_
  refine w_icmp_ne X hx (dj hby d5_4) (fun hc4 => (?_ : False).elim) (fun hc4 => ?_)
  · exact absurd hc4 (by decide)
  refine w_iconst X hx (dq hby d5_7) (z := 0) rfl ?_
  refine w_istoreN X hx (dq hby d5_8) (z := (0 : Int32)) rfl (Ls' := #[.val (.ref x0), .val (.ref x1), .val (.int (0 : Int32))]) rfl ?_
  refine w_iloadN X hx (dq hby d5_9) rfl ?_
  refine w_aloadN X hx (dq hby d5_10) rfl rfl ?_
  refine w_arrlen X hx hZ eT A_x0 (z := (4 : Int32)) (rfl) (dq hby d5_11) ?_
  refine w_icmp_ge X hx (dj hby d5_12) (fun hc12 => (?_ : False).elim) (fun hc12 => ?_)
  · exact absurd hc12 (by decide)
  refine w_aloadN X hx (dq hby d5_15) rfl rfl ?_
  refine w_iloadN X hx (dq hby d5_16) rfl ?_
  refine w_baload X hx hZ eT A_x0 (i := 0) (rfl) (by decide) (z := (122 : Int32)) (rfl) (dq hby d5_17) ?_
  refine w_aloadN X hx (dq hby d5_18) rfl rfl ?_
  refine w_iloadN X hx (dq hby d5_19) rfl ?_
  refine w_baload X hx hZ eT A_x1 (i := 0) (rfl) (by decide) (z := (101 : Int32)) (rfl) (dq hby d5_20) ?_
  refine w_icmp_eq X hx (dj hby d5_21) (fun hc21 => (?_ : False).elim) (fun hc21 => ?_)
  · exact absurd hc21 (by decide)
  refine w_iconst X hx (dq hby d5_24) (z := 0) rfl ?_
  refine w_retN X hx hret (by simp) hlk (dq hby d5_25) (by decide) (by decide) ?_
  exact ⟨by simp [nar], eT, rfl⟩
set_option maxRecDepth 65536 in
set_option maxHeartbeats 40000000 in
theorem seqE (l : Launch) (Z : State) (a0 : Array Value) (hw : ∀ d ∈ tables_1, d.before a0 Z = true) (x0 x1 v0 v1 : Addr) (zc : Int32) (h0 : Heap) (E_x0 : Exa Z h0 x0 "java/lang/String") (E_x1 : Exa Z h0 x1 "java/lang/String") (F_coder_x0 : Fld Z h0 x0 "java/lang/String" "coder" "B" (.int (0 : Int32))) (F_coder_x1 : Fld Z h0 x1 "java/lang/String" "coder" "B" (.int (0 : Int32))) (F_value_x0 : Fld Z h0 x0 "java/lang/String" "value" "[B" (.ref v0)) (F_value_x1 : Fld Z h0 x1 "java/lang/String" "value" "[B" (.ref v1)) (A_v0 : AV Z h0 v0 .byte 4 (iF txZ)) (A_v1 : AV Z h0 v1 .byte 4 (iF txE)) (S_C : Sta Z h0 "java/lang/String" "COMPACT_STRINGS" "Z" (.int zc)) (hzc : zc ≠ 0) (hxx : x0 ≠ x1) :
    Ct l Z (⟨"java/lang/String", "equals", "(Ljava/lang/Object;)Z"⟩ : MethodName) jdk_42_method_66_code 3 (some .boolean) ({ frames := 1, cells := 0, slots := 0, locals := 14 } : Room) #[(.ref x0), (.ref x1)] h0 (fun v h' L => v = some (.int (0 : Int32)) ∧ h' = h0 ∧ L = []) := by
  refine Ct.body pn_4 ?_
  intro p e s m below meth c T X hx hby hml hown hnm hret hlk hZ eT
  rw [ef_4]

  refine w_aloadN X hx (dq hby d4_0) rfl rfl ?_
  refine w_aloadN X hx (dq hby d4_1) rfl rfl ?_
  refine w_acmp X hx (dj hby d4_2) rfl rfl (b := true) (by simp [acV, hxx]) ?_
  refine w_aloadN X hx (dq hby d4_7) rfl rfl ?_
  refine w_inst X hx hZ eT hown (hw _ (List.mem_of_getElem? (i := 35) rfl)) E_x1 (dq hby d4_8) fun T X eT => ?_
  refine w_if_eq X hx (dj hby d4_11) (fun hc11 => (?_ : False).elim) (fun hc11 => ?_)
  · exact absurd hc11 (by decide)
  refine w_aloadN X hx (dq hby d4_14) rfl rfl ?_
  refine w_cast X hx hZ eT hown (hw _ (List.mem_of_getElem? (i := 35) rfl)) E_x1 (dq hby d4_15) fun T X eT => ?_
  refine w_astoreN X hx (dq hby d4_18) rfl (Ls' := #[.val (.ref x0), .val (.ref x1), .val (.ref x1)]) rfl ?_
  refine w_gets X hx hZ eT hown (hw _ (List.mem_of_getElem? (i := 37) rfl)) S_C (dq hby d4_19) fun T X eT => ?_
  refine w_if_eq X hx (dj hby d4_22) (fun hc22 => (?_ : False).elim) (fun hc22 => ?_)
  · exact hzc hc22
  refine w_aloadN X hx (dq hby d4_25) rfl rfl ?_
  refine w_getf X hx hZ eT hown (hw _ (List.mem_of_getElem? (i := 38) rfl)) F_coder_x0 (dq hby d4_26) fun T X eT => ?_
  refine w_aloadN X hx (dq hby d4_29) rfl rfl ?_
  refine w_getf X hx hZ eT hown (hw _ (List.mem_of_getElem? (i := 38) rfl)) F_coder_x1 (dq hby d4_30) fun T X eT => ?_
  refine w_icmp_ne X hx (dj hby d4_33) (fun hc33 => (?_ : False).elim) (fun hc33 => ?_)
  · exact absurd hc33 (by decide)
  refine w_aloadN X hx (dq hby d4_36) rfl rfl ?_
  refine w_getf X hx hZ eT hown (hw _ (List.mem_of_getElem? (i := 39) rfl)) F_value_x0 (dq hby d4_37) fun T X eT => ?_
  refine w_aloadN X hx (dq hby d4_40) rfl rfl ?_
  refine w_getf X hx hZ eT hown (hw _ (List.mem_of_getElem? (i := 39) rfl)) F_value_x1 (dq hby d4_41) fun T X eT => ?_
  refine w_callSP X hx hZ eT hml (by rfl) hown (hw _ (List.mem_of_getElem? (i := 40) rfl)) (hw _ (List.mem_of_getElem? (i := 41) rfl)) (hw _ (List.mem_of_getElem? (i := 42) rfl)) (hw _ (List.mem_of_getElem? (i := 43) rfl)) (by decide) (latE l Z a0 hw v0 v1 h0 A_v0 A_v1) (dq hby d4_44) pd_0 (argsL := [(.ref v0), (.ref v1)]) (rest := []) rfl rfl rfl (W := 0) rfl (by decide) (by decide) (by decide) (by decide) fun T X eT => ?_
  refine w_if_eq X hx (dj hby d4_47) (fun hc47 => ?_) (fun hc47 => (?_ : False).elim)
  rotate_left
  · exact absurd hc47 (by decide)
  refine w_iconst X hx (dq hby d4_54) (z := 0) rfl ?_
  refine w_retN X hx hret (by simp) hlk (dq hby d4_55) (by decide) (by decide) ?_
  exact ⟨by simp [nar], eT, rfl⟩
set_option maxRecDepth 65536 in
set_option maxHeartbeats 40000000 in
theorem latU (l : Launch) (Z : State) (a0 : Array Value) (hw : ∀ d ∈ tables_1, d.before a0 Z = true) (x0 x1 : Addr) (h0 : Heap) (A_x0 : AV Z h0 x0 .byte 4 (iF txZ)) (A_x1 : AV Z h0 x1 .byte 7 (iF txU)) :
    Ct l Z (⟨"java/lang/StringLatin1", "equals", "([B[B)Z"⟩ : MethodName) jdk_43_method_13_code 3 (some .boolean) ({ frames := 0, cells := 0, slots := 0, locals := 0 } : Room) #[(.ref x0), (.ref x1)] h0 (fun v h' L => v = some (.int (0 : Int32)) ∧ h' = h0 ∧ L = []) := by
  refine Ct.body pn_5 ?_
  intro p e s m below meth c T X hx hby hml hown hnm hret hlk hZ eT
  rw [ef_5]

  refine w_aloadN X hx (dq hby d5_0) rfl rfl ?_
  refine w_arrlen X hx hZ eT A_x0 (z := (4 : Int32)) (rfl) (dq hby d5_1) ?_
  refine w_aloadN X hx (dq hby d5_2) rfl rfl ?_
  refine w_arrlen X hx hZ eT A_x1 (z := (7 : Int32)) (rfl) (dq hby d5_3) ?_
  refine w_icmp_ne X hx (dj hby d5_4) (fun hc4 => ?_) (fun hc4 => (?_ : False).elim)
  rotate_left
  · exact absurd hc4 (by decide)
  refine w_iconst X hx (dq hby d5_34) (z := 0) rfl ?_
  refine w_retN X hx hret (by simp) hlk (dq hby d5_35) (by decide) (by decide) ?_
  exact ⟨by simp [nar], eT, rfl⟩
set_option maxRecDepth 65536 in
set_option maxHeartbeats 40000000 in
theorem seqU (l : Launch) (Z : State) (a0 : Array Value) (hw : ∀ d ∈ tables_1, d.before a0 Z = true) (x0 x1 v0 v1 : Addr) (zc : Int32) (h0 : Heap) (E_x0 : Exa Z h0 x0 "java/lang/String") (E_x1 : Exa Z h0 x1 "java/lang/String") (F_coder_x0 : Fld Z h0 x0 "java/lang/String" "coder" "B" (.int (0 : Int32))) (F_coder_x1 : Fld Z h0 x1 "java/lang/String" "coder" "B" (.int (0 : Int32))) (F_value_x0 : Fld Z h0 x0 "java/lang/String" "value" "[B" (.ref v0)) (F_value_x1 : Fld Z h0 x1 "java/lang/String" "value" "[B" (.ref v1)) (A_v0 : AV Z h0 v0 .byte 4 (iF txZ)) (A_v1 : AV Z h0 v1 .byte 7 (iF txU)) (S_C : Sta Z h0 "java/lang/String" "COMPACT_STRINGS" "Z" (.int zc)) (hzc : zc ≠ 0) (hxx : x0 ≠ x1) :
    Ct l Z (⟨"java/lang/String", "equals", "(Ljava/lang/Object;)Z"⟩ : MethodName) jdk_42_method_66_code 3 (some .boolean) ({ frames := 1, cells := 0, slots := 0, locals := 14 } : Room) #[(.ref x0), (.ref x1)] h0 (fun v h' L => v = some (.int (0 : Int32)) ∧ h' = h0 ∧ L = []) := by
  refine Ct.body pn_4 ?_
  intro p e s m below meth c T X hx hby hml hown hnm hret hlk hZ eT
  rw [ef_4]

  refine w_aloadN X hx (dq hby d4_0) rfl rfl ?_
  refine w_aloadN X hx (dq hby d4_1) rfl rfl ?_
  refine w_acmp X hx (dj hby d4_2) rfl rfl (b := true) (by simp [acV, hxx]) ?_
  refine w_aloadN X hx (dq hby d4_7) rfl rfl ?_
  refine w_inst X hx hZ eT hown (hw _ (List.mem_of_getElem? (i := 35) rfl)) E_x1 (dq hby d4_8) fun T X eT => ?_
  refine w_if_eq X hx (dj hby d4_11) (fun hc11 => (?_ : False).elim) (fun hc11 => ?_)
  · exact absurd hc11 (by decide)
  refine w_aloadN X hx (dq hby d4_14) rfl rfl ?_
  refine w_cast X hx hZ eT hown (hw _ (List.mem_of_getElem? (i := 35) rfl)) E_x1 (dq hby d4_15) fun T X eT => ?_
  refine w_astoreN X hx (dq hby d4_18) rfl (Ls' := #[.val (.ref x0), .val (.ref x1), .val (.ref x1)]) rfl ?_
  refine w_gets X hx hZ eT hown (hw _ (List.mem_of_getElem? (i := 37) rfl)) S_C (dq hby d4_19) fun T X eT => ?_
  refine w_if_eq X hx (dj hby d4_22) (fun hc22 => (?_ : False).elim) (fun hc22 => ?_)
  · exact hzc hc22
  refine w_aloadN X hx (dq hby d4_25) rfl rfl ?_
  refine w_getf X hx hZ eT hown (hw _ (List.mem_of_getElem? (i := 38) rfl)) F_coder_x0 (dq hby d4_26) fun T X eT => ?_
  refine w_aloadN X hx (dq hby d4_29) rfl rfl ?_
  refine w_getf X hx hZ eT hown (hw _ (List.mem_of_getElem? (i := 38) rfl)) F_coder_x1 (dq hby d4_30) fun T X eT => ?_
  refine w_icmp_ne X hx (dj hby d4_33) (fun hc33 => (?_ : False).elim) (fun hc33 => ?_)
  · exact absurd hc33 (by decide)
  refine w_aloadN X hx (dq hby d4_36) rfl rfl ?_
  refine w_getf X hx hZ eT hown (hw _ (List.mem_of_getElem? (i := 39) rfl)) F_value_x0 (dq hby d4_37) fun T X eT => ?_
  refine w_aloadN X hx (dq hby d4_40) rfl rfl ?_
  refine w_getf X hx hZ eT hown (hw _ (List.mem_of_getElem? (i := 39) rfl)) F_value_x1 (dq hby d4_41) fun T X eT => ?_
  refine w_callSP X hx hZ eT hml (by rfl) hown (hw _ (List.mem_of_getElem? (i := 40) rfl)) (hw _ (List.mem_of_getElem? (i := 41) rfl)) (hw _ (List.mem_of_getElem? (i := 42) rfl)) (hw _ (List.mem_of_getElem? (i := 43) rfl)) (by decide) (latU l Z a0 hw v0 v1 h0 A_v0 A_v1) (dq hby d4_44) pd_0 (argsL := [(.ref v0), (.ref v1)]) (rest := []) rfl rfl rfl (W := 0) rfl (by decide) (by decide) (by decide) (by decide) fun T X eT => ?_
  refine w_if_eq X hx (dj hby d4_47) (fun hc47 => ?_) (fun hc47 => (?_ : False).elim)
  rotate_left
  · exact absurd hc47 (by decide)
  refine w_iconst X hx (dq hby d4_54) (z := 0) rfl ?_
  refine w_retN X hx hret (by simp) hlk (dq hby d4_55) (by decide) (by decide) ?_
  exact ⟨by simp [nar], eT, rfl⟩

theorem own_neq {Z : State} {h : Heap} {a a' b b' : Addr} {n : Nat} {f : Nat → Int32} (F1 : Fld Z h a "java/lang/String" "value" "[B" (.ref b)) (A1 : AV Z h b .byte 4 (iF txZ)) (F2 : Fld Z h a' "java/lang/String" "value" "[B" (.ref b')) (A2 : AV Z h b' .byte n (iF f)) (hd : n ≠ 4 ∨ f 0 ≠ 122) : a ≠ a' := fun q => by
  subst q
  cases fld_fun F1 F2
  obtain ⟨rfl, q⟩ := av_fun A1 A2
  rcases hd with hd | hd
  · exact hd rfl
  · exact hd (Value.int.inj (q 0 (by decide))).symm
theorem own_vs : ∀ i, i < 4 → [Value.int 122, Value.int 105, Value.int 112, Value.int 102].getD i (.int 0) = .int (txZ i) := fun i hi => by
  rcases (show i = 0 ∨ i = 1 ∨ i = 2 ∨ i = 3 by omega) with rfl | rfl | rfl | rfl <;> rfl

def Q0 (n0 : Nat) (v : Option Value) (h : Heap) (L : List Loc) : Prop := v = some (.int (1 : Int32)) ∧ Fr n0 L
set_option maxRecDepth 65536 in
set_option maxHeartbeats 40000000 in
theorem rm0 (l : Launch) (Z : State) (a0 : Array Value) (hw : ∀ d ∈ tables_1, d.before a0 Z = true) (ws : List Jvm.Cond) (i0 : Int32) (h0 : Heap) (n0 : Nat) (Z0 : n0 ≤ h0.size) {aU kU vU aZ kZ vZ aE kE vE : Addr} {zc : Int32}
    (S_U : Sta Z h0 "com/example/topicweave/topicweave/workloads/Popularity" "UNIFORM" "Lcom/example/topicweave/topicweave/workloads/Popularity;" (.ref aU))
    (E_aU : Exa Z h0 aU "com/example/topicweave/topicweave/workloads/Popularity")
    (F_key_aU : Fld Z h0 aU "com/example/topicweave/topicweave/workloads/Popularity" "key" "Ljava/lang/String;" (.ref kU))
    (E_kU : Exa Z h0 kU "java/lang/String")
    (F_coder_kU : Fld Z h0 kU "java/lang/String" "coder" "B" (.int (0 : Int32)))
    (F_value_kU : Fld Z h0 kU "java/lang/String" "value" "[B" (.ref vU))
    (A_vU : AV Z h0 vU .byte 7 (iF txU))
    (S_Z : Sta Z h0 "com/example/topicweave/topicweave/workloads/Popularity" "ZIPF" "Lcom/example/topicweave/topicweave/workloads/Popularity;" (.ref aZ))
    (E_aZ : Exa Z h0 aZ "com/example/topicweave/topicweave/workloads/Popularity")
    (F_key_aZ : Fld Z h0 aZ "com/example/topicweave/topicweave/workloads/Popularity" "key" "Ljava/lang/String;" (.ref kZ))
    (E_kZ : Exa Z h0 kZ "java/lang/String")
    (F_coder_kZ : Fld Z h0 kZ "java/lang/String" "coder" "B" (.int (0 : Int32)))
    (F_value_kZ : Fld Z h0 kZ "java/lang/String" "value" "[B" (.ref vZ))
    (A_vZ : AV Z h0 vZ .byte 4 (iF txZ))
    (S_E : Sta Z h0 "com/example/topicweave/topicweave/workloads/Popularity" "EXPO" "Lcom/example/topicweave/topicweave/workloads/Popularity;" (.ref aE))
    (E_aE : Exa Z h0 aE "com/example/topicweave/topicweave/workloads/Popularity")
    (F_key_aE : Fld Z h0 aE "com/example/topicweave/topicweave/workloads/Popularity" "key" "Ljava/lang/String;" (.ref kE))
    (E_kE : Exa Z h0 kE "java/lang/String")
    (F_coder_kE : Fld Z h0 kE "java/lang/String" "coder" "B" (.int (0 : Int32)))
    (F_value_kE : Fld Z h0 kE "java/lang/String" "value" "[B" (.ref vE))
    (A_vE : AV Z h0 vE .byte 4 (iF txE))
    (ne_UZ : aU ≠ aZ)
    (ne_EZ : aE ≠ aZ)
    (S_C : Sta Z h0 "java/lang/String" "COMPACT_STRINGS" "Z" (.int zc))
    (hzc : zc ≠ 0)
    (wS : ∀ d ∈ Bundle.stringAtoms, d.before a0 Z = true)
    (hEL : EW Z a0 consts_1) :
    MetFree l x (head1 (Jvm.Cond.code x code maxLocals ret :: ws) room_1) (fun a U => a = #[(.int i0)] ∧ Z.Warmed39 U.vm ∧ U.heap = h0 ∧ CHv Z consts_1 U.vm h0) (fun _ _ _ _ _ => True) (fun _ U o U' => ∃ v L, o = .returned v ∧ Q0 n0 v U'.heap L ∧ ReturnedEndW U o U' L 8 1088) := by
  refine w_bodyW pn_0 ?_
  intro p e s m below meth c T X hx hby hml hown hnm hret hlk hZ eT CH
  rw [ef_0]
  have N := Fr.nil n0
  refine w_iloadN X hx (dq hby d0_0) rfl ?_
  refine w_ldc X hx hZ hown (hw _ (List.mem_of_getElem? (i := 0) rfl)) (dq hby d0_1) ?_
  refine w_iand X hx (dq hby d0_3) ?_
  refine w_iconst X hx (dq hby d0_4) (z := 3) rfl ?_
  refine w_irem X hx (dq hby d0_5) (by decide) ?_
  obtain ⟨v1_6, hv1_6⟩ : ∃ z : Int32, z = ((i0 &&& (2147483647 : Int32)) % (3 : Int32)) := ⟨_, rfl⟩
  refine w_istoreN X hx (dq hby d0_6) (z := v1_6) hv1_6 (Ls' := #[.val (.int i0), .val (.int v1_6), .unset, .unset, .unset, .unset]) rfl ?_
  have m31 : (i0 &&& 2147483647).toInt = i0.toInt % 2 ^ 31 := Jvm.Kit.i32_mask i0 2147483647 (by decide) (by decide)
  have r3 : v1_6.toInt = i0.toInt % 2 ^ 31 % 3 := by rw [hv1_6, Jvm.Kit.i32_rem_nonneg (by omega), m31]; rfl
  have q3 : v1_6 = 0 ∨ v1_6 = 1 ∨ v1_6 = 2 := by
    rcases (show v1_6.toInt = 0 ∨ v1_6.toInt = 1 ∨ v1_6.toInt = 2 by omega) with q | q | q
    · exact Or.inl (i32_inj q)
    · exact Or.inr (Or.inl (i32_inj q))
    · exact Or.inr (Or.inr (i32_inj q))
  clear r3 hv1_6
  rcases q3 with rfl | rfl | rfl
  · refine w_iloadN X hx (dq hby d0_7) rfl ?_
    refine w_callSP X hx hZ eT hml (by rfl) hown (hw _ (List.mem_of_getElem? (i := 1) rfl)) (hw _ (List.mem_of_getElem? (i := 2) rfl)) (hw _ (List.mem_of_getElem? (i := 3) rfl)) (hw _ (List.mem_of_getElem? (i := 4) rfl)) (by decide) (pickU l Z a0 hw aU h0 S_U) (dq hby d0_8) pd_1 (argsL := [(.int (0 : Int32))]) (rest := []) rfl rfl rfl (W := 0) rfl (by decide) (by decide) (by decide) (by decide) fun T X eT => ?_
    refine w_astoreN X hx (dq hby d0_11) rfl (Ls' := #[.val (.int i0), .val (.int (0 : Int32)), .val (.ref aU), .unset, .unset, .unset]) rfl ?_
    refine w_iloadN X hx (dq hby d0_12) rfl ?_
    refine w_iconst X hx (dq hby d0_13) (z := 1) rfl ?_
    refine w_icmp_ne X hx (dj hby d0_14) (fun hc14 => ?_) (fun hc14 => (?_ : False).elim)
    rotate_left
    · exact absurd hc14 (by decide)
    refine w_iconst X hx (dq hby d0_21) (z := 0) rfl ?_
    refine w_istoreN X hx (dq hby d0_22) (z := (0 : Int32)) rfl (Ls' := #[.val (.int i0), .val (.int (0 : Int32)), .val (.ref aU), .val (.int (0 : Int32)), .unset, .unset]) rfl ?_
    refine w_aloadN X hx (dq hby d0_23) rfl rfl ?_
    refine w_callVP X hx hZ eT hml (by rfl) hown (hw _ (List.mem_of_getElem? (i := 8) rfl)) (hw _ (List.mem_of_getElem? (i := 9) rfl)) (hw _ (List.mem_of_getElem? (i := 11) rfl)) (hw _ (List.mem_of_getElem? (i := 10) rfl)) (hw _ (List.mem_of_getElem? (i := 6) rfl)) (hw _ (List.mem_of_getElem? (i := 12) rfl)) (by decide) (tk0 l Z a0 hw aU aZ h0 S_Z ne_UZ) E_aU (dq hby d0_24) pd_2 (argsL := []) (rest := []) rfl rfl rfl (W := 0) rfl (by decide) (by decide) (by decide) (by decide) fun T X eT => ?_
    refine w_istore X hx (dq hby d0_27) (z := (0 : Int32)) rfl (Ls' := #[.val (.int i0), .val (.int (0 : Int32)), .val (.ref aU), .val (.int (0 : Int32)), .val (.int (0 : Int32)), .unset]) rfl ?_
    refine w_ldcW X hx hZ hown (hw _ (List.mem_of_getElem? (i := 15) rfl)) wS eT hEL (List.mem_singleton.mpr rfl) CH (vs := [.int 122, .int 105, .int 112, .int 102]) (z := 4) ⟨by decide, by rfl⟩ (by decide) (by decide) (dq hby d0_29) (n := 16) (by decide) (by decide) (by decide) (by decide) fun ls T h1 k1 lb kb X eT EX hk1 hZ hown E_ls F_coder_ls F_value_ls K_lb => ?_
    replace F_key_aU := Fld.ext EX F_key_aU
    replace F_coder_kU := Fld.ext EX F_coder_kU
    replace F_value_kU := Fld.ext EX F_value_kU
    replace F_key_aZ := Fld.ext EX F_key_aZ
    replace F_coder_kZ := Fld.ext EX F_coder_kZ
    replace F_value_kZ := Fld.ext EX F_value_kZ
    replace F_key_aE := Fld.ext EX F_key_aE
    replace F_coder_kE := Fld.ext EX F_coder_kE
    replace F_value_kE := Fld.ext EX F_value_kE
    replace E_aU := Exa.ext EX E_aU
    replace E_kU := Exa.ext EX E_kU
    replace E_aZ := Exa.ext EX E_aZ
    replace E_kZ := Exa.ext EX E_kZ
    replace E_aE := Exa.ext EX E_aE
    replace E_kE := Exa.ext EX E_kE
    replace A_vU := AV.ext A_vU EX
    replace A_vZ := AV.ext A_vZ EX
    replace A_vE := AV.ext A_vE EX
    replace Z0 := Nat.le_trans Z0 EX.1
    replace S_C := Sta.ext EX S_C
    have A_lb : AV Z h1 lb .byte 4 (iF txZ) := AV.ofArv K_lb rfl own_vs
    refine w_aloadN X hx (dq hby d0_31) rfl rfl ?_
    refine w_callVP X hx hZ eT hml (by rfl) hown (hw _ (List.mem_of_getElem? (i := 23) rfl)) (hw _ (List.mem_of_getElem? (i := 24) rfl)) (hw _ (List.mem_of_getElem? (i := 26) rfl)) (hw _ (List.mem_of_getElem? (i := 25) rfl)) (hw _ (List.mem_of_getElem? (i := 6) rfl)) (hw _ (List.mem_of_getElem? (i := 27) rfl)) (by decide) (ct3 l Z a0 hw aU kU h1 F_key_aU) E_aU (dq hby d0_32) pd_3 (argsL := []) (rest := [(.ref ls)]) rfl rfl rfl (W := 1) rfl (by decide) (by decide) (by decide) (by decide) fun T X eT => ?_
    refine w_callVP X hx hZ eT hml (by rfl) hown (hw _ (List.mem_of_getElem? (i := 30) rfl)) (hw _ (List.mem_of_getElem? (i := 31) rfl)) (hw _ (List.mem_of_getElem? (i := 33) rfl)) (hw _ (List.mem_of_getElem? (i := 32) rfl)) (hw _ (List.mem_of_getElem? (i := 16) rfl)) (hw _ (List.mem_of_getElem? (i := 34) rfl)) (by decide) (seqU l Z a0 hw ls kU lb vU zc h1 E_ls E_kU F_coder_ls F_coder_kU F_value_ls F_value_kU A_lb A_vU S_C hzc (own_neq F_value_ls A_lb F_value_kU A_vU (by decide))) E_ls (dq hby d0_35) pd_4 (argsL := [(.ref kU)]) (rest := []) rfl rfl rfl (W := 0) rfl (by decide) (by decide) (by decide) (by decide) fun T X eT => ?_
    refine w_istore X hx (dq hby d0_38) (z := (0 : Int32)) rfl (Ls' := #[.val (.int i0), .val (.int (0 : Int32)), .val (.ref aU), .val (.int (0 : Int32)), .val (.int (0 : Int32)), .val (.int (0 : Int32))]) rfl ?_
    refine w_iload X hx (dq hby d0_40) rfl ?_
    refine w_iloadN X hx (dq hby d0_42) rfl ?_
    refine w_icmp_ne X hx (dj hby d0_43) (fun hc43 => (?_ : False).elim) (fun hc43 => ?_)
    · exact absurd hc43 (by decide)
    refine w_iload X hx (dq hby d0_46) rfl ?_
    refine w_iload X hx (dq hby d0_48) rfl ?_
    refine w_icmp_ne X hx (dj hby d0_50) (fun hc50 => (?_ : False).elim) (fun hc50 => ?_)
    · exact absurd hc50 (by decide)
    refine w_iconst X hx (dq hby d0_53) (z := 1) rfl ?_
    refine w_goto X hx (dj hby d0_54) ?_
    refine w_retN X hx hret (by simp) hlk (dq hby d0_58) (by decide) (by decide) ?_
    exact ⟨by rw [eT]; exact hk1, by simp [nar], N⟩
  · refine w_iloadN X hx (dq hby d0_7) rfl ?_
    refine w_callSP X hx hZ eT hml (by rfl) hown (hw _ (List.mem_of_getElem? (i := 1) rfl)) (hw _ (List.mem_of_getElem? (i := 2) rfl)) (hw _ (List.mem_of_getElem? (i := 3) rfl)) (hw _ (List.mem_of_getElem? (i := 4) rfl)) (by decide) (pickZ l Z a0 hw aZ h0 S_Z) (dq hby d0_8) pd_1 (argsL := [(.int (1 : Int32))]) (rest := []) rfl rfl rfl (W := 0) rfl (by decide) (by decide) (by decide) (by decide) fun T X eT => ?_
    refine w_astoreN X hx (dq hby d0_11) rfl (Ls' := #[.val (.int i0), .val (.int (1 : Int32)), .val (.ref aZ), .unset, .unset, .unset]) rfl ?_
    refine w_iloadN X hx (dq hby d0_12) rfl ?_
    refine w_iconst X hx (dq hby d0_13) (z := 1) rfl ?_
    refine w_icmp_ne X hx (dj hby d0_14) (fun hc14 => (?_ : False).elim) (fun hc14 => ?_)
    · exact absurd hc14 (by decide)
    refine w_iconst X hx (dq hby d0_17) (z := 1) rfl ?_
    refine w_goto X hx (dj hby d0_18) ?_
    refine w_istoreN X hx (dq hby d0_22) (z := (1 : Int32)) rfl (Ls' := #[.val (.int i0), .val (.int (1 : Int32)), .val (.ref aZ), .val (.int (1 : Int32)), .unset, .unset]) rfl ?_
    refine w_aloadN X hx (dq hby d0_23) rfl rfl ?_
    refine w_callVP X hx hZ eT hml (by rfl) hown (hw _ (List.mem_of_getElem? (i := 8) rfl)) (hw _ (List.mem_of_getElem? (i := 9) rfl)) (hw _ (List.mem_of_getElem? (i := 11) rfl)) (hw _ (List.mem_of_getElem? (i := 10) rfl)) (hw _ (List.mem_of_getElem? (i := 6) rfl)) (hw _ (List.mem_of_getElem? (i := 12) rfl)) (by decide) (tk1 l Z a0 hw aZ h0 S_Z) E_aZ (dq hby d0_24) pd_2 (argsL := []) (rest := []) rfl rfl rfl (W := 0) rfl (by decide) (by decide) (by decide) (by decide) fun T X eT => ?_
    refine w_istore X hx (dq hby d0_27) (z := (1 : Int32)) rfl (Ls' := #[.val (.int i0), .val (.int (1 : Int32)), .val (.ref aZ), .val (.int (1 : Int32)), .val (.int (1 : Int32)), .unset]) rfl ?_
    refine w_ldcW X hx hZ hown (hw _ (List.mem_of_getElem? (i := 15) rfl)) wS eT hEL (List.mem_singleton.mpr rfl) CH (vs := [.int 122, .int 105, .int 112, .int 102]) (z := 4) ⟨by decide, by rfl⟩ (by decide) (by decide) (dq hby d0_29) (n := 16) (by decide) (by decide) (by decide) (by decide) fun ls T h1 k1 lb kb X eT EX hk1 hZ hown E_ls F_coder_ls F_value_ls K_lb => ?_
    replace F_key_aU := Fld.ext EX F_key_aU
    replace F_coder_kU := Fld.ext EX F_coder_kU
    replace F_value_kU := Fld.ext EX F_value_kU
    replace F_key_aZ := Fld.ext EX F_key_aZ
    replace F_coder_kZ := Fld.ext EX F_coder_kZ
    replace F_value_kZ := Fld.ext EX F_value_kZ
    replace F_key_aE := Fld.ext EX F_key_aE
    replace F_coder_kE := Fld.ext EX F_coder_kE
    replace F_value_kE := Fld.ext EX F_value_kE
    replace E_aU := Exa.ext EX E_aU
    replace E_kU := Exa.ext EX E_kU
    replace E_aZ := Exa.ext EX E_aZ
    replace E_kZ := Exa.ext EX E_kZ
    replace E_aE := Exa.ext EX E_aE
    replace E_kE := Exa.ext EX E_kE
    replace A_vU := AV.ext A_vU EX
    replace A_vZ := AV.ext A_vZ EX
    replace A_vE := AV.ext A_vE EX
    replace Z0 := Nat.le_trans Z0 EX.1
    replace S_C := Sta.ext EX S_C
    have A_lb : AV Z h1 lb .byte 4 (iF txZ) := AV.ofArv K_lb rfl own_vs
    refine w_aloadN X hx (dq hby d0_31) rfl rfl ?_
    refine w_callVP X hx hZ eT hml (by rfl) hown (hw _ (List.mem_of_getElem? (i := 23) rfl)) (hw _ (List.mem_of_getElem? (i := 24) rfl)) (hw _ (List.mem_of_getElem? (i := 26) rfl)) (hw _ (List.mem_of_getElem? (i := 25) rfl)) (hw _ (List.mem_of_getElem? (i := 6) rfl)) (hw _ (List.mem_of_getElem? (i := 27) rfl)) (by decide) (ct3 l Z a0 hw aZ kZ h1 F_key_aZ) E_aZ (dq hby d0_32) pd_3 (argsL := []) (rest := [(.ref ls)]) rfl rfl rfl (W := 1) rfl (by decide) (by decide) (by decide) (by decide) fun T X eT => ?_
    refine w_callVP X hx hZ eT hml (by rfl) hown (hw _ (List.mem_of_getElem? (i := 30) rfl)) (hw _ (List.mem_of_getElem? (i := 31) rfl)) (hw _ (List.mem_of_getElem? (i := 33) rfl)) (hw _ (List.mem_of_getElem? (i := 32) rfl)) (hw _ (List.mem_of_getElem? (i := 16) rfl)) (hw _ (List.mem_of_getElem? (i := 34) rfl)) (by decide) (seqZ l Z a0 hw ls kZ lb vZ zc h1 E_ls E_kZ F_coder_ls F_coder_kZ F_value_ls F_value_kZ A_lb A_vZ S_C hzc) E_ls (dq hby d0_35) pd_4 (argsL := [(.ref kZ)]) (rest := []) rfl rfl rfl (W := 0) rfl (by decide) (by decide) (by decide) (by decide) fun T X eT => ?_
    refine w_istore X hx (dq hby d0_38) (z := (1 : Int32)) rfl (Ls' := #[.val (.int i0), .val (.int (1 : Int32)), .val (.ref aZ), .val (.int (1 : Int32)), .val (.int (1 : Int32)), .val (.int (1 : Int32))]) rfl ?_
    refine w_iload X hx (dq hby d0_40) rfl ?_
    refine w_iloadN X hx (dq hby d0_42) rfl ?_
    refine w_icmp_ne X hx (dj hby d0_43) (fun hc43 => (?_ : False).elim) (fun hc43 => ?_)
    · exact absurd hc43 (by decide)
    refine w_iload X hx (dq hby d0_46) rfl ?_
    refine w_iload X hx (dq hby d0_48) rfl ?_
    refine w_icmp_ne X hx (dj hby d0_50) (fun hc50 => (?_ : False).elim) (fun hc50 => ?_)
    · exact absurd hc50 (by decide)
    refine w_iconst X hx (dq hby d0_53) (z := 1) rfl ?_
    refine w_goto X hx (dj hby d0_54) ?_
    refine w_retN X hx hret (by simp) hlk (dq hby d0_58) (by decide) (by decide) ?_
    exact ⟨by rw [eT]; exact hk1, by simp [nar], N⟩
  · refine w_iloadN X hx (dq hby d0_7) rfl ?_
    refine w_callSP X hx hZ eT hml (by rfl) hown (hw _ (List.mem_of_getElem? (i := 1) rfl)) (hw _ (List.mem_of_getElem? (i := 2) rfl)) (hw _ (List.mem_of_getElem? (i := 3) rfl)) (hw _ (List.mem_of_getElem? (i := 4) rfl)) (by decide) (pickE l Z a0 hw aE h0 S_E) (dq hby d0_8) pd_1 (argsL := [(.int (2 : Int32))]) (rest := []) rfl rfl rfl (W := 0) rfl (by decide) (by decide) (by decide) (by decide) fun T X eT => ?_
    refine w_astoreN X hx (dq hby d0_11) rfl (Ls' := #[.val (.int i0), .val (.int (2 : Int32)), .val (.ref aE), .unset, .unset, .unset]) rfl ?_
    refine w_iloadN X hx (dq hby d0_12) rfl ?_
    refine w_iconst X hx (dq hby d0_13) (z := 1) rfl ?_
    refine w_icmp_ne X hx (dj hby d0_14) (fun hc14 => ?_) (fun hc14 => (?_ : False).elim)
    rotate_left
    · exact absurd hc14 (by decide)
    refine w_iconst X hx (dq hby d0_21) (z := 0) rfl ?_
    refine w_istoreN X hx (dq hby d0_22) (z := (0 : Int32)) rfl (Ls' := #[.val (.int i0), .val (.int (2 : Int32)), .val (.ref aE), .val (.int (0 : Int32)), .unset, .unset]) rfl ?_
    refine w_aloadN X hx (dq hby d0_23) rfl rfl ?_
    refine w_callVP X hx hZ eT hml (by rfl) hown (hw _ (List.mem_of_getElem? (i := 8) rfl)) (hw _ (List.mem_of_getElem? (i := 9) rfl)) (hw _ (List.mem_of_getElem? (i := 11) rfl)) (hw _ (List.mem_of_getElem? (i := 10) rfl)) (hw _ (List.mem_of_getElem? (i := 6) rfl)) (hw _ (List.mem_of_getElem? (i := 12) rfl)) (by decide) (tk0 l Z a0 hw aE aZ h0 S_Z ne_EZ) E_aE (dq hby d0_24) pd_2 (argsL := []) (rest := []) rfl rfl rfl (W := 0) rfl (by decide) (by decide) (by decide) (by decide) fun T X eT => ?_
    refine w_istore X hx (dq hby d0_27) (z := (0 : Int32)) rfl (Ls' := #[.val (.int i0), .val (.int (2 : Int32)), .val (.ref aE), .val (.int (0 : Int32)), .val (.int (0 : Int32)), .unset]) rfl ?_
    refine w_ldcW X hx hZ hown (hw _ (List.mem_of_getElem? (i := 15) rfl)) wS eT hEL (List.mem_singleton.mpr rfl) CH (vs := [.int 122, .int 105, .int 112, .int 102]) (z := 4) ⟨by decide, by rfl⟩ (by decide) (by decide) (dq hby d0_29) (n := 16) (by decide) (by decide) (by decide) (by decide) fun ls T h1 k1 lb kb X eT EX hk1 hZ hown E_ls F_coder_ls F_value_ls K_lb => ?_
    replace F_key_aU := Fld.ext EX F_key_aU
    replace F_coder_kU := Fld.ext EX F_coder_kU
    replace F_value_kU := Fld.ext EX F_value_kU
    replace F_key_aZ := Fld.ext EX F_key_aZ
    replace F_coder_kZ := Fld.ext EX F_coder_kZ
    replace F_value_kZ := Fld.ext EX F_value_kZ
    replace F_key_aE := Fld.ext EX F_key_aE
    replace F_coder_kE := Fld.ext EX F_coder_kE
    replace F_value_kE := Fld.ext EX F_value_kE
    replace E_aU := Exa.ext EX E_aU
    replace E_kU := Exa.ext EX E_kU
    replace E_aZ := Exa.ext EX E_aZ
    replace E_kZ := Exa.ext EX E_kZ
    replace E_aE := Exa.ext EX E_aE
    replace E_kE := Exa.ext EX E_kE
    replace A_vU := AV.ext A_vU EX
    replace A_vZ := AV.ext A_vZ EX
    replace A_vE := AV.ext A_vE EX
    replace Z0 := Nat.le_trans Z0 EX.1
    replace S_C := Sta.ext EX S_C
    have A_lb : AV Z h1 lb .byte 4 (iF txZ) := AV.ofArv K_lb rfl own_vs
    refine w_aloadN X hx (dq hby d0_31) rfl rfl ?_
    refine w_callVP X hx hZ eT hml (by rfl) hown (hw _ (List.mem_of_getElem? (i := 23) rfl)) (hw _ (List.mem_of_getElem? (i := 24) rfl)) (hw _ (List.mem_of_getElem? (i := 26) rfl)) (hw _ (List.mem_of_getElem? (i := 25) rfl)) (hw _ (List.mem_of_getElem? (i := 6) rfl)) (hw _ (List.mem_of_getElem? (i := 27) rfl)) (by decide) (ct3 l Z a0 hw aE kE h1 F_key_aE) E_aE (dq hby d0_32) pd_3 (argsL := []) (rest := [(.ref ls)]) rfl rfl rfl (W := 1) rfl (by decide) (by decide) (by decide) (by decide) fun T X eT => ?_
    refine w_callVP X hx hZ eT hml (by rfl) hown (hw _ (List.mem_of_getElem? (i := 30) rfl)) (hw _ (List.mem_of_getElem? (i := 31) rfl)) (hw _ (List.mem_of_getElem? (i := 33) rfl)) (hw _ (List.mem_of_getElem? (i := 32) rfl)) (hw _ (List.mem_of_getElem? (i := 16) rfl)) (hw _ (List.mem_of_getElem? (i := 34) rfl)) (by decide) (seqE l Z a0 hw ls kE lb vE zc h1 E_ls E_kE F_coder_ls F_coder_kE F_value_ls F_value_kE A_lb A_vE S_C hzc (own_neq F_value_ls A_lb F_value_kE A_vE (by decide))) E_ls (dq hby d0_35) pd_4 (argsL := [(.ref kE)]) (rest := []) rfl rfl rfl (W := 0) rfl (by decide) (by decide) (by decide) (by decide) fun T X eT => ?_
    refine w_istore X hx (dq hby d0_38) (z := (0 : Int32)) rfl (Ls' := #[.val (.int i0), .val (.int (2 : Int32)), .val (.ref aE), .val (.int (0 : Int32)), .val (.int (0 : Int32)), .val (.int (0 : Int32))]) rfl ?_
    refine w_iload X hx (dq hby d0_40) rfl ?_
    refine w_iloadN X hx (dq hby d0_42) rfl ?_
    refine w_icmp_ne X hx (dj hby d0_43) (fun hc43 => (?_ : False).elim) (fun hc43 => ?_)
    · exact absurd hc43 (by decide)
    refine w_iload X hx (dq hby d0_46) rfl ?_
    refine w_iload X hx (dq hby d0_48) rfl ?_
    refine w_icmp_ne X hx (dj hby d0_50) (fun hc50 => (?_ : False).elim) (fun hc50 => ?_)
    · exact absurd hc50 (by decide)
    refine w_iconst X hx (dq hby d0_53) (z := 1) rfl ?_
    refine w_goto X hx (dj hby d0_54) ?_
    refine w_retN X hx hret (by simp) hlk (dq hby d0_58) (by decide) (by decide) ?_
    exact ⟨by rw [eT]; exact hk1, by simp [nar], N⟩
set_option maxRecDepth 65536 in
set_option maxHeartbeats 40000000 in
theorem comes_1 {Post : Tables → Env → Array Value → State → Outcome → State → Prop} (hpost : ∀ tb e args s v u, (limb_1_1.after args s (.returned v) u = true ∧ limb_1_2.after args s (.returned v) u = true) → FramedW s (.returned v) u (Jvm.fieldLocs frame_1_writes args s ++ Jvm.arrayLocs frame_1_arrays args s ++ Jvm.staticLocs frame_1_statics s) 8 1088 → Post tb e args s (.returned v) u) :
    ArmFor flags0 classFile x code maxLocals ret World_1 tables_1 room_1 Calls_1 rest_1 Pre_1 Post := by
  intro l hfl _ _ p e ha hc hk s m args below hf hA hF happ hP
  obtain ⟨hcalls, hrest, hpre⟩ := hP
  obtain ⟨-, -, -, hnamed, -, -, -, hat⟩ := (Spec.applies_iff hf).mp happ
  obtain ⟨hg, hn⟩ := and_e (Cond.before_iff.mp (show (Jvm.Cond.and given_1 narrow_1).before args s = true from hpre))
  obtain ⟨g0, k0⟩ := and_e hg
  obtain ⟨w0, rfl⟩ : ∃ w0 : Value, args = #[w0] := by
    have hs : args.size = 1 := by simpa [Cond.value, given_1] using g0
    obtain ⟨L⟩ := args
    match L, hs with
    | [w0], _ => exact ⟨w0, rfl⟩
  have hw := fun d (hd : d ∈ tables_1) => atoms_spec (ws := Jvm.Cond.code x code maxLocals ret :: tables_1) hat d (List.mem_cons_of_mem _ hd)
  obtain ⟨i0, ei0⟩ := is_v k0
  obtain rfl : w0 = (.int i0) := Option.some.inj ei0
  obtain ⟨n0, m0⟩ := and_e hn
  obtain ⟨n1, m1⟩ := and_e m0
  obtain ⟨n2, m2⟩ := and_e m1
  obtain ⟨n3, m3⟩ := and_e m2
  obtain ⟨n4, m4⟩ := and_e m3
  obtain ⟨n5, m5⟩ := and_e m4
  obtain ⟨n6, m6⟩ := and_e m5
  obtain ⟨n7, m7⟩ := and_e m6
  obtain ⟨n8, m8⟩ := and_e m7
  obtain ⟨n9, m9⟩ := and_e m8
  obtain ⟨n10, m10⟩ := and_e m9
  obtain ⟨n11, m11⟩ := and_e m10
  obtain ⟨n12, m12⟩ := and_e m11
  obtain ⟨n13, m13⟩ := and_e m12
  obtain ⟨n14, m14⟩ := and_e m13
  obtain ⟨n15, m15⟩ := and_e m14
  obtain ⟨n16, m16⟩ := and_e m15
  obtain ⟨n17, m17⟩ := and_e m16
  obtain ⟨n18, m18⟩ := and_e m17
  obtain ⟨n19, m19⟩ := and_e m18
  obtain ⟨n20, m20⟩ := and_e m19
  obtain ⟨n21, m21⟩ := and_e m20
  obtain ⟨n22, m22⟩ := and_e m21
  obtain ⟨n23, m23⟩ := and_e m22
  obtain ⟨n24, m24⟩ := and_e m23
  obtain ⟨n25, m25⟩ := and_e m24
  obtain ⟨n26, m26⟩ := and_e m25
  obtain ⟨n27, m27⟩ := and_e m26
  obtain ⟨n28, m28⟩ := and_e m27
  obtain ⟨n29, m29⟩ := and_e m28
  obtain ⟨n30, m30⟩ := and_e m29
  obtain ⟨n31, m31⟩ := and_e m30
  have n32 := m31
  obtain ⟨aU, eaU⟩ := exa_v n0
  have E_aU := Exa.start eaU n0
  have S_U := Sta.start eaU (Or.inr ⟨(hw _ (List.mem_of_getElem? (i := 6) rfl)), (hw _ (List.mem_of_getElem? (i := 7) rfl))⟩)
  have O_U := wd_fld eaU (wd_eq n2)
  obtain ⟨kU, ekU⟩ := exa_v n4
  have E_kU := Exa.start ekU n4
  have F_key_aU := wd_fld eaU ekU
  have F_coder_kU := wd_fld ekU (wd_eq n5)
  obtain ⟨vU, evU⟩ := arr_v n6
  have F_value_kU := wd_fld ekU evU
  have A_vU : AV s s.heap vU .byte 7 (iF txU) := wd_arr evU n6 n7 (by decide) fun j hj => by
    rcases (show j = 0 ∨ j = 1 ∨ j = 2 ∨ j = 3 ∨ j = 4 ∨ j = 5 ∨ j = 6 by omega) with rfl | rfl | rfl | rfl | rfl | rfl | rfl
    · exact n26
    · exact n27
    · exact n28
    · exact n29
    · exact n30
    · exact n31
    · exact n32
  obtain ⟨aZ, eaZ⟩ := exa_v n1
  have E_aZ := Exa.start eaZ n1
  have S_Z := Sta.start eaZ (Or.inr ⟨(hw _ (List.mem_of_getElem? (i := 6) rfl)), (hw _ (List.mem_of_getElem? (i := 14) rfl))⟩)
  have O_Z := wd_fld eaZ (wd_eq n3)
  obtain ⟨kZ, ekZ⟩ := exa_v n15
  have E_kZ := Exa.start ekZ n15
  have F_key_aZ := wd_fld eaZ ekZ
  have F_coder_kZ := wd_fld ekZ (wd_eq n16)
  obtain ⟨vZ, evZ⟩ := arr_v n17
  have F_value_kZ := wd_fld ekZ evZ
  have A_vZ : AV s s.heap vZ .byte 4 (iF txZ) := wd_arr evZ n17 n18 (by decide) fun j hj => by
    rcases (show j = 0 ∨ j = 1 ∨ j = 2 ∨ j = 3 by omega) with rfl | rfl | rfl | rfl
    · exact n19
    · exact n20
    · exact n21
    · exact n22
  obtain ⟨aE, eaE⟩ := exa_v n8
  have E_aE := Exa.start eaE n8
  have S_E := Sta.start eaE (Or.inr ⟨(hw _ (List.mem_of_getElem? (i := 6) rfl)), (hw _ (List.mem_of_getElem? (i := 45) rfl))⟩)
  have O_E := wd_fld eaE (wd_eq n9)
  obtain ⟨kE, ekE⟩ := exa_v n10
  have E_kE := Exa.start ekE n10
  have F_key_aE := wd_fld eaE ekE
  have F_coder_kE := wd_fld ekE (wd_eq n11)
  obtain ⟨vE, evE⟩ := arr_v n12
  have F_value_kE := wd_fld ekE evE
  have A_vE : AV s s.heap vE .byte 4 (iF txE) := wd_arr evE n12 n13 (by decide) fun j hj => by
    rcases (show j = 0 ∨ j = 1 ∨ j = 2 ∨ j = 3 by omega) with rfl | rfl | rfl | rfl
    · exact n14
    · exact n23
    · exact n24
    · exact n25
  have ne_UZ : aU ≠ aZ := fun q => by rw [q] at O_U; exact absurd (Value.int.inj (fld_fun O_U O_Z)) (by decide)
  have ne_EZ : aE ≠ aZ := fun q => by rw [q] at O_E; exact absurd (Value.int.inj (fld_fun O_E O_Z)) (by decide)
  have wS : ∀ d ∈ Bundle.stringAtoms, d.before #[(.int i0)] s = true := fun d hd => by
    simp only [Bundle.stringAtoms, List.mem_cons, List.not_mem_nil, or_false] at hd
    rcases hd with rfl | rfl | rfl | rfl | rfl | rfl | rfl
    · exact (hw _ (List.mem_of_getElem? (i := 16) rfl))
    · exact (hw _ (List.mem_of_getElem? (i := 17) rfl))
    · exact (hw _ (List.mem_of_getElem? (i := 18) rfl))
    · exact (hw _ (List.mem_of_getElem? (i := 19) rfl))
    · exact (hw _ (List.mem_of_getElem? (i := 20) rfl))
    · exact (hw _ (List.mem_of_getElem? (i := 21) rfl))
    · exact (hw _ (List.mem_of_getElem? (i := 22) rfl))
  have hEL : EW s #[(.int i0)] consts_1 := EW.cons (hw _ (List.mem_of_getElem? (i := 15) rfl)) (by decide) EW.nil
  have hr : rest_1_c.before #[(.int i0)] s = true := hrest
  obtain ⟨r0, r1⟩ := and_e (Cond.before_iff.mp hr)
  obtain ⟨r2, r3⟩ := and_e r1
  obtain ⟨r4, r5⟩ := and_e r3
  obtain ⟨zc, ezc⟩ := is_v r2
  have S_C := Sta.start ezc (Or.inl (Cond.before_iff.mpr r0))
  have hzc : zc ≠ 0 := fun q => by subst q; have := not_v r4; rw [eq_i ezc (Term.int_eval 0) rfl] at this; cases this
  have CH : CHv s consts_1 s.vm s.heap := CHv.start hEL (fun p hp => hcalls.1 p hp) (Cond.before_iff.mpr r4) (hw _ (List.mem_of_getElem? (i := 18) rfl)) (hw _ (List.mem_of_getElem? (i := 17) rfl))
  obtain ⟨n, o, h1, h2, h3, _, L, rfl, ⟨rfl, N⟩, hq⟩ := rm0 l s _ hw tables_1 i0 s.heap s.heap.size (Nat.le_refl _) S_U E_aU F_key_aU E_kU F_coder_kU F_value_kU A_vU S_Z E_aZ F_key_aZ E_kZ F_coder_kZ F_value_kZ A_vZ S_E E_aE F_key_aE E_kE F_coder_kE F_value_kE A_vE ne_UZ ne_EZ S_C hzc wS hEL p e ha hc hk s m _ below hf ((Spec.applies_iff_loose hf).mp happ).1 ⟨rfl, State.Warmed39.refl s, rfl, CH⟩ trivial
  exact ⟨n, _, h1, h2, h3, hpost _ _ _ _ _ _ ⟨Cond.after_iff.mpr rfl, Cond.after_iff.mpr (eq_i res_at (Term.int_eval (1)) rfl)⟩ ⟨hq.1, hq.2.1, hq.2.2.1, hq.2.2.2.sift fun y hy => Or.inr (N y hy)⟩⟩
theorem main_1_1 : Claimed_1_1 := comes_1 fun _ _ _ _ _ _ h hF => ⟨h.1, hF⟩
theorem main_1_2 : Claimed_1_2 := comes_1 fun _ _ _ _ _ _ h hF => ⟨h.2, hF⟩

end Jvm.Pilot.@@N@@
namespace Jvm.Pilot.@@N@@
open Jvm Jvm.ClassFile Sem Op Lib Jvm.Free Jvm.Stand Jvm.Pilot.@@N@@.Jvm.D
/-! MADE BY PROGRAM (witnessworld.py) out of the Statement's table words and the real class files: 18 classes; the members and pool entries that the words name. The judged class is class 1, her method 2. -/
namespace start1
open Jvm.ClassFile
def u (s : String) : CpInfo := .utf8 (stringToUtf16 s)
/-- a pool by its gaps: so many unusable entries, then the entry; so many at the end -/
def gap : Nat → List CpInfo → List CpInfo
  | 0, r => r
  | n + 1, r => .unusable :: gap n r
def poolList (es : List (Nat × CpInfo)) (last : Nat) : List CpInfo := es.foldr (fun e r => gap e.1 (e.2 :: r)) (gap last [])
def pool (es : List (Nat × CpInfo)) (last : Nat) : Array CpInfo := ⟨poolList es last⟩
def fileOf (pool : Array CpInfo) (this : Nat) (attrs : Array Attribute := #[]) (ms : Array MethodInfo := #[]) (fl : Nat := 33) (sup : Nat := 0) (ifs : Array Nat := #[]) (fds : Array FieldInfo := #[]) : ClassFile where
  minorVersion := 0
  majorVersion := 65
  constantPool := pool
  accessFlags := fl
  thisClass := this
  superClass := sup
  interfaces := ifs
  fields := fds
  methods := ms
  attributes := attrs
def plain (name : String) (sup : Option ClassId) : Class where
  name := name
  kind := .ordinary
  loader := none
  accessFlags := 33
  super := sup
  interfaces := #[]
  cf := none
  fields := #[]
  methods := #[]
  instanceTypes := #[]
  staticTypes := #[]
  resolved := #[]
  callSites := []
  init := .initialized
  statics := none
  mirror := none

def pool0 : Array CpInfo := pool [(5, u "<init>"), (0, u "()V"), (1, .class_ 10), (1, u "java/lang/Object")] 113

def k0m0 : Method := { name := "<init>", desc := "()V", sig := { parameters := [], returnType := none }, accessFlags := 1, code := none }
/-- java/lang/Object -/
def k0 : Class := { plain "java/lang/Object" none with
  accessFlags := 33
  interfaces := #[]
  cf := some (fileOf pool0 8 #[] #[{ accessFlags := 1, nameIndex := 5, descriptorIndex := 6, attributes := #[] }] 33 0 #[] #[])
  fields := #[]
  methods := #[k0m0]
  instanceTypes := #[]
  staticTypes := #[]
  resolved := Array.replicate 124 none
  statics := none }

def pool1 : Array CpInfo := pool [(2, .class_ 4), (1, u "java/lang/Object"), (0, u "<init>"), (0, u "()V"), (0, .fieldref 8 9), (0, .class_ 10), (0, .nameAndType 11 12), (0, u "com/example/topicweave/topicweave/workloads/Popularity"), (0, u "UNIFORM"), (0, u "Lcom/example/topicweave/topicweave/workloads/Popularity;"), (0, .fieldref 8 14), (0, .nameAndType 15 12), (0, u "ZIPF"), (0, .fieldref 8 17), (0, .nameAndType 18 12), (0, u "EXPO"), (0, .integer 2147483647), (0, .methodref 21 22), (0, .class_ 23), (0, .nameAndType 24 25), (0, u "com/example/topicweave/topicweave/workloads/PopularityTakesExponentPinLaw"), (0, u "pick"), (0, u "(I)Lcom/example/topicweave/topicweave/workloads/Popularity;"), (0, .methodref 8 27), (0, .nameAndType 28 29), (0, u "takesExponent"), (0, u "()Z"), (0, .string 31), (0, u "zipf"), (0, .methodref 8 33), (0, .nameAndType 34 35), (0, u "key"), (0, u "()Ljava/lang/String;"), (0, .methodref 37 38), (0, .class_ 39), (0, .nameAndType 40 41), (0, u "java/lang/String"), (0, u "equals"), (0, u "(Ljava/lang/Object;)Z"), (3, u "law"), (0, u "(I)Z")] 2

def k1m0 : Method := { name := "<init>", desc := "()V", sig := { parameters := [], returnType := none }, accessFlags := 1, code := none }
def k1c1 : Code := { maxStack := 2, maxLocals := 1, code := method_2_code, exceptionTable := #[], attributes := #[] }
def k1m1 : Method := { name := "pick", desc := "(I)Lcom/example/topicweave/topicweave/workloads/Popularity;", sig := { parameters := [.int], returnType := some (.object "com/example/topicweave/topicweave/workloads/Popularity") }, accessFlags := 10, code := some k1c1 }
def k1c2 : Code := { maxStack := 2, maxLocals := 6, code := code, exceptionTable := #[], attributes := #[] }
def k1m2 : Method := { name := "law", desc := "(I)Z", sig := { parameters := [.int], returnType := some .boolean }, accessFlags := 9, code := some k1c2 }
/-- com/example/topicweave/topicweave/workloads/PopularityTakesExponentPinLaw -/
def k1 : Class := { plain "com/example/topicweave/topicweave/workloads/PopularityTakesExponentPinLaw" (some 0) with
  accessFlags := 49
  interfaces := #[]
  cf := some (fileOf pool1 21 #[] #[{ accessFlags := 1, nameIndex := 5, descriptorIndex := 6, attributes := #[] }, { accessFlags := 10, nameIndex := 24, descriptorIndex := 25, attributes := #[] }, { accessFlags := 9, nameIndex := 45, descriptorIndex := 46, attributes := #[] }] 49 2 #[] #[])
  fields := #[]
  methods := #[k1m0, k1m1, k1m2]
  instanceTypes := #[]
  staticTypes := #[]
  resolved := Array.replicate 49 none
  statics := none }

def pool2 : Array CpInfo := pool [(1, .class_ 2), (0, u "java/lang/constant/Constable"), (0, .class_ 4), (0, u "java/lang/Object")] 6

/-- java/lang/constant/Constable -/
def k2 : Class := { plain "java/lang/constant/Constable" (some 0) with
  accessFlags := 1537
  interfaces := #[]
  cf := some (fileOf pool2 1 #[] #[] 1537 3 #[] #[])
  fields := #[]
  methods := #[]
  instanceTypes := #[]
  staticTypes := #[]
  resolved := Array.replicate 11 none
  statics := none }

def pool3 : Array CpInfo := pool [(1, .class_ 2), (0, u "java/lang/Comparable"), (0, .class_ 4), (0, u "java/lang/Object")] 7

/-- java/lang/Comparable -/
def k3 : Class := { plain "java/lang/Comparable" (some 0) with
  accessFlags := 1537
  interfaces := #[]
  cf := some (fileOf pool3 1 #[] #[] 1537 3 #[] #[])
  fields := #[]
  methods := #[]
  instanceTypes := #[]
  staticTypes := #[]
  resolved := Array.replicate 12 none
  statics := none }

def pool4 : Array CpInfo := pool [(1, .class_ 2), (0, u "java/io/Serializable"), (0, .class_ 4), (0, u "java/lang/Object")] 2

/-- java/io/Serializable -/
def k4 : Class := { plain "java/io/Serializable" (some 0) with
  accessFlags := 1537
  interfaces := #[]
  cf := some (fileOf pool4 1 #[] #[] 1537 3 #[] #[])
  fields := #[]
  methods := #[]
  instanceTypes := #[]
  staticTypes := #[]
  resolved := Array.replicate 7 none
  statics := none }

def pool5 : Array CpInfo := pool [(2, .class_ 4), (1, u "java/lang/Enum"), (0, u "name"), (0, u "Ljava/lang/String;"), (2, u "ordinal"), (0, u "I"), (1, .class_ 14), (1, u "java/lang/Object"), (4, u "hash"), (86, .class_ 108), (1, u "java/lang/Enum$EnumDesc"), (2, .class_ 112), (0, u "java/lang/constant/Constable"), (0, .class_ 114), (0, u "java/lang/Comparable"), (0, .class_ 116), (0, u "java/io/Serializable")] 87

/-- java/lang/Enum -/
def k5 : Class := { plain "java/lang/Enum" (some 0) with
  accessFlags := 1057
  interfaces := #[2, 3, 4]
  cf := some (fileOf pool5 2 #[.nestMembers #[106]] #[] 1057 12 #[111, 113, 115] #[{ accessFlags := 18, nameIndex := 5, descriptorIndex := 6, attributes := #[] }, { accessFlags := 18, nameIndex := 9, descriptorIndex := 10, attributes := #[] }, { accessFlags := 2, nameIndex := 19, descriptorIndex := 10, attributes := #[] }])
  fields := #[{ name := "name", type := (.object "java/lang/String"), accessFlags := 18, slot := 0, constantValue := 0 }, { name := "ordinal", type := .int, accessFlags := 18, slot := 1, constantValue := 0 }, { name := "hash", type := .int, accessFlags := 2, slot := 2, constantValue := 0 }]
  methods := #[]
  instanceTypes := #[(.object "java/lang/String"), .int, .int]
  staticTypes := #[]
  resolved := Array.replicate 204 none
  statics := none }

def pool6 : Array CpInfo := pool [(1, .class_ 2), (0, u "com/example/topicweave/topicweave/workloads/Popularity"), (2, u "UNIFORM"), (0, u "Lcom/example/topicweave/topicweave/workloads/Popularity;"), (0, .fieldref 1 8), (0, .nameAndType 9 6), (0, u "ZIPF"), (2, u "EXPO"), (2, u "$VALUES"), (0, u "[Lcom/example/topicweave/topicweave/workloads/Popularity;"), (6, .class_ 25), (1, u "java/lang/Enum"), (6, .fieldref 1 33), (0, .nameAndType 34 35), (0, u "key"), (0, u "Ljava/lang/String;"), (11, u "takesExponent"), (0, u "()Z"), (102, u "DEFAULT_EXPONENT"), (0, u "D"), (3, u "EXPO_HEAD_SHARE"), (5, u "()Ljava/lang/String;")] 54

def k6c0 : Code := { maxStack := 1, maxLocals := 1, code := prog_32_method_4_code, exceptionTable := #[], attributes := #[] }
def k6m0 : Method := { name := "key", desc := "()Ljava/lang/String;", sig := { parameters := [], returnType := some (.object "java/lang/String") }, accessFlags := 1, code := some k6c0 }
def k6c1 : Code := { maxStack := 2, maxLocals := 1, code := prog_32_method_5_code, exceptionTable := #[], attributes := #[] }
def k6m1 : Method := { name := "takesExponent", desc := "()Z", sig := { parameters := [], returnType := some .boolean }, accessFlags := 1, code := some k6c1 }
/-- com/example/topicweave/topicweave/workloads/Popularity -/
def k6 : Class := { plain "com/example/topicweave/topicweave/workloads/Popularity" (some 5) with
  accessFlags := 16433
  interfaces := #[]
  cf := some (fileOf pool6 1 #[] #[{ accessFlags := 1, nameIndex := 34, descriptorIndex := 162, attributes := #[] }, { accessFlags := 1, nameIndex := 47, descriptorIndex := 48, attributes := #[] }] 16433 23 #[] #[{ accessFlags := 16409, nameIndex := 5, descriptorIndex := 6, attributes := #[] }, { accessFlags := 16409, nameIndex := 9, descriptorIndex := 6, attributes := #[] }, { accessFlags := 16409, nameIndex := 12, descriptorIndex := 6, attributes := #[] }, { accessFlags := 25, nameIndex := 151, descriptorIndex := 152, attributes := #[] }, { accessFlags := 25, nameIndex := 156, descriptorIndex := 152, attributes := #[] }, { accessFlags := 18, nameIndex := 34, descriptorIndex := 35, attributes := #[] }, { accessFlags := 4122, nameIndex := 15, descriptorIndex := 16, attributes := #[] }])
  fields := #[{ name := "UNIFORM", type := (.object "com/example/topicweave/topicweave/workloads/Popularity"), accessFlags := 16409, slot := 0, constantValue := 0 }, { name := "ZIPF", type := (.object "com/example/topicweave/topicweave/workloads/Popularity"), accessFlags := 16409, slot := 1, constantValue := 0 }, { name := "EXPO", type := (.object "com/example/topicweave/topicweave/workloads/Popularity"), accessFlags := 16409, slot := 2, constantValue := 0 }, { name := "DEFAULT_EXPONENT", type := .double, accessFlags := 25, slot := 3, constantValue := 0 }, { name := "EXPO_HEAD_SHARE", type := .double, accessFlags := 25, slot := 4, constantValue := 0 }, { name := "key", type := (.object "java/lang/String"), accessFlags := 18, slot := 3, constantValue := 0 }, { name := "$VALUES", type := (.array (.object "com/example/topicweave/topicweave/workloads/Popularity")), accessFlags := 4122, slot := 5, constantValue := 0 }]
  methods := #[k6m0, k6m1]
  instanceTypes := #[(.object "java/lang/String"), .int, .int, (.object "java/lang/String")]
  staticTypes := #[(.object "com/example/topicweave/topicweave/workloads/Popularity"), (.object "com/example/topicweave/topicweave/workloads/Popularity"), (.object "com/example/topicweave/topicweave/workloads/Popularity"), .double, .double, (.array (.object "com/example/topicweave/topicweave/workloads/Popularity"))]
  resolved := Array.replicate 217 none
  statics := some 0 }

def pool7 : Array CpInfo := pool [(2, .class_ 4), (1, u "java/lang/CharSequence"), (42, .class_ 48), (0, u "java/lang/CharSequence$1CodePointIterator"), (10, .class_ 60), (0, u "java/lang/CharSequence$1CharIterator"), (5, .class_ 67), (0, u "java/lang/Object")] 63

/-- java/lang/CharSequence -/
def k7 : Class := { plain "java/lang/CharSequence" (some 0) with
  accessFlags := 1537
  interfaces := #[]
  cf := some (fileOf pool7 2 #[.nestMembers #[47, 59]] #[] 1537 66 #[] #[])
  fields := #[]
  methods := #[]
  instanceTypes := #[]
  staticTypes := #[]
  resolved := Array.replicate 131 none
  statics := none }

def pool8 : Array CpInfo := pool [(1, .class_ 2), (0, u "java/lang/constant/ConstantDesc"), (0, .class_ 4), (0, u "java/lang/Object")] 32

/-- java/lang/constant/ConstantDesc -/
def k8 : Class := { plain "java/lang/constant/ConstantDesc" (some 0) with
  accessFlags := 1537
  interfaces := #[]
  cf := some (fileOf pool8 1 #[] #[] 1537 3 #[] #[])
  fields := #[]
  methods := #[]
  instanceTypes := #[]
  staticTypes := #[]
  resolved := Array.replicate 37 none
  statics := none }

def pool9 : Array CpInfo := pool [(2, .class_ 4), (1, u "java/lang/Object"), (0, u "<init>"), (0, u "()V"), (2, .fieldref 10 11), (0, .class_ 12), (0, .nameAndType 13 14), (0, u "java/lang/String"), (0, u "value"), (0, u "[B"), (0, .fieldref 10 16), (0, .nameAndType 17 18), (0, u "coder"), (0, u "B"), (2, u "hash"), (0, u "I"), (2, u "hashIsZero"), (0, u "Z"), (11, .fieldref 10 39), (0, .nameAndType 40 26), (0, u "COMPACT_STRINGS"), (66, .class_ 109), (1, u "java/lang/StringLatin1"), (431, .methodref 107 542), (0, .nameAndType 543 544), (0, u "equals"), (0, u "([B[B)Z"), (28, u "(Ljava/lang/Object;)Z"), (1, .class_ 576), (0, u "java/lang/CharSequence"), (22, u "CASE_INSENSITIVE_ORDER"), (0, u "Ljava/util/Comparator;"), (500, u "serialPersistentFields"), (0, u "[Ljava/io/ObjectStreamField;"), (0, .class_ 1104), (0, u "java/lang/String$CaseInsensitiveComparator"), (1, .class_ 1107), (0, u "java/io/Serializable"), (0, .class_ 1109), (0, u "java/lang/Comparable"), (0, .class_ 1111), (0, u "java/lang/constant/Constable"), (0, .class_ 1113), (0, u "java/lang/constant/ConstantDesc"), (2, u "serialVersionUID"), (0, u "J"), (3, u "REPL"), (0, u "C"), (2, u "LATIN1"), (1, u "UTF16")] 323

def k9m0 : Method := { name := "<init>", desc := "()V", sig := { parameters := [], returnType := none }, accessFlags := 1, code := none }
def k9c1 : Code := { maxStack := 2, maxLocals := 3, code := jdk_42_method_66_code, exceptionTable := #[], attributes := #[] }
def k9m1 : Method := { name := "equals", desc := "(Ljava/lang/Object;)Z", sig := { parameters := [(.object "java/lang/Object")], returnType := some .boolean }, accessFlags := 1, code := some k9c1 }
/-- java/lang/String -/
def k9 : Class := { plain "java/lang/String" (some 0) with
  accessFlags := 49
  interfaces := #[4, 3, 7, 2, 8]
  cf := some (fileOf pool9 10 #[.nestMembers #[1103]] #[{ accessFlags := 1, nameIndex := 5, descriptorIndex := 6, attributes := #[] }, { accessFlags := 1, nameIndex := 543, descriptorIndex := 573, attributes := #[] }] 49 2 #[1106, 1108, 575, 1110, 1112] #[{ accessFlags := 18, nameIndex := 13, descriptorIndex := 14, attributes := #[] }, { accessFlags := 18, nameIndex := 17, descriptorIndex := 18, attributes := #[] }, { accessFlags := 2, nameIndex := 21, descriptorIndex := 22, attributes := #[] }, { accessFlags := 2, nameIndex := 25, descriptorIndex := 26, attributes := #[] }, { accessFlags := 26, nameIndex := 1116, descriptorIndex := 1117, attributes := #[] }, { accessFlags := 24, nameIndex := 40, descriptorIndex := 26, attributes := #[] }, { accessFlags := 26, nameIndex := 1101, descriptorIndex := 1102, attributes := #[] }, { accessFlags := 26, nameIndex := 1121, descriptorIndex := 1122, attributes := #[] }, { accessFlags := 25, nameIndex := 599, descriptorIndex := 600, attributes := #[] }, { accessFlags := 24, nameIndex := 1125, descriptorIndex := 18, attributes := #[] }, { accessFlags := 24, nameIndex := 1127, descriptorIndex := 18, attributes := #[] }])
  fields := #[{ name := "value", type := (.array .byte), accessFlags := 18, slot := 0, constantValue := 0 }, { name := "coder", type := .byte, accessFlags := 18, slot := 1, constantValue := 0 }, { name := "hash", type := .int, accessFlags := 2, slot := 2, constantValue := 0 }, { name := "hashIsZero", type := .boolean, accessFlags := 2, slot := 3, constantValue := 0 }, { name := "serialVersionUID", type := .long, accessFlags := 26, slot := 0, constantValue := 0 }, { name := "COMPACT_STRINGS", type := .boolean, accessFlags := 24, slot := 1, constantValue := 0 }, { name := "serialPersistentFields", type := (.array (.object "java/io/ObjectStreamField")), accessFlags := 26, slot := 2, constantValue := 0 }, { name := "REPL", type := .char, accessFlags := 26, slot := 3, constantValue := 0 }, { name := "CASE_INSENSITIVE_ORDER", type := (.object "java/util/Comparator"), accessFlags := 25, slot := 4, constantValue := 0 }, { name := "LATIN1", type := .byte, accessFlags := 24, slot := 5, constantValue := 0 }, { name := "UTF16", type := .byte, accessFlags := 24, slot := 6, constantValue := 0 }]
  methods := #[k9m0, k9m1]
  instanceTypes := #[(.array .byte), .byte, .int, .boolean]
  staticTypes := #[.long, .boolean, (.array (.object "java/io/ObjectStreamField")), .char, (.object "java/util/Comparator"), .byte, .byte]
  resolved := Array.replicate 1451 none
  statics := some 1 }

def pool10 : Array CpInfo := pool [(4, .class_ 6), (1, u "java/lang/Object"), (0, u "<init>"), (0, u "()V"), (5, .class_ 16), (1, u "java/lang/StringLatin1"), (104, u "$assertionsDisabled"), (0, u "Z"), (98, .class_ 223), (1, u "java/lang/StringLatin1$LinesSpliterator"), (57, u "equals"), (0, u "([B[B)Z"), (107, .class_ 391), (0, u "java/lang/StringLatin1$CharsSpliterator")] 3

def k10m0 : Method := { name := "<init>", desc := "()V", sig := { parameters := [], returnType := none }, accessFlags := 0, code := none }
def k10c1 : Code := { maxStack := 3, maxLocals := 3, code := jdk_43_method_13_code, exceptionTable := #[], attributes := #[] }
def k10m1 : Method := { name := "equals", desc := "([B[B)Z", sig := { parameters := [(.array .byte), (.array .byte)], returnType := some .boolean }, accessFlags := 9, code := some k10c1 }
/-- java/lang/StringLatin1 -/
def k10 : Class := { plain "java/lang/StringLatin1" (some 0) with
  accessFlags := 48
  interfaces := #[]
  cf := some (fileOf pool10 14 #[.nestMembers #[390, 221]] #[{ accessFlags := 0, nameIndex := 7, descriptorIndex := 8, attributes := #[] }, { accessFlags := 9, nameIndex := 281, descriptorIndex := 282, attributes := #[] }] 48 4 #[] #[{ accessFlags := 4120, nameIndex := 121, descriptorIndex := 122, attributes := #[] }])
  fields := #[{ name := "$assertionsDisabled", type := .boolean, accessFlags := 4120, slot := 0, constantValue := 0 }]
  methods := #[k10m0, k10m1]
  instanceTypes := #[]
  staticTypes := #[.boolean]
  resolved := Array.replicate 395 none
  statics := none }

def pool11 : Array CpInfo := pool [(2, .class_ 4), (1, u "java/lang/Object"), (0, u "<init>"), (0, u "()V"), (17, .class_ 26), (1, u "jdk/internal/util/Preconditions"), (28, .class_ 56), (0, u "jdk/internal/util/Preconditions$4"), (57, .class_ 115), (0, u "jdk/internal/util/Preconditions$1"), (7, u "SIOOBE_FORMATTER"), (0, u "Ljava/util/function/BiFunction;"), (0, .class_ 126), (0, u "jdk/internal/util/Preconditions$2"), (3, u "AIOOBE_FORMATTER"), (0, .class_ 132), (0, u "jdk/internal/util/Preconditions$3"), (3, u "IOOBE_FORMATTER")] 57

def k11m0 : Method := { name := "<init>", desc := "()V", sig := { parameters := [], returnType := none }, accessFlags := 1, code := none }
/-- jdk/internal/util/Preconditions -/
def k11 : Class := { plain "jdk/internal/util/Preconditions" (some 0) with
  accessFlags := 33
  interfaces := #[]
  cf := some (fileOf pool11 24 #[.nestMembers #[55, 131, 125, 114]] #[{ accessFlags := 1, nameIndex := 5, descriptorIndex := 6, attributes := #[] }] 33 2 #[] #[{ accessFlags := 25, nameIndex := 123, descriptorIndex := 124, attributes := #[] }, { accessFlags := 25, nameIndex := 130, descriptorIndex := 124, attributes := #[] }, { accessFlags := 25, nameIndex := 136, descriptorIndex := 124, attributes := #[] }])
  fields := #[{ name := "SIOOBE_FORMATTER", type := (.object "java/util/function/BiFunction"), accessFlags := 25, slot := 0, constantValue := 0 }, { name := "AIOOBE_FORMATTER", type := (.object "java/util/function/BiFunction"), accessFlags := 25, slot := 1, constantValue := 0 }, { name := "IOOBE_FORMATTER", type := (.object "java/util/function/BiFunction"), accessFlags := 25, slot := 2, constantValue := 0 }]
  methods := #[k11m0]
  instanceTypes := #[]
  staticTypes := #[(.object "java/util/function/BiFunction"), (.object "java/util/function/BiFunction"), (.object "java/util/function/BiFunction")]
  resolved := Array.replicate 194 none
  statics := some 2 }

def pool12 : Array CpInfo := pool [(9, u "<init>"), (6, .class_ 18), (1, u "java/lang/Object"), (0, u "()V"), (1, .class_ 23), (1, u "jdk/internal/util/ArraysSupport"), (0, u "LOG2_ARRAY_LONG_INDEX_SCALE"), (0, u "I"), (2, u "U"), (0, u "Ljdk/internal/misc/Unsafe;"), (8, u "BIG_ENDIAN"), (0, u "Z"), (8, u "LOG2_BYTE_BIT_SIZE"), (4, u "LOG2_ARRAY_INT_INDEX_SCALE"), (54, u "JLA"), (0, u "Ljdk/internal/access/JavaLangAccess;"), (11, u "LOG2_ARRAY_BOOLEAN_INDEX_SCALE"), (9, u "LOG2_ARRAY_BYTE_INDEX_SCALE"), (5, u "LOG2_ARRAY_CHAR_INDEX_SCALE"), (5, u "LOG2_ARRAY_SHORT_INDEX_SCALE"), (18, u "LOG2_ARRAY_FLOAT_INDEX_SCALE"), (24, u "LOG2_ARRAY_DOUBLE_INDEX_SCALE"), (89, u "T_BOOLEAN"), (2, u "T_CHAR"), (1, u "T_FLOAT"), (1, u "T_DOUBLE"), (1, u "T_BYTE"), (1, u "T_SHORT"), (1, u "T_INT"), (1, u "T_LONG"), (1, u "SOFT_MAX_ARRAY_LENGTH")] 83

def k12m0 : Method := { name := "<init>", desc := "()V", sig := { parameters := [], returnType := none }, accessFlags := 2, code := none }
/-- jdk/internal/util/ArraysSupport -/
def k12 : Class := { plain "jdk/internal/util/ArraysSupport" (some 0) with
  accessFlags := 33
  interfaces := #[]
  cf := some (fileOf pool12 21 #[] #[{ accessFlags := 2, nameIndex := 9, descriptorIndex := 19, attributes := #[] }] 33 16 #[] #[{ accessFlags := 24, nameIndex := 28, descriptorIndex := 29, attributes := #[] }, { accessFlags := 26, nameIndex := 38, descriptorIndex := 39, attributes := #[] }, { accessFlags := 25, nameIndex := 121, descriptorIndex := 25, attributes := #[] }, { accessFlags := 25, nameIndex := 131, descriptorIndex := 25, attributes := #[] }, { accessFlags := 25, nameIndex := 137, descriptorIndex := 25, attributes := #[] }, { accessFlags := 25, nameIndex := 143, descriptorIndex := 25, attributes := #[] }, { accessFlags := 25, nameIndex := 53, descriptorIndex := 25, attributes := #[] }, { accessFlags := 25, nameIndex := 24, descriptorIndex := 25, attributes := #[] }, { accessFlags := 25, nameIndex := 162, descriptorIndex := 25, attributes := #[] }, { accessFlags := 25, nameIndex := 187, descriptorIndex := 25, attributes := #[] }, { accessFlags := 26, nameIndex := 48, descriptorIndex := 25, attributes := #[] }, { accessFlags := 25, nameIndex := 277, descriptorIndex := 25, attributes := #[] }, { accessFlags := 25, nameIndex := 280, descriptorIndex := 25, attributes := #[] }, { accessFlags := 25, nameIndex := 282, descriptorIndex := 25, attributes := #[] }, { accessFlags := 25, nameIndex := 284, descriptorIndex := 25, attributes := #[] }, { accessFlags := 25, nameIndex := 286, descriptorIndex := 25, attributes := #[] }, { accessFlags := 25, nameIndex := 288, descriptorIndex := 25, attributes := #[] }, { accessFlags := 25, nameIndex := 290, descriptorIndex := 25, attributes := #[] }, { accessFlags := 25, nameIndex := 292, descriptorIndex := 25, attributes := #[] }, { accessFlags := 26, nameIndex := 108, descriptorIndex := 109, attributes := #[] }, { accessFlags := 25, nameIndex := 294, descriptorIndex := 25, attributes := #[] }])
  fields := #[{ name := "U", type := (.object "jdk/internal/misc/Unsafe"), accessFlags := 24, slot := 0, constantValue := 0 }, { name := "BIG_ENDIAN", type := .boolean, accessFlags := 26, slot := 1, constantValue := 0 }, { name := "LOG2_ARRAY_BOOLEAN_INDEX_SCALE", type := .int, accessFlags := 25, slot := 2, constantValue := 0 }, { name := "LOG2_ARRAY_BYTE_INDEX_SCALE", type := .int, accessFlags := 25, slot := 3, constantValue := 0 }, { name := "LOG2_ARRAY_CHAR_INDEX_SCALE", type := .int, accessFlags := 25, slot := 4, constantValue := 0 }, { name := "LOG2_ARRAY_SHORT_INDEX_SCALE", type := .int, accessFlags := 25, slot := 5, constantValue := 0 }, { name := "LOG2_ARRAY_INT_INDEX_SCALE", type := .int, accessFlags := 25, slot := 6, constantValue := 0 }, { name := "LOG2_ARRAY_LONG_INDEX_SCALE", type := .int, accessFlags := 25, slot := 7, constantValue := 0 }, { name := "LOG2_ARRAY_FLOAT_INDEX_SCALE", type := .int, accessFlags := 25, slot := 8, constantValue := 0 }, { name := "LOG2_ARRAY_DOUBLE_INDEX_SCALE", type := .int, accessFlags := 25, slot := 9, constantValue := 0 }, { name := "LOG2_BYTE_BIT_SIZE", type := .int, accessFlags := 26, slot := 10, constantValue := 0 }, { name := "T_BOOLEAN", type := .int, accessFlags := 25, slot := 11, constantValue := 0 }, { name := "T_CHAR", type := .int, accessFlags := 25, slot := 12, constantValue := 0 }, { name := "T_FLOAT", type := .int, accessFlags := 25, slot := 13, constantValue := 0 }, { name := "T_DOUBLE", type := .int, accessFlags := 25, slot := 14, constantValue := 0 }, { name := "T_BYTE", type := .int, accessFlags := 25, slot := 15, constantValue := 0 }, { name := "T_SHORT", type := .int, accessFlags := 25, slot := 16, constantValue := 0 }, { name := "T_INT", type := .int, accessFlags := 25, slot := 17, constantValue := 0 }, { name := "T_LONG", type := .int, accessFlags := 25, slot := 18, constantValue := 0 }, { name := "JLA", type := (.object "jdk/internal/access/JavaLangAccess"), accessFlags := 26, slot := 19, constantValue := 0 }, { name := "SOFT_MAX_ARRAY_LENGTH", type := .int, accessFlags := 25, slot := 20, constantValue := 0 }]
  methods := #[k12m0]
  instanceTypes := #[]
  staticTypes := #[(.object "jdk/internal/misc/Unsafe"), .boolean, .int, .int, .int, .int, .int, .int, .int, .int, .int, .int, .int, .int, .int, .int, .int, .int, .int, (.object "jdk/internal/access/JavaLangAccess"), .int]
  resolved := Array.replicate 378 none
  statics := none }

def pool13 : Array CpInfo := pool [(1, u "java/lang/Cloneable"), (0, .class_ 1), (0, u "java/lang/Object"), (0, .class_ 3)] 3

/-- java/lang/Cloneable -/
def k13 : Class := { plain "java/lang/Cloneable" (some 0) with
  accessFlags := 1537
  interfaces := #[]
  cf := some (fileOf pool13 2 #[] #[] 1537 4 #[] #[])
  fields := #[]
  methods := #[]
  instanceTypes := #[]
  staticTypes := #[]
  resolved := Array.replicate 8 none
  statics := none }

/-- the primitive byte -/
def k14 : Class := { plain "byte" none with kind := .primitive 'B', accessFlags := 0x411 }
/-- [B -/
def k15 : Class := { plain "[B" (some 0) with kind := .array 14 .byte, interfaces := #[13, 4], accessFlags := 1041 }

/-- the primitive int -/
def k16 : Class := { plain "int" none with kind := .primitive 'I', accessFlags := 0x411 }
/-- [I -/
def k17 : Class := { plain "[I" (some 0) with kind := .array 16 .int, interfaces := #[13, 4], accessFlags := 1041 }

def heap : Heap := #[{ cls := 6, slots := #[.ref 9, .ref 10, .ref 11, .double 0, .double 0, .null], vm := .statics 6 },
  { cls := 9, slots := #[.long 0, .int 1, .null, .int 0, .null, .int 0, .int 0], vm := .statics 9 },
  { cls := 11, slots := #[.null, .null, .null], vm := .statics 11 },
  { cls := 15, slots := #[.int 117, .int 110, .int 105, .int 102, .int 111, .int 114, .int 109], vm := .none },
  { cls := 15, slots := #[.int 122, .int 105, .int 112, .int 102], vm := .none },
  { cls := 15, slots := #[.int 101, .int 120, .int 112, .int 111], vm := .none },
  { cls := 9, slots := #[.ref 3, .int 0, .int 0, .int 0], vm := .none },
  { cls := 9, slots := #[.ref 4, .int 0, .int 0, .int 0], vm := .none },
  { cls := 9, slots := #[.ref 5, .int 0, .int 0, .int 0], vm := .none },
  { cls := 6, slots := #[.null, .int 0, .int 0, .ref 6], vm := .none },
  { cls := 6, slots := #[.null, .int 1, .int 0, .ref 7], vm := .none },
  { cls := 6, slots := #[.null, .int 2, .int 0, .ref 8], vm := .none }]
def classes : Array Class := #[k0, k1, k2, k3, k4, k5, k6, k7, k8, k9, k10, k11, k12, k13, k14, k15, k16, k17]
def interned : List (Array UInt16 × Addr) := []
def slotsUsed : Nat := 55
def theMethod : MethodId := ⟨1, 2⟩
def args0 : Array Value := #[.int 5]
def aboutOver (below : List Frame) : State where
  vm := { classes := classes, interned := interned.toArray }
  heap := heap
  slotsUsed := slotsUsed
  threads := #[{ frames := .invoking theMethod args0 :: below }]
def below0 : List Frame := [.native { method := ⟨0, 0⟩, args := #[] }]
def about1 : State := aboutOver below0
def p0 : Program := .bare "" "" ""
def e0 : Env := launch0.env 0 0 0
theorem w_frames : about1.frames = Frame.invoking theMethod args0 :: below0 := rfl
set_option maxRecDepth 65536 in
theorem w_args : argsFit about1.vm theMethod args0 = true := by decide +kernel
set_option maxRecDepth 65536 in
theorem w_heap : heapFits about1 = true := by decide +kernel
set_option maxRecDepth 65536 in
theorem w_runnable : about1.curStatus? = some .runnable := by decide +kernel
set_option maxRecDepth 65536 in
theorem w_alone : about1.alone = true := by decide +kernel
set_option maxRecDepth 65536 in
theorem w_named : about1.methodNamed? x = some theMethod := by decide +kernel
set_option maxRecDepth 65536 in
theorem w_hears : about1.hears theMethod below0 = true := by decide +kernel
set_option maxRecDepth 65536 in
theorem w_ripe : about1.ripe theMethod args0 below0 = true := by decide +kernel
theorem w_running : about1.status = .running := rfl
set_option maxRecDepth 65536 in
theorem w_room : about1.hasRoom e0.platform room_1 = true :=
  launch0.hasRoom_least _ room_1 (by decide +kernel) (by decide +kernel) (by decide +kernel) (by decide +kernel) (by decide +kernel) (by decide +kernel)
theorem allAtoms_all (ts : List Jvm.Cond) (a : Array Jvm.Value) (st : Jvm.State) : (allAtoms ts).before a st = ts.all (fun c => c.before a st) := by
  induction ts with
  | nil => rfl
  | cons c t ih =>
    show (Jvm.Cond.and c (allAtoms t)).before a st = _
    rw [Jvm.Cond.before_and, ih, List.all_cons]
def words1 : List Jvm.Cond := Jvm.Cond.code x code maxLocals ret :: tables_1
/-- a 'code' word, met by the world's own term for the bytes: nothing is compared byte by byte -/
theorem code_word {y : MethodName} {bytes : ByteArray} {mx : Nat} {rt : Option FieldType} {a : Array Value} {s : State} {m : MethodId} {meth : Method} {c : Code} (h1 : s.methodNamed? y = some m) (h2 : s.vm.method? m = some meth) (h3 : meth.code = some c) (h4 : c.code = bytes)
    (h5 : (c.maxLocals == mx && c.exceptionTable.isEmpty && decide (c.maxStack ≤ mostOperands) && decide (meth.sig.returnType = rt) && !meth.locks && decide (parseMethodDescriptor y.desc = some meth.sig)) = true) : (Jvm.Cond.code y bytes mx rt).before a s = true := by
  simp only [Bool.and_eq_true, beq_iff_eq, Bool.not_eq_true', decide_eq_true_eq] at h5
  obtain ⟨⟨⟨⟨⟨g1, g2⟩, g3⟩, g4⟩, g5⟩, g6⟩ := h5
  simp [Cond.before, Cond.holds, Cond.value, h1, h2, h3, h4, g1, g2, g3, g4, g5, g6]
def isCode : Jvm.Cond → Bool
  | .code _ _ _ _ => true
  | _ => false
theorem all_split {L : List Jvm.Cond} {P : Jvm.Cond → Bool} (h1 : L.all (fun c => isCode c || P c) = true) (h2 : ∀ c ∈ L.filter isCode, P c = true) : L.all P = true := by
  refine List.all_eq_true.mpr fun c hc => ?_
  have h := List.all_eq_true.mp h1 c hc
  rcases Bool.eq_false_or_eq_true (isCode c) with hi | hi
  · exact h2 c (List.mem_filter.mpr ⟨hc, hi⟩)
  · simpa [hi] using h
set_option maxRecDepth 65536 in
theorem w_c0 : (Jvm.Cond.code x code maxLocals ret).before args0 about1 = true := code_word (m := ⟨1, 2⟩) (meth := k1m2) (c := k1c2) (by decide +kernel) rfl rfl rfl (by decide +kernel)
set_option maxRecDepth 65536 in
theorem w_c1 : (Jvm.Cond.code ({ cls := "com/example/topicweave/topicweave/workloads/PopularityTakesExponentPinLaw", name := "pick", desc := "(I)Lcom/example/topicweave/topicweave/workloads/Popularity;" } : Jvm.MethodName) method_2_code (1 : Nat) (Option.some (Jvm.ClassFile.FieldType.object "com/example/topicweave/topicweave/workloads/Popularity"))).before args0 about1 = true := code_word (m := ⟨1, 1⟩) (meth := k1m1) (c := k1c1) (by decide +kernel) rfl rfl rfl (by decide +kernel)
set_option maxRecDepth 65536 in
theorem w_c2 : (Jvm.Cond.code ({ cls := "com/example/topicweave/topicweave/workloads/Popularity", name := "takesExponent", desc := "()Z" } : Jvm.MethodName) prog_32_method_5_code (1 : Nat) (Option.some Jvm.ClassFile.FieldType.boolean)).before args0 about1 = true := code_word (m := ⟨6, 1⟩) (meth := k6m1) (c := k6c1) (by decide +kernel) rfl rfl rfl (by decide +kernel)
set_option maxRecDepth 65536 in
theorem w_c3 : (Jvm.Cond.code ({ cls := "com/example/topicweave/topicweave/workloads/Popularity", name := "key", desc := "()Ljava/lang/String;" } : Jvm.MethodName) prog_32_method_4_code (1 : Nat) (Option.some (Jvm.ClassFile.FieldType.object "java/lang/String"))).before args0 about1 = true := code_word (m := ⟨6, 0⟩) (meth := k6m0) (c := k6c0) (by decide +kernel) rfl rfl rfl (by decide +kernel)
set_option maxRecDepth 65536 in
theorem w_c4 : (Jvm.Cond.code ({ cls := "java/lang/String", name := "equals", desc := "(Ljava/lang/Object;)Z" } : Jvm.MethodName) jdk_42_method_66_code (3 : Nat) (Option.some Jvm.ClassFile.FieldType.boolean)).before args0 about1 = true := code_word (m := ⟨9, 1⟩) (meth := k9m1) (c := k9c1) (by decide +kernel) rfl rfl rfl (by decide +kernel)
set_option maxRecDepth 65536 in
theorem w_c5 : (Jvm.Cond.code ({ cls := "java/lang/StringLatin1", name := "equals", desc := "([B[B)Z" } : Jvm.MethodName) jdk_43_method_13_code (3 : Nat) (Option.some Jvm.ClassFile.FieldType.boolean)).before args0 about1 = true := code_word (m := ⟨10, 1⟩) (meth := k10m1) (c := k10c1) (by decide +kernel) rfl rfl rfl (by decide +kernel)
def codes1 : List Jvm.Cond := [Jvm.Cond.code x code maxLocals ret, Jvm.Cond.code ({ cls := "com/example/topicweave/topicweave/workloads/PopularityTakesExponentPinLaw", name := "pick", desc := "(I)Lcom/example/topicweave/topicweave/workloads/Popularity;" } : Jvm.MethodName) method_2_code (1 : Nat) (Option.some (Jvm.ClassFile.FieldType.object "com/example/topicweave/topicweave/workloads/Popularity")), Jvm.Cond.code ({ cls := "com/example/topicweave/topicweave/workloads/Popularity", name := "takesExponent", desc := "()Z" } : Jvm.MethodName) prog_32_method_5_code (1 : Nat) (Option.some Jvm.ClassFile.FieldType.boolean), Jvm.Cond.code ({ cls := "com/example/topicweave/topicweave/workloads/Popularity", name := "key", desc := "()Ljava/lang/String;" } : Jvm.MethodName) prog_32_method_4_code (1 : Nat) (Option.some (Jvm.ClassFile.FieldType.object "java/lang/String")), Jvm.Cond.code ({ cls := "java/lang/String", name := "equals", desc := "(Ljava/lang/Object;)Z" } : Jvm.MethodName) jdk_42_method_66_code (3 : Nat) (Option.some Jvm.ClassFile.FieldType.boolean), Jvm.Cond.code ({ cls := "java/lang/StringLatin1", name := "equals", desc := "([B[B)Z" } : Jvm.MethodName) jdk_43_method_13_code (3 : Nat) (Option.some Jvm.ClassFile.FieldType.boolean)]
set_option maxRecDepth 65536 in
theorem codes_eq : words1.filter isCode = codes1 := rfl
theorem w_codes : ∀ c ∈ words1.filter isCode, c.before args0 about1 = true := by
  rw [codes_eq]
  intro c hc
  simp only [codes1, List.mem_cons, List.not_mem_nil, or_false] at hc
  rcases hc with rfl | rfl | rfl | rfl | rfl | rfl
  · exact w_c0
  · exact w_c1
  · exact w_c2
  · exact w_c3
  · exact w_c4
  · exact w_c5
set_option maxRecDepth 65536 in
theorem w_t1 : (words1.take 24).all (fun c => isCode c || c.before args0 about1) = true := by decide +kernel
set_option maxRecDepth 65536 in
theorem w_t2 : (words1.drop 24).all (fun c => isCode c || c.before args0 about1) = true := by decide +kernel
theorem w_tables : (allAtoms (Jvm.Cond.code x code maxLocals ret :: tables_1)).before args0 about1 = true := by
  rw [allAtoms_all]
  show words1.all (fun c => c.before args0 about1) = true
  refine all_split ?_ w_codes
  rw [← List.take_append_drop 24 words1, List.all_append, w_t1, w_t2]
  rfl
set_option maxRecDepth 65536 in
theorem w_rest : rest_1_c.before args0 about1 = true := by decide +kernel
set_option maxRecDepth 65536 in
theorem w_case : (Jvm.Cond.and given_1 narrow_1).before args0 about1 = true := by decide +kernel
set_option maxRecDepth 65536 in
theorem w_consts : constsHeld consts_1 about1 := Jvm.Lit.constsHeldB_iff.mp (by decide +kernel)
theorem w_applies : (headSpec (Jvm.Cond.code x code maxLocals ret :: tables_1) room_1).applies x e0.platform about1 = true :=
  (Spec.applies_iff w_frames).mpr ⟨w_running, w_runnable, w_alone, w_named, w_hears, w_ripe, w_room, w_tables⟩
theorem atStart : AtStart classFile x code maxLocals ret World_1 tables_1 room_1 Calls_1 rest_1 Pre_1 launch0 p0 e0 about1 theMethod args0 below0 :=
  ⟨lists_1, trivial, launch0.admits_env _ _ _, launch0.least_env, fairChoices_fair.cas, fairChoices_fair.clock, w_frames, w_args, w_heap, w_applies, ⟨w_consts, trivial⟩, w_rest, w_case⟩
end start1
theorem witness_1 : WitnessClaimed_1 := ⟨start1.p0, start1.e0, start1.about1, start1.theMethod, start1.args0, start1.below0, start1.atStart⟩
end Jvm.Pilot.@@N@@
