import JvmDerived
import JvmDerived.Pilot.@@N@@Statement
import JvmDerived.Pilot.@@N@@Code
set_option linter.unusedVariables false
set_option linter.unusedSimpArgs false

namespace Jvm.RoadKit
open Sem ClassFile Op Lib Jvm.Stand Jvm.Free Jvm.LawKit
section New
variable {p : Program} {l : Launch} {e : Env} {R : Room} {s : State} {m : MethodId} {args : Array Value} {below : List Frame} {meth : Method} {c : Code} {T : State} {locs : List Loc} {cells slots : Nat}
theorem retI (X : Stand p l e R s m args below meth c T locs cells slots) (hx : p.tables.exec = Jvm.exec) {pc : Nat} {Ls : Array Slot} {z : Int32} {rest : List Value} (hret : meth.sig.returnType = some .int) (hd : decode c.code pc = .ok (.ireturn, 1)) {fs : List Frame}
    (hl : ∀ (f : JFrame) (acts : List Action), f.method = m → f.locked = none → f.entered = [] → (doReturn e (T.setTop f) acts (some (.int z))).1 = T.setFrames fs) : Steps p.tables e below (T.setTop (mkF m pc Ls (.int z :: rest))) (T.setFrames fs) := by
  have hm' : T.vm.method? m = some meth := X.method'
  have hn : narrow .int (.int z) = .int z := rfl
  show Steps p.tables e below (T.setTop { method := m, pc := pc, locals := Ls, stack := _ :: rest, locked := none }) _
  jvm_step X.here [X.here.top, hx, hd, hm', hret, hn]
  first | (intro acts; rw [hl _ acts rfl rfl rfl]) | rw [hl _ _ rfl rfl rfl]
  exact Steps.refl _
theorem retL (X : Stand p l e R s m args below meth c T locs cells slots) (hx : p.tables.exec = Jvm.exec) {pc : Nat} {Ls : Array Slot} {z : Int64} {rest : List Value} (hret : meth.sig.returnType = some .long) (hd : decode c.code pc = .ok (.lreturn, 1)) {fs : List Frame}
    (hl : ∀ (f : JFrame) (acts : List Action), f.method = m → f.locked = none → f.entered = [] → (doReturn e (T.setTop f) acts (some (.long z))).1 = T.setFrames fs) : Steps p.tables e below (T.setTop (mkF m pc Ls (.long z :: rest))) (T.setFrames fs) := by
  have hm' : T.vm.method? m = some meth := X.method'
  have hn : narrow .long (.long z) = .long z := rfl
  show Steps p.tables e below (T.setTop { method := m, pc := pc, locals := Ls, stack := _ :: rest, locked := none }) _
  jvm_step X.here [X.here.top, hx, hd, hm', hret, hn]
  first | (intro acts; rw [hl _ acts rfl rfl rfl]) | rw [hl _ _ rfl rfl rfl]
  exact Steps.refl _
end New
end Jvm.RoadKit
namespace Jvm.Pilot.@@N@@
open Jvm Jvm.ClassFile Sem Op Lib Jvm.Free Jvm.Stand Jvm.LawKit Jvm.RoadKit Bundle Jvm.Pilot.@@N@@.Jvm.D
/-- from here the run comes to an end of which W holds -/
def own_Go (p : Program) (e : Env) (below : List Frame) (W : State → Outcome → Prop) (T : State) (g : JFrame) : Prop :=
  ∃ s₂ o, Steps p.tables e below (T.setTop g) s₂ ∧ s₂.status = .running ∧ Ended s₂ below o ∧ W s₂ o
theorem own_Go.of {p : Program} {e : Env} {below : List Frame} {W : State → Outcome → Prop} {T T' : State} {g g' : JFrame} (f : ∀ t, Steps p.tables e below (T'.setTop g') t → Steps p.tables e below (T.setTop g) t) (k : own_Go p e below W T' g') : own_Go p e below W T g := by
  obtain ⟨s₂, o, h1, h2⟩ := k
  exact ⟨s₂, o, f _ h1, h2⟩
theorem own_via {G A : Prop} (h1 : A → G) (h2 : A) : G := h1 h2
section OwnSteps
variable {p : Program} {l : Launch} {e : Env} {R : Room} {s : State} {m : MethodId} {args : Array Value} {below : List Frame} {meth : Method} {c : Code} {T : State} {locs : List Loc} {cells slots : Nat} {W : State → Outcome → Prop} {pc pc' : Nat} {L : Array Slot} {S : List Value}
theorem og_iloadN (X : Stand p l e R s m args below meth c T locs cells slots) (hx : p.tables.exec = Jvm.exec) {k : Fin 4} {v : Int32} (hd : decode c.code pc = .ok (.iload_n k, 1)) (hl : L[k.val]? = some (.val (.int v))) (hp : pc + 1 = pc') (h : own_Go p e below W T (mkF m pc' L ((.int v) :: S))) : own_Go p e below W T (mkF m pc L S) := by
  subst hp; exact own_Go.of (fun t q => XS.iloadN X.here hx rfl hd hl q) h
theorem og_iload (X : Stand p l e R s m args below meth c T locs cells slots) (hx : p.tables.exec = Jvm.exec) {k : Nat} {v : Int32} (hd : decode c.code pc = .ok (.iload k, 2)) (hl : L[k]? = some (.val (.int v))) (hp : pc + 2 = pc') (h : own_Go p e below W T (mkF m pc' L ((.int v) :: S))) : own_Go p e below W T (mkF m pc L S) := by
  subst hp; exact own_Go.of (fun t q => XS.iload X.here hx rfl hd hl q) h
theorem og_istoreN (X : Stand p l e R s m args below meth c T locs cells slots) (hx : p.tables.exec = Jvm.exec) {k : Fin 4} {v : Int32} {L' : Array Slot} (hd : decode c.code pc = .ok (.istore_n k, 1)) (hl : storeLocals L k.val (.int v) = some L') (hp : pc + 1 = pc') (h : own_Go p e below W T (mkF m pc' L' S)) : own_Go p e below W T (mkF m pc L ((.int v) :: S)) := by
  subst hp; exact own_Go.of (fun t q => XS.istoreN X.here hx rfl hd rfl hl q) h
theorem og_istore (X : Stand p l e R s m args below meth c T locs cells slots) (hx : p.tables.exec = Jvm.exec) {k : Nat} {v : Int32} {L' : Array Slot} (hd : decode c.code pc = .ok (.istore k, 2)) (hl : storeLocals L k (.int v) = some L') (hp : pc + 2 = pc') (h : own_Go p e below W T (mkF m pc' L' S)) : own_Go p e below W T (mkF m pc L ((.int v) :: S)) := by
  subst hp; exact own_Go.of (fun t q => XS.istore X.here hx rfl hd rfl hl q) h
theorem og_lloadN (X : Stand p l e R s m args below meth c T locs cells slots) (hx : p.tables.exec = Jvm.exec) {k : Fin 4} {v : Int64} (hd : decode c.code pc = .ok (.lload_n k, 1)) (hl : L[k.val]? = some (.val (.long v))) (hp : pc + 1 = pc') (h : own_Go p e below W T (mkF m pc' L ((.long v) :: S))) : own_Go p e below W T (mkF m pc L S) := by
  subst hp; exact own_Go.of (fun t q => XS.lloadN X.here hx rfl hd hl q) h
theorem og_lload (X : Stand p l e R s m args below meth c T locs cells slots) (hx : p.tables.exec = Jvm.exec) {k : Nat} {v : Int64} (hd : decode c.code pc = .ok (.lload k, 2)) (hl : L[k]? = some (.val (.long v))) (hp : pc + 2 = pc') (h : own_Go p e below W T (mkF m pc' L ((.long v) :: S))) : own_Go p e below W T (mkF m pc L S) := by
  subst hp; exact own_Go.of (fun t q => XS.lload X.here hx rfl hd hl q) h
theorem og_lstoreN (X : Stand p l e R s m args below meth c T locs cells slots) (hx : p.tables.exec = Jvm.exec) {k : Fin 4} {v : Int64} {L' : Array Slot} (hd : decode c.code pc = .ok (.lstore_n k, 1)) (hl : storeLocals L k.val (.long v) = some L') (hp : pc + 1 = pc') (h : own_Go p e below W T (mkF m pc' L' S)) : own_Go p e below W T (mkF m pc L ((.long v) :: S)) := by
  subst hp; exact own_Go.of (fun t q => XS.lstoreN X.here hx rfl hd rfl hl q) h
theorem og_lstore (X : Stand p l e R s m args below meth c T locs cells slots) (hx : p.tables.exec = Jvm.exec) {k : Nat} {v : Int64} {L' : Array Slot} (hd : decode c.code pc = .ok (.lstore k, 2)) (hl : storeLocals L k (.long v) = some L') (hp : pc + 2 = pc') (h : own_Go p e below W T (mkF m pc' L' S)) : own_Go p e below W T (mkF m pc L ((.long v) :: S)) := by
  subst hp; exact own_Go.of (fun t q => XS.lstore X.here hx rfl hd rfl hl q) h
theorem og_aloadN (X : Stand p l e R s m args below meth c T locs cells slots) (hx : p.tables.exec = Jvm.exec) {k : Fin 4} {v : Value} (hd : decode c.code pc = .ok (.aload_n k, 1)) (hl : L[k.val]? = some (.val v)) (hv : v.isRef = true) (hp : pc + 1 = pc') (h : own_Go p e below W T (mkF m pc' L (v :: S))) : own_Go p e below W T (mkF m pc L S) := by
  subst hp; exact own_Go.of (fun t q => XS.aloadN X.here hx rfl hd hl hv q) h
theorem og_aload (X : Stand p l e R s m args below meth c T locs cells slots) (hx : p.tables.exec = Jvm.exec) {k : Nat} {v : Value} (hd : decode c.code pc = .ok (.aload k, 2)) (hl : L[k]? = some (.val v)) (hv : v.isRef = true) (hp : pc + 2 = pc') (h : own_Go p e below W T (mkF m pc' L (v :: S))) : own_Go p e below W T (mkF m pc L S) := by
  subst hp; exact own_Go.of (fun t q => XS.aload X.here hx rfl hd hl hv q) h
theorem og_astoreN (X : Stand p l e R s m args below meth c T locs cells slots) (hx : p.tables.exec = Jvm.exec) {k : Fin 4} {v : Value} {L' : Array Slot} (hd : decode c.code pc = .ok (.astore_n k, 1)) (hv : v.isRef = true) (hl : storeLocals L k.val v = some L') (hp : pc + 1 = pc') (h : own_Go p e below W T (mkF m pc' L' S)) : own_Go p e below W T (mkF m pc L (v :: S)) := by
  subst hp; exact own_Go.of (fun t q => XS.astoreN X.here hx rfl hd rfl hv hl q) h
theorem og_astore (X : Stand p l e R s m args below meth c T locs cells slots) (hx : p.tables.exec = Jvm.exec) {k : Nat} {v : Value} {L' : Array Slot} (hd : decode c.code pc = .ok (.astore k, 2)) (hv : v.isRef = true) (hl : storeLocals L k v = some L') (hp : pc + 2 = pc') (h : own_Go p e below W T (mkF m pc' L' S)) : own_Go p e below W T (mkF m pc L (v :: S)) := by
  subst hp; exact own_Go.of (fun t q => XS.astore X.here hx rfl hd rfl hv hl q) h
theorem og_iconst (X : Stand p l e R s m args below meth c T locs cells slots) (hx : p.tables.exec = Jvm.exec) {i : Int} {n : Int32} (hd : decode c.code pc = .ok (.iconst i, 1)) (hn : Int32.ofInt i = n) (hp : pc + 1 = pc') (h : own_Go p e below W T (mkF m pc' L (.int n :: S))) : own_Go p e below W T (mkF m pc L S) := by
  subst hp hn; exact own_Go.of (fun t q => XS.iconst X.here hx rfl hd q) h
theorem og_bipush (X : Stand p l e R s m args below meth c T locs cells slots) (hx : p.tables.exec = Jvm.exec) {i : Int} {n : Int32} (hd : decode c.code pc = .ok (.bipush i, 2)) (hn : (Int8.ofInt i).toInt32 = n) (hp : pc + 2 = pc') (h : own_Go p e below W T (mkF m pc' L (.int n :: S))) : own_Go p e below W T (mkF m pc L S) := by
  subst hp hn; exact own_Go.of (fun t q => XS.bipush X.here hx rfl hd q) h
theorem og_sipush (X : Stand p l e R s m args below meth c T locs cells slots) (hx : p.tables.exec = Jvm.exec) {i : Int} {n : Int32} (hd : decode c.code pc = .ok (.sipush i, 3)) (hn : (Int16.ofInt i).toInt32 = n) (hp : pc + 3 = pc') (h : own_Go p e below W T (mkF m pc' L (.int n :: S))) : own_Go p e below W T (mkF m pc L S) := by
  subst hp hn; exact own_Go.of (fun t q => XS.sipush X.here hx rfl hd q) h
theorem og_lconst0 (X : Stand p l e R s m args below meth c T locs cells slots) (hx : p.tables.exec = Jvm.exec) (hd : decode c.code pc = .ok (.lconst 0, 1)) (hp : pc + 1 = pc') (h : own_Go p e below W T (mkF m pc' L (.long (0 : Int64) :: S))) : own_Go p e below W T (mkF m pc L S) := by
  subst hp; exact own_Go.of (fun t q => XS.lconst X.here hx rfl hd q) h
theorem og_lconst1 (X : Stand p l e R s m args below meth c T locs cells slots) (hx : p.tables.exec = Jvm.exec) (hd : decode c.code pc = .ok (.lconst 1, 1)) (hp : pc + 1 = pc') (h : own_Go p e below W T (mkF m pc' L (.long (1 : Int64) :: S))) : own_Go p e below W T (mkF m pc L S) := by
  subst hp; exact own_Go.of (fun t q => XS.lconst X.here hx rfl hd q) h
theorem og_aconst_null (X : Stand p l e R s m args below meth c T locs cells slots) (hx : p.tables.exec = Jvm.exec)  (hd : decode c.code pc = .ok (.aconst_null, 1)) (hp : pc + 1 = pc') (h : own_Go p e below W T (mkF m pc' L (.null :: S))) : own_Go p e below W T (mkF m pc L S) := by
  subst hp; exact own_Go.of (fun t q => XS.aconstNull X.here hx rfl hd q) h
theorem og_iadd (X : Stand p l e R s m args below meth c T locs cells slots) (hx : p.tables.exec = Jvm.exec) {x y : Int32} (hd : decode c.code pc = .ok (.iadd, 1)) (hp : pc + 1 = pc') (h : own_Go p e below W T (mkF m pc' L (.int (x + y) :: S))) : own_Go p e below W T (mkF m pc L (.int y :: .int x :: S)) := by
  subst hp; exact own_Go.of (fun t q => XS.iadd X.here hx rfl hd rfl q) h
theorem og_ladd (X : Stand p l e R s m args below meth c T locs cells slots) (hx : p.tables.exec = Jvm.exec) {x y : Int64} (hd : decode c.code pc = .ok (.ladd, 1)) (hp : pc + 1 = pc') (h : own_Go p e below W T (mkF m pc' L (.long (x + y) :: S))) : own_Go p e below W T (mkF m pc L (.long y :: .long x :: S)) := by
  subst hp; exact own_Go.of (fun t q => XS.ladd X.here hx rfl hd rfl q) h
theorem og_isub (X : Stand p l e R s m args below meth c T locs cells slots) (hx : p.tables.exec = Jvm.exec) {x y : Int32} (hd : decode c.code pc = .ok (.isub, 1)) (hp : pc + 1 = pc') (h : own_Go p e below W T (mkF m pc' L (.int (x - y) :: S))) : own_Go p e below W T (mkF m pc L (.int y :: .int x :: S)) := by
  subst hp; exact own_Go.of (fun t q => XS.isub X.here hx rfl hd rfl q) h
theorem og_lsub (X : Stand p l e R s m args below meth c T locs cells slots) (hx : p.tables.exec = Jvm.exec) {x y : Int64} (hd : decode c.code pc = .ok (.lsub, 1)) (hp : pc + 1 = pc') (h : own_Go p e below W T (mkF m pc' L (.long (x - y) :: S))) : own_Go p e below W T (mkF m pc L (.long y :: .long x :: S)) := by
  subst hp; exact own_Go.of (fun t q => XS.lsub X.here hx rfl hd rfl q) h
theorem og_imul (X : Stand p l e R s m args below meth c T locs cells slots) (hx : p.tables.exec = Jvm.exec) {x y : Int32} (hd : decode c.code pc = .ok (.imul, 1)) (hp : pc + 1 = pc') (h : own_Go p e below W T (mkF m pc' L (.int (x * y) :: S))) : own_Go p e below W T (mkF m pc L (.int y :: .int x :: S)) := by
  subst hp; exact own_Go.of (fun t q => XS.imul X.here hx rfl hd rfl q) h
theorem og_lmul (X : Stand p l e R s m args below meth c T locs cells slots) (hx : p.tables.exec = Jvm.exec) {x y : Int64} (hd : decode c.code pc = .ok (.lmul, 1)) (hp : pc + 1 = pc') (h : own_Go p e below W T (mkF m pc' L (.long (x * y) :: S))) : own_Go p e below W T (mkF m pc L (.long y :: .long x :: S)) := by
  subst hp; exact own_Go.of (fun t q => XS.lmul X.here hx rfl hd rfl q) h
theorem og_iand (X : Stand p l e R s m args below meth c T locs cells slots) (hx : p.tables.exec = Jvm.exec) {x y : Int32} (hd : decode c.code pc = .ok (.iand, 1)) (hp : pc + 1 = pc') (h : own_Go p e below W T (mkF m pc' L (.int (x &&& y) :: S))) : own_Go p e below W T (mkF m pc L (.int y :: .int x :: S)) := by
  subst hp; exact own_Go.of (fun t q => XS.iand X.here hx rfl hd rfl q) h
theorem og_land (X : Stand p l e R s m args below meth c T locs cells slots) (hx : p.tables.exec = Jvm.exec) {x y : Int64} (hd : decode c.code pc = .ok (.land, 1)) (hp : pc + 1 = pc') (h : own_Go p e below W T (mkF m pc' L (.long (x &&& y) :: S))) : own_Go p e below W T (mkF m pc L (.long y :: .long x :: S)) := by
  subst hp; exact own_Go.of (fun t q => XS.land X.here hx rfl hd rfl q) h
theorem og_ior (X : Stand p l e R s m args below meth c T locs cells slots) (hx : p.tables.exec = Jvm.exec) {x y : Int32} (hd : decode c.code pc = .ok (.ior, 1)) (hp : pc + 1 = pc') (h : own_Go p e below W T (mkF m pc' L (.int (x ||| y) :: S))) : own_Go p e below W T (mkF m pc L (.int y :: .int x :: S)) := by
  subst hp; exact own_Go.of (fun t q => XS.ior X.here hx rfl hd rfl q) h
theorem og_lor (X : Stand p l e R s m args below meth c T locs cells slots) (hx : p.tables.exec = Jvm.exec) {x y : Int64} (hd : decode c.code pc = .ok (.lor, 1)) (hp : pc + 1 = pc') (h : own_Go p e below W T (mkF m pc' L (.long (x ||| y) :: S))) : own_Go p e below W T (mkF m pc L (.long y :: .long x :: S)) := by
  subst hp; exact own_Go.of (fun t q => XS.lor X.here hx rfl hd rfl q) h
theorem og_ixor (X : Stand p l e R s m args below meth c T locs cells slots) (hx : p.tables.exec = Jvm.exec) {x y : Int32} (hd : decode c.code pc = .ok (.ixor, 1)) (hp : pc + 1 = pc') (h : own_Go p e below W T (mkF m pc' L (.int (x ^^^ y) :: S))) : own_Go p e below W T (mkF m pc L (.int y :: .int x :: S)) := by
  subst hp; exact own_Go.of (fun t q => XS.ixor X.here hx rfl hd rfl q) h
theorem og_lxor (X : Stand p l e R s m args below meth c T locs cells slots) (hx : p.tables.exec = Jvm.exec) {x y : Int64} (hd : decode c.code pc = .ok (.lxor, 1)) (hp : pc + 1 = pc') (h : own_Go p e below W T (mkF m pc' L (.long (x ^^^ y) :: S))) : own_Go p e below W T (mkF m pc L (.long y :: .long x :: S)) := by
  subst hp; exact own_Go.of (fun t q => XS.lxor X.here hx rfl hd rfl q) h
theorem og_ineg (X : Stand p l e R s m args below meth c T locs cells slots) (hx : p.tables.exec = Jvm.exec) {x : Int32} (hd : decode c.code pc = .ok (.ineg, 1)) (hp : pc + 1 = pc') (h : own_Go p e below W T (mkF m pc' L (.int (-x) :: S))) : own_Go p e below W T (mkF m pc L (.int x :: S)) := by
  subst hp; exact own_Go.of (fun t q => XS.ineg X.here hx rfl hd rfl q) h
theorem og_lneg (X : Stand p l e R s m args below meth c T locs cells slots) (hx : p.tables.exec = Jvm.exec) {x : Int64} (hd : decode c.code pc = .ok (.lneg, 1)) (hp : pc + 1 = pc') (h : own_Go p e below W T (mkF m pc' L (.long (-x) :: S))) : own_Go p e below W T (mkF m pc L (.long x :: S)) := by
  subst hp; exact own_Go.of (fun t q => XS.lneg X.here hx rfl hd rfl q) h
theorem og_i2l (X : Stand p l e R s m args below meth c T locs cells slots) (hx : p.tables.exec = Jvm.exec) {x : Int32} (hd : decode c.code pc = .ok (.i2l, 1)) (hp : pc + 1 = pc') (h : own_Go p e below W T (mkF m pc' L (.long (x.toInt64) :: S))) : own_Go p e below W T (mkF m pc L (.int x :: S)) := by
  subst hp; exact own_Go.of (fun t q => XS.i2l X.here hx rfl hd rfl q) h
theorem og_l2i (X : Stand p l e R s m args below meth c T locs cells slots) (hx : p.tables.exec = Jvm.exec) {x : Int64} (hd : decode c.code pc = .ok (.l2i, 1)) (hp : pc + 1 = pc') (h : own_Go p e below W T (mkF m pc' L (.int (x.toInt32) :: S))) : own_Go p e below W T (mkF m pc L (.long x :: S)) := by
  subst hp; exact own_Go.of (fun t q => XS.l2i X.here hx rfl hd rfl q) h
theorem og_i2b (X : Stand p l e R s m args below meth c T locs cells slots) (hx : p.tables.exec = Jvm.exec) {x : Int32} (hd : decode c.code pc = .ok (.i2b, 1)) (hp : pc + 1 = pc') (h : own_Go p e below W T (mkF m pc' L (.int (x.toInt8.toInt32) :: S))) : own_Go p e below W T (mkF m pc L (.int x :: S)) := by
  subst hp; exact own_Go.of (fun t q => XS.i2b X.here hx rfl hd rfl q) h
theorem og_i2s (X : Stand p l e R s m args below meth c T locs cells slots) (hx : p.tables.exec = Jvm.exec) {x : Int32} (hd : decode c.code pc = .ok (.i2s, 1)) (hp : pc + 1 = pc') (h : own_Go p e below W T (mkF m pc' L (.int (x.toInt16.toInt32) :: S))) : own_Go p e below W T (mkF m pc L (.int x :: S)) := by
  subst hp; exact own_Go.of (fun t q => XS.i2s X.here hx rfl hd rfl q) h
theorem og_i2c (X : Stand p l e R s m args below meth c T locs cells slots) (hx : p.tables.exec = Jvm.exec) {x : Int32} (hd : decode c.code pc = .ok (.i2c, 1)) (hp : pc + 1 = pc') (h : own_Go p e below W T (mkF m pc' L (.int (x.toUInt32.toUInt16.toUInt32.toInt32) :: S))) : own_Go p e below W T (mkF m pc L (.int x :: S)) := by
  subst hp; exact own_Go.of (fun t q => XS.i2c X.here hx rfl hd rfl q) h
theorem og_ishl (X : Stand p l e R s m args below meth c T locs cells slots) (hx : p.tables.exec = Jvm.exec) {x : Int32} {y : Int32} (hd : decode c.code pc = .ok (.ishl, 1)) (hp : pc + 1 = pc') (h : own_Go p e below W T (mkF m pc' L (.int (x <<< (y &&& 31)) :: S))) : own_Go p e below W T (mkF m pc L (.int y :: .int x :: S)) := by
  subst hp; exact own_Go.of (fun t q => XS.ishl X.here hx rfl hd rfl q) h
theorem og_ishr (X : Stand p l e R s m args below meth c T locs cells slots) (hx : p.tables.exec = Jvm.exec) {x : Int32} {y : Int32} (hd : decode c.code pc = .ok (.ishr, 1)) (hp : pc + 1 = pc') (h : own_Go p e below W T (mkF m pc' L (.int (x >>> (y &&& 31)) :: S))) : own_Go p e below W T (mkF m pc L (.int y :: .int x :: S)) := by
  subst hp; exact own_Go.of (fun t q => XS.ishr X.here hx rfl hd rfl q) h
theorem og_iushr (X : Stand p l e R s m args below meth c T locs cells slots) (hx : p.tables.exec = Jvm.exec) {x : Int32} {y : Int32} (hd : decode c.code pc = .ok (.iushr, 1)) (hp : pc + 1 = pc') (h : own_Go p e below W T (mkF m pc' L (.int ((x.toUInt32 >>> (y &&& 31).toUInt32).toInt32) :: S))) : own_Go p e below W T (mkF m pc L (.int y :: .int x :: S)) := by
  subst hp; exact own_Go.of (fun t q => XS.iushr X.here hx rfl hd rfl q) h
theorem og_lshl (X : Stand p l e R s m args below meth c T locs cells slots) (hx : p.tables.exec = Jvm.exec) {x : Int64} {y : Int32} (hd : decode c.code pc = .ok (.lshl, 1)) (hp : pc + 1 = pc') (h : own_Go p e below W T (mkF m pc' L (.long (x <<< (y &&& 0x3f).toInt64) :: S))) : own_Go p e below W T (mkF m pc L (.int y :: .long x :: S)) := by
  subst hp; exact own_Go.of (fun t q => XS.lshl X.here hx rfl hd rfl q) h
theorem og_lshr (X : Stand p l e R s m args below meth c T locs cells slots) (hx : p.tables.exec = Jvm.exec) {x : Int64} {y : Int32} (hd : decode c.code pc = .ok (.lshr, 1)) (hp : pc + 1 = pc') (h : own_Go p e below W T (mkF m pc' L (.long (x >>> (y &&& 0x3f).toInt64) :: S))) : own_Go p e below W T (mkF m pc L (.int y :: .long x :: S)) := by
  subst hp; exact own_Go.of (fun t q => XS.lshr X.here hx rfl hd rfl q) h
theorem og_lushr (X : Stand p l e R s m args below meth c T locs cells slots) (hx : p.tables.exec = Jvm.exec) {x : Int64} {y : Int32} (hd : decode c.code pc = .ok (.lushr, 1)) (hp : pc + 1 = pc') (h : own_Go p e below W T (mkF m pc' L (.long ((x.toUInt64 >>> (y &&& 0x3f).toInt64.toUInt64).toInt64) :: S))) : own_Go p e below W T (mkF m pc L (.int y :: .long x :: S)) := by
  subst hp; exact own_Go.of (fun t q => XS.lushr X.here hx rfl hd rfl q) h
theorem og_lcmp (X : Stand p l e R s m args below meth c T locs cells slots) (hx : p.tables.exec = Jvm.exec) {x y : Int64} (hd : decode c.code pc = .ok (.lcmp, 1)) (hp : pc + 1 = pc') (h : own_Go p e below W T (mkF m pc' L (.int (lcmpW x y) :: S))) : own_Go p e below W T (mkF m pc L (.long y :: .long x :: S)) := by
  subst hp; exact own_Go.of (fun t q => XS.lcmp X.here hx rfl hd rfl q) h
theorem og_idiv (X : Stand p l e R s m args below meth c T locs cells slots) (hx : p.tables.exec = Jvm.exec) {x y : Int32} (hd : decode c.code pc = .ok (.idiv, 1)) (hy : y ≠ 0) (hp : pc + 1 = pc') (h : own_Go p e below W T (mkF m pc' L (.int (x / y) :: S))) : own_Go p e below W T (mkF m pc L (.int y :: .int x :: S)) := by
  subst hp; exact own_Go.of (fun t q => XS.idiv X.here hx rfl hd rfl hy q) h
theorem og_ldiv (X : Stand p l e R s m args below meth c T locs cells slots) (hx : p.tables.exec = Jvm.exec) {x y : Int64} (hd : decode c.code pc = .ok (.ldiv, 1)) (hy : y ≠ 0) (hp : pc + 1 = pc') (h : own_Go p e below W T (mkF m pc' L (.long (x / y) :: S))) : own_Go p e below W T (mkF m pc L (.long y :: .long x :: S)) := by
  subst hp; exact own_Go.of (fun t q => XS.ldiv X.here hx rfl hd rfl hy q) h
theorem og_irem (X : Stand p l e R s m args below meth c T locs cells slots) (hx : p.tables.exec = Jvm.exec) {x y : Int32} (hd : decode c.code pc = .ok (.irem, 1)) (hy : y ≠ 0) (hp : pc + 1 = pc') (h : own_Go p e below W T (mkF m pc' L (.int (x % y) :: S))) : own_Go p e below W T (mkF m pc L (.int y :: .int x :: S)) := by
  subst hp; exact own_Go.of (fun t q => iremM X hx rfl hd rfl hy q) h
theorem og_lrem (X : Stand p l e R s m args below meth c T locs cells slots) (hx : p.tables.exec = Jvm.exec) {x y : Int64} (hd : decode c.code pc = .ok (.lrem, 1)) (hy : y ≠ 0) (hp : pc + 1 = pc') (h : own_Go p e below W T (mkF m pc' L (.long (x - (x / y) * y) :: S))) : own_Go p e below W T (mkF m pc L (.long y :: .long x :: S)) := by
  subst hp; exact own_Go.of (fun t q => XS.lrem X.here hx rfl hd rfl hy q) h
theorem og_iinc (X : Stand p l e R s m args below meth c T locs cells slots) (hx : p.tables.exec = Jvm.exec) {k : Nat} {z : Int} {v : Int32} {L' : Array Slot} (hd : decode c.code pc = .ok (.iinc k z, 3)) (hl : L[k]? = some (.val (.int v))) (hs : storeLocals L k (.int (v + Int32.ofInt z)) = some L') (hp : pc + 3 = pc') (h : own_Go p e below W T (mkF m pc' L' S)) : own_Go p e below W T (mkF m pc L S) := by
  subst hp; exact own_Go.of (fun t q => XS.iinc X.here hx rfl hd hl hs q) h
theorem og_dup (X : Stand p l e R s m args below meth c T locs cells slots) (hx : p.tables.exec = Jvm.exec) {v : Value} (hd : decode c.code pc = .ok (.dup, 1)) (hc : v.category = 1) (hp : pc + 1 = pc') (h : own_Go p e below W T (mkF m pc' L (v :: v :: S))) : own_Go p e below W T (mkF m pc L (v :: S)) := by
  subst hp; exact own_Go.of (fun t q => XS.dup X.here hx rfl hd rfl hc q) h
theorem og_pop (X : Stand p l e R s m args below meth c T locs cells slots) (hx : p.tables.exec = Jvm.exec) {v : Value} (hd : decode c.code pc = .ok (.pop, 1)) (hc : v.category = 1) (hp : pc + 1 = pc') (h : own_Go p e below W T (mkF m pc' L S)) : own_Go p e below W T (mkF m pc L (v :: S)) := by
  subst hp; exact own_Go.of (fun t q => XS.pop X.here hx rfl hd rfl hc q) h
theorem og_dup_x1 (X : Stand p l e R s m args below meth c T locs cells slots) (hx : p.tables.exec = Jvm.exec) {v w : Value} (hd : decode c.code pc = .ok (.dup_x1, 1)) (hc : v.category = 1) (hc' : w.category = 1) (hp : pc + 1 = pc') (h : own_Go p e below W T (mkF m pc' L (v :: w :: v :: S))) : own_Go p e below W T (mkF m pc L (v :: w :: S)) := by
  subst hp; exact own_Go.of (fun t q => XS.dupX1 X.here hx rfl hd rfl hc hc' q) h
theorem og_goto (X : Stand p l e R s m args below meth c T locs cells slots) (hx : p.tables.exec = Jvm.exec) {o : Int} (hd : decode c.code pc = .ok (.goto o, 3)) (ho : 0 ≤ (pc : Int) + o) (hp : ((pc : Int) + o).toNat = pc') (h : own_Go p e below W T (mkF m pc' L S)) : own_Go p e below W T (mkF m pc L S) := by
  exact own_Go.of (fun t q => XS.goto X.here hx rfl rfl hd ho hp q) h
theorem og_ifYes (X : Stand p l e R s m args below meth c T locs cells slots) (hx : p.tables.exec = Jvm.exec) {cd : ClassFile.Cond} {x : Int32} {o : Int} (hd : decode c.code pc = .ok (.ifCond cd o, 3)) (hc : ifCond.holds cd x = true) (ho : 0 ≤ (pc : Int) + o) (hp : ((pc : Int) + o).toNat = pc') (h : own_Go p e below W T (mkF m pc' L S)) : own_Go p e below W T (mkF m pc L (.int x :: S)) := by
  exact own_Go.of (fun t q => XS.ifYes X.here hx rfl rfl hd rfl hc ho hp q) h
theorem og_ifNo (X : Stand p l e R s m args below meth c T locs cells slots) (hx : p.tables.exec = Jvm.exec) {cd : ClassFile.Cond} {x : Int32} {o : Int} (hd : decode c.code pc = .ok (.ifCond cd o, 3)) (hc : ifCond.holds cd x = false) (hp : pc + 3 = pc') (h : own_Go p e below W T (mkF m pc' L S)) : own_Go p e below W T (mkF m pc L (.int x :: S)) := by
  subst hp; exact own_Go.of (fun t q => XS.ifNo X.here hx rfl hd rfl hc q) h
theorem og_icmpYes (X : Stand p l e R s m args below meth c T locs cells slots) (hx : p.tables.exec = Jvm.exec) {cd : ClassFile.Cond} {x y : Int32} {o : Int} (hd : decode c.code pc = .ok (.if_icmp cd o, 3)) (hc : if_icmp.holds cd x y = true) (ho : 0 ≤ (pc : Int) + o) (hp : ((pc : Int) + o).toNat = pc') (h : own_Go p e below W T (mkF m pc' L S)) : own_Go p e below W T (mkF m pc L (.int y :: .int x :: S)) := by
  exact own_Go.of (fun t q => XS.icmpYes X.here hx rfl rfl hd rfl hc ho hp q) h
theorem og_icmpNo (X : Stand p l e R s m args below meth c T locs cells slots) (hx : p.tables.exec = Jvm.exec) {cd : ClassFile.Cond} {x y : Int32} {o : Int} (hd : decode c.code pc = .ok (.if_icmp cd o, 3)) (hc : if_icmp.holds cd x y = false) (hp : pc + 3 = pc') (h : own_Go p e below W T (mkF m pc' L S)) : own_Go p e below W T (mkF m pc L (.int y :: .int x :: S)) := by
  subst hp; exact own_Go.of (fun t q => XS.icmpNo X.here hx rfl hd rfl hc q) h
theorem og_ifnullYes (X : Stand p l e R s m args below meth c T locs cells slots) (hx : p.tables.exec = Jvm.exec) {o : Int} (hd : decode c.code pc = .ok (.ifnull o, 3)) (ho : 0 ≤ (pc : Int) + o) (hp : ((pc : Int) + o).toNat = pc') (h : own_Go p e below W T (mkF m pc' L S)) : own_Go p e below W T (mkF m pc L (.null :: S)) := by
  exact own_Go.of (fun t q => XS.ifnullYes X.here hx rfl rfl hd rfl ho hp q) h
theorem og_ifnullNo (X : Stand p l e R s m args below meth c T locs cells slots) (hx : p.tables.exec = Jvm.exec) {b : Addr} {o : Int} (hd : decode c.code pc = .ok (.ifnull o, 3)) (hp : pc + 3 = pc') (h : own_Go p e below W T (mkF m pc' L S)) : own_Go p e below W T (mkF m pc L (.ref b :: S)) := by
  subst hp; exact own_Go.of (fun t q => XS.ifnullNo X.here hx rfl hd rfl q) h
theorem og_ifnonnullYes (X : Stand p l e R s m args below meth c T locs cells slots) (hx : p.tables.exec = Jvm.exec) {b : Addr} {o : Int} (hd : decode c.code pc = .ok (.ifnonnull o, 3)) (ho : 0 ≤ (pc : Int) + o) (hp : ((pc : Int) + o).toNat = pc') (h : own_Go p e below W T (mkF m pc' L S)) : own_Go p e below W T (mkF m pc L (.ref b :: S)) := by
  exact own_Go.of (fun t q => XS.ifnonnullYes X.here hx rfl rfl hd rfl ho hp q) h
theorem og_ifnonnullNo (X : Stand p l e R s m args below meth c T locs cells slots) (hx : p.tables.exec = Jvm.exec) {o : Int} (hd : decode c.code pc = .ok (.ifnonnull o, 3)) (hp : pc + 3 = pc') (h : own_Go p e below W T (mkF m pc' L S)) : own_Go p e below W T (mkF m pc L (.null :: S)) := by
  subst hp; exact own_Go.of (fun t q => XS.ifnonnullNo X.here hx rfl hd rfl q) h
theorem og_ldc (X : Stand p l e R s m args below meth c T locs cells slots) (hx : p.tables.exec = Jvm.exec) {own : String} {index : Nat} {v : Int32} (hd : decode c.code pc = .ok (.ldc index, 2)) (hown : s.vm.findClass own = some m.cls) (w : (Jvm.Cond.constant own index v).before args s = true) (hp : pc + 2 = pc') (h : own_Go p e below W T (mkF m pc' L (.int v :: S))) : own_Go p e below W T (mkF m pc L S) := by
  subst hp; exact own_Go.of (fun t q => X.ldcInt hx hown w (g := mkF m pc L S) rfl hd _ q) h
theorem og_ldc2_w (X : Stand p l e R s m args below meth c T locs cells slots) (hx : p.tables.exec = Jvm.exec) {own : String} {index : Nat} {v : Int64} (hd : decode c.code pc = .ok (.ldc2_w index, 3)) (hown : s.vm.findClass own = some m.cls) (w : (Jvm.Cond.constantLong own index v).before args s = true) (hp : pc + 3 = pc') (h : own_Go p e below W T (mkF m pc' L (.long v :: S))) : own_Go p e below W T (mkF m pc L S) := by
  subst hp; exact own_Go.of (fun t q => X.ldc2Long hx hown w (g := mkF m pc L S) rfl hd _ q) h
end OwnSteps
def own_f_36 (x0 : Int32)  : Int32 := (if x0 = (45 : Int32) then (1 : Int32) else (if x0 = (46 : Int32) then (1 : Int32) else (if x0 = (95 : Int32) then (1 : Int32) else (if x0 = (126 : Int32) then (1 : Int32) else (0 : Int32)))))
def own_f_24 (x0 : Int32)  : Int32 := (if x0 < (48 : Int32) then (own_f_36 x0) else (if (57 : Int32) < x0 then (own_f_36 x0) else (1 : Int32)))
def own_f_12 (x0 : Int32)  : Int32 := (if x0 < (65 : Int32) then (own_f_24 x0) else (if (90 : Int32) < x0 then (own_f_24 x0) else (1 : Int32)))
def own_f (x0 : Int32) : Int32 := (if x0 < (97 : Int32) then (own_f_12 x0) else (if (122 : Int32) < x0 then (own_f_12 x0) else (1 : Int32)))
theorem d1_0 : decode prog_41_method_9_code 0 = .ok (.iload_n 0, 1) := by decide +kernel
theorem d1_1 : decode prog_41_method_9_code 1 = .ok (.bipush 97, 2) := by decide +kernel
theorem d1_3 : decode prog_41_method_9_code 3 = .ok (.if_icmp .lt 9, 3) := by decide +kernel
theorem d1_6 : decode prog_41_method_9_code 6 = .ok (.iload_n 0, 1) := by decide +kernel
theorem d1_7 : decode prog_41_method_9_code 7 = .ok (.bipush 122, 2) := by decide +kernel
theorem d1_9 : decode prog_41_method_9_code 9 = .ok (.if_icmp .le 51, 3) := by decide +kernel
theorem d1_12 : decode prog_41_method_9_code 12 = .ok (.iload_n 0, 1) := by decide +kernel
theorem d1_13 : decode prog_41_method_9_code 13 = .ok (.bipush 65, 2) := by decide +kernel
theorem d1_15 : decode prog_41_method_9_code 15 = .ok (.if_icmp .lt 9, 3) := by decide +kernel
theorem d1_18 : decode prog_41_method_9_code 18 = .ok (.iload_n 0, 1) := by decide +kernel
theorem d1_19 : decode prog_41_method_9_code 19 = .ok (.bipush 90, 2) := by decide +kernel
theorem d1_21 : decode prog_41_method_9_code 21 = .ok (.if_icmp .le 39, 3) := by decide +kernel
theorem d1_24 : decode prog_41_method_9_code 24 = .ok (.iload_n 0, 1) := by decide +kernel
theorem d1_25 : decode prog_41_method_9_code 25 = .ok (.bipush 48, 2) := by decide +kernel
theorem d1_27 : decode prog_41_method_9_code 27 = .ok (.if_icmp .lt 9, 3) := by decide +kernel
theorem d1_30 : decode prog_41_method_9_code 30 = .ok (.iload_n 0, 1) := by decide +kernel
theorem d1_31 : decode prog_41_method_9_code 31 = .ok (.bipush 57, 2) := by decide +kernel
theorem d1_33 : decode prog_41_method_9_code 33 = .ok (.if_icmp .le 27, 3) := by decide +kernel
theorem d1_36 : decode prog_41_method_9_code 36 = .ok (.iload_n 0, 1) := by decide +kernel
theorem d1_37 : decode prog_41_method_9_code 37 = .ok (.bipush 45, 2) := by decide +kernel
theorem d1_39 : decode prog_41_method_9_code 39 = .ok (.if_icmp .eq 21, 3) := by decide +kernel
theorem d1_42 : decode prog_41_method_9_code 42 = .ok (.iload_n 0, 1) := by decide +kernel
theorem d1_43 : decode prog_41_method_9_code 43 = .ok (.bipush 46, 2) := by decide +kernel
theorem d1_45 : decode prog_41_method_9_code 45 = .ok (.if_icmp .eq 15, 3) := by decide +kernel
theorem d1_48 : decode prog_41_method_9_code 48 = .ok (.iload_n 0, 1) := by decide +kernel
theorem d1_49 : decode prog_41_method_9_code 49 = .ok (.bipush 95, 2) := by decide +kernel
theorem d1_51 : decode prog_41_method_9_code 51 = .ok (.if_icmp .eq 9, 3) := by decide +kernel
theorem d1_54 : decode prog_41_method_9_code 54 = .ok (.iload_n 0, 1) := by decide +kernel
theorem d1_55 : decode prog_41_method_9_code 55 = .ok (.bipush 126, 2) := by decide +kernel
theorem d1_57 : decode prog_41_method_9_code 57 = .ok (.if_icmp .ne 7, 3) := by decide +kernel
theorem d1_60 : decode prog_41_method_9_code 60 = .ok (.iconst 1, 1) := by decide +kernel
theorem d1_61 : decode prog_41_method_9_code 61 = .ok (.goto 4, 3) := by decide +kernel
theorem d1_64 : decode prog_41_method_9_code 64 = .ok (.iconst 0, 1) := by decide +kernel
theorem d1_65 : decode prog_41_method_9_code 65 = .ok (.ireturn, 1) := by decide +kernel
theorem pn1 : plainName "com/example/annotated_resource_router/annotatedresourcerouter/uri/PercentEncoding" = true := by first | (simp [plainName, overriddenIn]; done) | decide +kernel
theorem ef1 (m : MethodId) (z0 : Int32) : entryFrame m #[(.int z0)] 1 = mkF m 0 #[.val (.int z0)] [] := by first | (simp [entryFrame, mkF, argsToLocals, Value.category]; done) | rfl
def Q1 (Z : State) (x0 : Int32) (h0 : Heap) (n0 : Nat) (v : Option Value) (h : Heap) (L : List Loc) : Prop := v = some (.int (own_f x0)) ∧ Fr n0 L ∧ h = h0
set_option maxRecDepth 65536 in
set_option maxHeartbeats 40000000 in
theorem rm1 (l : Launch) (Z : State) (a0 : Array Value) (hw : ∀ d ∈ tables_1, d.before a0 Z = true) (ws : List Jvm.Cond) (x0 : Int32) (h0 : Heap) (n0 : Nat) (Z0 : n0 ≤ h0.size) :
    MetFree l (⟨"com/example/annotated_resource_router/annotatedresourcerouter/uri/PercentEncoding", "isUnreserved", "(I)Z"⟩ : MethodName) (head1 (Jvm.Cond.code (⟨"com/example/annotated_resource_router/annotatedresourcerouter/uri/PercentEncoding", "isUnreserved", "(I)Z"⟩ : MethodName) prog_41_method_9_code 1 (some .boolean) :: ws) ({ frames := 0, cells := 0, slots := 0, locals := 0 } : Room)) (fun a U => a = #[(.int x0)] ∧ Z.Warmed39 U.vm ∧ U.heap = h0) (fun _ _ _ _ _ => True) (fun _ U o U' => ∃ v L, o = .returned v ∧ Q1 Z x0 h0 n0 v U'.heap L ∧ FrameEnd U o U' L ({ frames := 0, cells := 0, slots := 0, locals := 0 } : Room).cells ({ frames := 0, cells := 0, slots := 0, locals := 0 } : Room).slots) := by
  refine MetFree.of_bodySF (plainFor_of_name pn1) hisR ?_
  intro p e s m args below meth c s₁ Bd hml0 hP hK
  obtain ⟨rfl, hZ, hh⟩ := hP
  have hx := Bd.exec
  have hby := Bd.bytes
  have hml : c.maxLocals = 1 := hml0
  have hown : s.vm.findClass "com/example/annotated_resource_router/annotatedresourcerouter/uri/PercentEncoding" = some m.cls := findClass_of_methodNamed Bd.named
  have hnm := (name_of_methodNamed Bd.named Bd.method).1
  have X0 : Stand p l e ({ frames := 0, cells := 0, slots := 0, locals := 0 } : Room) s m #[(.int x0)] below meth c s₁ [] 0 0 := Stand.of_body Bd
  have e0 : s₁.heap = h0 := by rw [← hh, Bd.state]; rfl
  have N0 := Fr.nil n0
  show own_Go p e below (fun s₂ o => ∃ v L, o = .returned v ∧ Q1 Z x0 h0 n0 v s₂.heap L ∧ FrameEnd s o s₂ L ({ frames := 0, cells := 0, slots := 0, locals := 0 } : Room).cells ({ frames := 0, cells := 0, slots := 0, locals := 0 } : Room).slots) s₁ (entryFrame m #[(.int x0)] 1)
  have B36 : ∀ (TB : State) (Lc : List Loc) (XB : Stand p l e ({ frames := 0, cells := 0, slots := 0, locals := 0 } : Room) s m #[(.int x0)] below meth c TB Lc 0 0) (eB : TB.heap = h0) (NB : Fr n0 Lc) , own_f x0 = own_f_36 x0 → own_Go p e below (fun s₂ o => ∃ v L, o = .returned v ∧ Q1 Z x0 h0 n0 v s₂.heap L ∧ FrameEnd s o s₂ L ({ frames := 0, cells := 0, slots := 0, locals := 0 } : Room).cells ({ frames := 0, cells := 0, slots := 0, locals := 0 } : Room).slots) TB (mkF m 36 #[.val (.int x0)] []) := by
    intro TB Lc XB eB NB  hv
    refine og_iloadN (pc' := 37) XB hx (hb hby d1_36) rfl rfl ?_
    refine og_bipush (pc' := 39) (n := 45) XB hx (hb hby d1_37) rfl rfl ?_
    by_cases hc39_1 : x0 = (45 : Int32)
    · have hv := hv.trans (if_pos hc39_1)
      refine og_icmpYes (pc' := 60) XB hx (hb hby d1_39) (teq hc39_1).1 (by decide) (by decide) ?_
      refine og_iconst (pc' := 61) (n := 1) XB hx (hb hby d1_60) rfl rfl ?_
      refine og_goto (pc' := 65) XB hx (hb hby d1_61) (by decide) (by decide) ?_
      obtain ⟨fs, hr, hrun, hended, hW, hsame⟩ := XB.leave (v := some (.int (1 : Int32))) (fun h => by rw [Bd.returns] at h; cases h)
      refine ⟨_, _, retN XB hx (t := .boolean) Bd.returns (by simp) (hb hby d1_65) hr, hrun, hended, some (.int (1 : Int32)), _, rfl, ?_, ⟨_, rfl⟩, hW, hsame.mono (by decide) (by decide)⟩
      show Q1 Z x0 h0 n0 _ TB.heap _
      rw [eB]
      exact ⟨(congrArg (fun z => some (Value.int z)) hv.symm), NB, rfl⟩
    · have hv := hv.trans (if_neg hc39_1)
      refine og_icmpNo (pc' := 42) XB hx (hb hby d1_39) (feq hc39_1).1 rfl ?_
      refine og_iloadN (pc' := 43) XB hx (hb hby d1_42) rfl rfl ?_
      refine og_bipush (pc' := 45) (n := 46) XB hx (hb hby d1_43) rfl rfl ?_
      by_cases hc45_2 : x0 = (46 : Int32)
      · have hv := hv.trans (if_pos hc45_2)
        refine og_icmpYes (pc' := 60) XB hx (hb hby d1_45) (teq hc45_2).1 (by decide) (by decide) ?_
        refine og_iconst (pc' := 61) (n := 1) XB hx (hb hby d1_60) rfl rfl ?_
        refine og_goto (pc' := 65) XB hx (hb hby d1_61) (by decide) (by decide) ?_
        obtain ⟨fs, hr, hrun, hended, hW, hsame⟩ := XB.leave (v := some (.int (1 : Int32))) (fun h => by rw [Bd.returns] at h; cases h)
        refine ⟨_, _, retN XB hx (t := .boolean) Bd.returns (by simp) (hb hby d1_65) hr, hrun, hended, some (.int (1 : Int32)), _, rfl, ?_, ⟨_, rfl⟩, hW, hsame.mono (by decide) (by decide)⟩
        show Q1 Z x0 h0 n0 _ TB.heap _
        rw [eB]
        exact ⟨(congrArg (fun z => some (Value.int z)) hv.symm), NB, rfl⟩
      · have hv := hv.trans (if_neg hc45_2)
        refine og_icmpNo (pc' := 48) XB hx (hb hby d1_45) (feq hc45_2).1 rfl ?_
        refine og_iloadN (pc' := 49) XB hx (hb hby d1_48) rfl rfl ?_
        refine og_bipush (pc' := 51) (n := 95) XB hx (hb hby d1_49) rfl rfl ?_
        by_cases hc51_3 : x0 = (95 : Int32)
        · have hv := hv.trans (if_pos hc51_3)
          refine og_icmpYes (pc' := 60) XB hx (hb hby d1_51) (teq hc51_3).1 (by decide) (by decide) ?_
          refine og_iconst (pc' := 61) (n := 1) XB hx (hb hby d1_60) rfl rfl ?_
          refine og_goto (pc' := 65) XB hx (hb hby d1_61) (by decide) (by decide) ?_
          obtain ⟨fs, hr, hrun, hended, hW, hsame⟩ := XB.leave (v := some (.int (1 : Int32))) (fun h => by rw [Bd.returns] at h; cases h)
          refine ⟨_, _, retN XB hx (t := .boolean) Bd.returns (by simp) (hb hby d1_65) hr, hrun, hended, some (.int (1 : Int32)), _, rfl, ?_, ⟨_, rfl⟩, hW, hsame.mono (by decide) (by decide)⟩
          show Q1 Z x0 h0 n0 _ TB.heap _
          rw [eB]
          exact ⟨(congrArg (fun z => some (Value.int z)) hv.symm), NB, rfl⟩
        · have hv := hv.trans (if_neg hc51_3)
          refine og_icmpNo (pc' := 54) XB hx (hb hby d1_51) (feq hc51_3).1 rfl ?_
          refine og_iloadN (pc' := 55) XB hx (hb hby d1_54) rfl rfl ?_
          refine og_bipush (pc' := 57) (n := 126) XB hx (hb hby d1_55) rfl rfl ?_
          by_cases hc57_4 : x0 = (126 : Int32)
          · have hv := hv.trans (if_pos hc57_4)
            refine og_icmpNo (pc' := 60) XB hx (hb hby d1_57) (teq hc57_4).2 rfl ?_
            refine og_iconst (pc' := 61) (n := 1) XB hx (hb hby d1_60) rfl rfl ?_
            refine og_goto (pc' := 65) XB hx (hb hby d1_61) (by decide) (by decide) ?_
            obtain ⟨fs, hr, hrun, hended, hW, hsame⟩ := XB.leave (v := some (.int (1 : Int32))) (fun h => by rw [Bd.returns] at h; cases h)
            refine ⟨_, _, retN XB hx (t := .boolean) Bd.returns (by simp) (hb hby d1_65) hr, hrun, hended, some (.int (1 : Int32)), _, rfl, ?_, ⟨_, rfl⟩, hW, hsame.mono (by decide) (by decide)⟩
            show Q1 Z x0 h0 n0 _ TB.heap _
            rw [eB]
            exact ⟨(congrArg (fun z => some (Value.int z)) hv.symm), NB, rfl⟩
          · have hv := hv.trans (if_neg hc57_4)
            refine og_icmpYes (pc' := 64) XB hx (hb hby d1_57) (feq hc57_4).2 (by decide) (by decide) ?_
            refine og_iconst (pc' := 65) (n := 0) XB hx (hb hby d1_64) rfl rfl ?_
            obtain ⟨fs, hr, hrun, hended, hW, hsame⟩ := XB.leave (v := some (.int (0 : Int32))) (fun h => by rw [Bd.returns] at h; cases h)
            refine ⟨_, _, retN XB hx (t := .boolean) Bd.returns (by simp) (hb hby d1_65) hr, hrun, hended, some (.int (0 : Int32)), _, rfl, ?_, ⟨_, rfl⟩, hW, hsame.mono (by decide) (by decide)⟩
            show Q1 Z x0 h0 n0 _ TB.heap _
            rw [eB]
            exact ⟨(congrArg (fun z => some (Value.int z)) hv.symm), NB, rfl⟩
  have B24 : ∀ (TB : State) (Lc : List Loc) (XB : Stand p l e ({ frames := 0, cells := 0, slots := 0, locals := 0 } : Room) s m #[(.int x0)] below meth c TB Lc 0 0) (eB : TB.heap = h0) (NB : Fr n0 Lc) , own_f x0 = own_f_24 x0 → own_Go p e below (fun s₂ o => ∃ v L, o = .returned v ∧ Q1 Z x0 h0 n0 v s₂.heap L ∧ FrameEnd s o s₂ L ({ frames := 0, cells := 0, slots := 0, locals := 0 } : Room).cells ({ frames := 0, cells := 0, slots := 0, locals := 0 } : Room).slots) TB (mkF m 24 #[.val (.int x0)] []) := by
    intro TB Lc XB eB NB  hv
    refine og_iloadN (pc' := 25) XB hx (hb hby d1_24) rfl rfl ?_
    refine og_bipush (pc' := 27) (n := 48) XB hx (hb hby d1_25) rfl rfl ?_
    by_cases hc27_5 : x0 < (48 : Int32)
    · have hv := hv.trans (if_pos hc27_5)
      refine og_icmpYes (pc' := 36) XB hx (hb hby d1_27) (tlt hc27_5).1 (by decide) (by decide) ?_
      exact B36 TB _ XB eB NB  hv
    · have hv := hv.trans (if_neg hc27_5)
      refine og_icmpNo (pc' := 30) XB hx (hb hby d1_27) (flt hc27_5).1 rfl ?_
      refine og_iloadN (pc' := 31) XB hx (hb hby d1_30) rfl rfl ?_
      refine og_bipush (pc' := 33) (n := 57) XB hx (hb hby d1_31) rfl rfl ?_
      by_cases hc33_6 : (57 : Int32) < x0
      · have hv := hv.trans (if_pos hc33_6)
        refine og_icmpNo (pc' := 36) XB hx (hb hby d1_33) (tlt hc33_6).2.2.2 rfl ?_
        exact B36 TB _ XB eB NB  hv
      · have hv := hv.trans (if_neg hc33_6)
        refine og_icmpYes (pc' := 60) XB hx (hb hby d1_33) (flt hc33_6).2.2.2 (by decide) (by decide) ?_
        refine og_iconst (pc' := 61) (n := 1) XB hx (hb hby d1_60) rfl rfl ?_
        refine og_goto (pc' := 65) XB hx (hb hby d1_61) (by decide) (by decide) ?_
        obtain ⟨fs, hr, hrun, hended, hW, hsame⟩ := XB.leave (v := some (.int (1 : Int32))) (fun h => by rw [Bd.returns] at h; cases h)
        refine ⟨_, _, retN XB hx (t := .boolean) Bd.returns (by simp) (hb hby d1_65) hr, hrun, hended, some (.int (1 : Int32)), _, rfl, ?_, ⟨_, rfl⟩, hW, hsame.mono (by decide) (by decide)⟩
        show Q1 Z x0 h0 n0 _ TB.heap _
        rw [eB]
        exact ⟨(congrArg (fun z => some (Value.int z)) hv.symm), NB, rfl⟩
  have B12 : ∀ (TB : State) (Lc : List Loc) (XB : Stand p l e ({ frames := 0, cells := 0, slots := 0, locals := 0 } : Room) s m #[(.int x0)] below meth c TB Lc 0 0) (eB : TB.heap = h0) (NB : Fr n0 Lc) , own_f x0 = own_f_12 x0 → own_Go p e below (fun s₂ o => ∃ v L, o = .returned v ∧ Q1 Z x0 h0 n0 v s₂.heap L ∧ FrameEnd s o s₂ L ({ frames := 0, cells := 0, slots := 0, locals := 0 } : Room).cells ({ frames := 0, cells := 0, slots := 0, locals := 0 } : Room).slots) TB (mkF m 12 #[.val (.int x0)] []) := by
    intro TB Lc XB eB NB  hv
    refine og_iloadN (pc' := 13) XB hx (hb hby d1_12) rfl rfl ?_
    refine og_bipush (pc' := 15) (n := 65) XB hx (hb hby d1_13) rfl rfl ?_
    by_cases hc15_7 : x0 < (65 : Int32)
    · have hv := hv.trans (if_pos hc15_7)
      refine og_icmpYes (pc' := 24) XB hx (hb hby d1_15) (tlt hc15_7).1 (by decide) (by decide) ?_
      exact B24 TB _ XB eB NB  hv
    · have hv := hv.trans (if_neg hc15_7)
      refine og_icmpNo (pc' := 18) XB hx (hb hby d1_15) (flt hc15_7).1 rfl ?_
      refine og_iloadN (pc' := 19) XB hx (hb hby d1_18) rfl rfl ?_
      refine og_bipush (pc' := 21) (n := 90) XB hx (hb hby d1_19) rfl rfl ?_
      by_cases hc21_8 : (90 : Int32) < x0
      · have hv := hv.trans (if_pos hc21_8)
        refine og_icmpNo (pc' := 24) XB hx (hb hby d1_21) (tlt hc21_8).2.2.2 rfl ?_
        exact B24 TB _ XB eB NB  hv
      · have hv := hv.trans (if_neg hc21_8)
        refine og_icmpYes (pc' := 60) XB hx (hb hby d1_21) (flt hc21_8).2.2.2 (by decide) (by decide) ?_
        refine og_iconst (pc' := 61) (n := 1) XB hx (hb hby d1_60) rfl rfl ?_
        refine og_goto (pc' := 65) XB hx (hb hby d1_61) (by decide) (by decide) ?_
        obtain ⟨fs, hr, hrun, hended, hW, hsame⟩ := XB.leave (v := some (.int (1 : Int32))) (fun h => by rw [Bd.returns] at h; cases h)
        refine ⟨_, _, retN XB hx (t := .boolean) Bd.returns (by simp) (hb hby d1_65) hr, hrun, hended, some (.int (1 : Int32)), _, rfl, ?_, ⟨_, rfl⟩, hW, hsame.mono (by decide) (by decide)⟩
        show Q1 Z x0 h0 n0 _ TB.heap _
        rw [eB]
        exact ⟨(congrArg (fun z => some (Value.int z)) hv.symm), NB, rfl⟩
  refine own_Go.of (g' := mkF m 0 #[.val (.int x0)] []) (fun t k => castTop (ef1 m x0) k) ?_
  have hv : own_f x0 = own_f x0 := rfl
  refine og_iloadN (pc' := 1) X0 hx (hb hby d1_0) rfl rfl ?_
  refine og_bipush (pc' := 3) (n := 97) X0 hx (hb hby d1_1) rfl rfl ?_
  by_cases hc3_9 : x0 < (97 : Int32)
  · have hv := hv.trans (if_pos hc3_9)
    refine og_icmpYes (pc' := 12) X0 hx (hb hby d1_3) (tlt hc3_9).1 (by decide) (by decide) ?_
    exact B12 s₁ _ X0 e0 N0  hv
  · have hv := hv.trans (if_neg hc3_9)
    refine og_icmpNo (pc' := 6) X0 hx (hb hby d1_3) (flt hc3_9).1 rfl ?_
    refine og_iloadN (pc' := 7) X0 hx (hb hby d1_6) rfl rfl ?_
    refine og_bipush (pc' := 9) (n := 122) X0 hx (hb hby d1_7) rfl rfl ?_
    by_cases hc9_10 : (122 : Int32) < x0
    · have hv := hv.trans (if_pos hc9_10)
      refine og_icmpNo (pc' := 12) X0 hx (hb hby d1_9) (tlt hc9_10).2.2.2 rfl ?_
      exact B12 s₁ _ X0 e0 N0  hv
    · have hv := hv.trans (if_neg hc9_10)
      refine og_icmpYes (pc' := 60) X0 hx (hb hby d1_9) (flt hc9_10).2.2.2 (by decide) (by decide) ?_
      refine og_iconst (pc' := 61) (n := 1) X0 hx (hb hby d1_60) rfl rfl ?_
      refine og_goto (pc' := 65) X0 hx (hb hby d1_61) (by decide) (by decide) ?_
      obtain ⟨fs, hr, hrun, hended, hW, hsame⟩ := X0.leave (v := some (.int (1 : Int32))) (fun h => by rw [Bd.returns] at h; cases h)
      refine ⟨_, _, retN X0 hx (t := .boolean) Bd.returns (by simp) (hb hby d1_65) hr, hrun, hended, some (.int (1 : Int32)), _, rfl, ?_, ⟨_, rfl⟩, hW, hsame.mono (by decide) (by decide)⟩
      show Q1 Z x0 h0 n0 _ s₁.heap _
      rw [e0]
      exact ⟨(congrArg (fun z => some (Value.int z)) hv.symm), N0, rfl⟩

def own_g_28 (x0 : Int32) (t0 : Int64) : Int32 := (if (((t0.toUInt64 >>> ((x0 &&& (63 : Int32)) &&& 0x3f).toInt64.toUInt64).toInt64) &&& (1 : Int64)) = (0 : Int64) then (0 : Int32) else (1 : Int32))
def own_g (x0 : Int32) : Int32 := (if x0 < (0 : Int32) then (0 : Int32) else (if x0 < (128 : Int32) then (if x0 < (64 : Int32) then (own_g_28 x0 (288054454291267584 : Int64)) else (own_g_28 x0 (5188146764422578174 : Int64))) else (0 : Int32)))
theorem d2_0 : decode method_2_code 0 = .ok (.iload_n 0, 1) := by decide +kernel
theorem d2_1 : decode method_2_code 1 = .ok (.ifCond .lt 10, 3) := by decide +kernel
theorem d2_4 : decode method_2_code 4 = .ok (.iload_n 0, 1) := by decide +kernel
theorem d2_5 : decode method_2_code 5 = .ok (.sipush 128, 3) := by decide +kernel
theorem d2_8 : decode method_2_code 8 = .ok (.if_icmp .lt 5, 3) := by decide +kernel
theorem d2_11 : decode method_2_code 11 = .ok (.iconst 0, 1) := by decide +kernel
theorem d2_12 : decode method_2_code 12 = .ok (.ireturn, 1) := by decide +kernel
theorem d2_13 : decode method_2_code 13 = .ok (.iload_n 0, 1) := by decide +kernel
theorem d2_14 : decode method_2_code 14 = .ok (.bipush 64, 2) := by decide +kernel
theorem d2_16 : decode method_2_code 16 = .ok (.if_icmp .ge 9, 3) := by decide +kernel
theorem d2_19 : decode method_2_code 19 = .ok (.ldc2_w 7, 3) := by decide +kernel
theorem d2_22 : decode method_2_code 22 = .ok (.goto 6, 3) := by decide +kernel
theorem d2_25 : decode method_2_code 25 = .ok (.ldc2_w 9, 3) := by decide +kernel
theorem d2_28 : decode method_2_code 28 = .ok (.lstore_n 1, 1) := by decide +kernel
theorem d2_29 : decode method_2_code 29 = .ok (.lload_n 1, 1) := by decide +kernel
theorem d2_30 : decode method_2_code 30 = .ok (.iload_n 0, 1) := by decide +kernel
theorem d2_31 : decode method_2_code 31 = .ok (.bipush 63, 2) := by decide +kernel
theorem d2_33 : decode method_2_code 33 = .ok (.iand, 1) := by decide +kernel
theorem d2_34 : decode method_2_code 34 = .ok (.lushr, 1) := by decide +kernel
theorem d2_35 : decode method_2_code 35 = .ok (.lconst 1, 1) := by decide +kernel
theorem d2_36 : decode method_2_code 36 = .ok (.land, 1) := by decide +kernel
theorem d2_37 : decode method_2_code 37 = .ok (.lconst 0, 1) := by decide +kernel
theorem d2_38 : decode method_2_code 38 = .ok (.lcmp, 1) := by decide +kernel
theorem d2_39 : decode method_2_code 39 = .ok (.ifCond .eq 7, 3) := by decide +kernel
theorem d2_42 : decode method_2_code 42 = .ok (.iconst 1, 1) := by decide +kernel
theorem d2_43 : decode method_2_code 43 = .ok (.goto 4, 3) := by decide +kernel
theorem d2_46 : decode method_2_code 46 = .ok (.iconst 0, 1) := by decide +kernel
theorem d2_47 : decode method_2_code 47 = .ok (.ireturn, 1) := by decide +kernel
theorem pn2 : plainName "com/example/annotated_resource_router/annotatedresourcerouter/uri/PercentEncodingIsUnreservedPinLaw" = true := by first | (simp [plainName, overriddenIn]; done) | decide +kernel
theorem ef2 (m : MethodId) (z0 : Int32) : entryFrame m #[(.int z0)] 3 = mkF m 0 #[.val (.int z0), .unset, .unset] [] := by first | (simp [entryFrame, mkF, argsToLocals, Value.category]; done) | rfl
def Q2 (Z : State) (x0 : Int32) (h0 : Heap) (n0 : Nat) (v : Option Value) (h : Heap) (L : List Loc) : Prop := v = some (.int (own_g x0)) ∧ Fr n0 L ∧ h = h0
set_option maxRecDepth 65536 in
set_option maxHeartbeats 40000000 in
theorem rm2 (l : Launch) (Z : State) (a0 : Array Value) (hw : ∀ d ∈ tables_1, d.before a0 Z = true) (ws : List Jvm.Cond) (x0 : Int32) (h0 : Heap) (n0 : Nat) (Z0 : n0 ≤ h0.size) :
    MetFree l (⟨"com/example/annotated_resource_router/annotatedresourcerouter/uri/PercentEncodingIsUnreservedPinLaw", "reference", "(I)Z"⟩ : MethodName) (head1 (Jvm.Cond.code (⟨"com/example/annotated_resource_router/annotatedresourcerouter/uri/PercentEncodingIsUnreservedPinLaw", "reference", "(I)Z"⟩ : MethodName) method_2_code 3 (some .boolean) :: ws) ({ frames := 0, cells := 0, slots := 0, locals := 0 } : Room)) (fun a U => a = #[(.int x0)] ∧ Z.Warmed39 U.vm ∧ U.heap = h0) (fun _ _ _ _ _ => True) (fun _ U o U' => ∃ v L, o = .returned v ∧ Q2 Z x0 h0 n0 v U'.heap L ∧ FrameEnd U o U' L ({ frames := 0, cells := 0, slots := 0, locals := 0 } : Room).cells ({ frames := 0, cells := 0, slots := 0, locals := 0 } : Room).slots) := by
  refine MetFree.of_bodySF (plainFor_of_name pn2) hisR ?_
  intro p e s m args below meth c s₁ Bd hml0 hP hK
  obtain ⟨rfl, hZ, hh⟩ := hP
  have hx := Bd.exec
  have hby := Bd.bytes
  have hml : c.maxLocals = 3 := hml0
  have hown : s.vm.findClass "com/example/annotated_resource_router/annotatedresourcerouter/uri/PercentEncodingIsUnreservedPinLaw" = some m.cls := findClass_of_methodNamed Bd.named
  have hnm := (name_of_methodNamed Bd.named Bd.method).1
  have X0 : Stand p l e ({ frames := 0, cells := 0, slots := 0, locals := 0 } : Room) s m #[(.int x0)] below meth c s₁ [] 0 0 := Stand.of_body Bd
  have e0 : s₁.heap = h0 := by rw [← hh, Bd.state]; rfl
  have N0 := Fr.nil n0
  show own_Go p e below (fun s₂ o => ∃ v L, o = .returned v ∧ Q2 Z x0 h0 n0 v s₂.heap L ∧ FrameEnd s o s₂ L ({ frames := 0, cells := 0, slots := 0, locals := 0 } : Room).cells ({ frames := 0, cells := 0, slots := 0, locals := 0 } : Room).slots) s₁ (entryFrame m #[(.int x0)] 3)
  have B28 : ∀ (TB : State) (Lc : List Loc) (XB : Stand p l e ({ frames := 0, cells := 0, slots := 0, locals := 0 } : Room) s m #[(.int x0)] below meth c TB Lc 0 0) (eB : TB.heap = h0) (NB : Fr n0 Lc) (t0 : Int64), own_g x0 = own_g_28 x0 t0 → own_Go p e below (fun s₂ o => ∃ v L, o = .returned v ∧ Q2 Z x0 h0 n0 v s₂.heap L ∧ FrameEnd s o s₂ L ({ frames := 0, cells := 0, slots := 0, locals := 0 } : Room).cells ({ frames := 0, cells := 0, slots := 0, locals := 0 } : Room).slots) TB (mkF m 28 #[.val (.int x0), .unset, .unset] [(.long t0)]) := by
    intro TB Lc XB eB NB t0 hv
    refine og_lstoreN (pc' := 29) (L' := #[.val (.int x0), .val (.long t0), .second]) XB hx (hb hby d2_28) rfl rfl ?_
    refine og_lloadN (pc' := 30) XB hx (hb hby d2_29) rfl rfl ?_
    refine og_iloadN (pc' := 31) XB hx (hb hby d2_30) rfl rfl ?_
    refine og_bipush (pc' := 33) (n := 63) XB hx (hb hby d2_31) rfl rfl ?_
    refine og_iand (pc' := 34) XB hx (hb hby d2_33) rfl ?_
    refine og_lushr (pc' := 35) XB hx (hb hby d2_34) rfl ?_
    refine og_lconst1 (pc' := 36) XB hx (hb hby d2_35) rfl ?_
    refine og_land (pc' := 37) XB hx (hb hby d2_36) rfl ?_
    refine og_lconst0 (pc' := 38) XB hx (hb hby d2_37) rfl ?_
    refine og_lcmp (pc' := 39) XB hx (hb hby d2_38) rfl ?_
    by_cases hc39_1 : (((t0.toUInt64 >>> ((x0 &&& (63 : Int32)) &&& 0x3f).toInt64.toUInt64).toInt64) &&& (1 : Int64)) = (0 : Int64)
    · have hv := hv.trans (if_pos hc39_1)
      refine og_ifYes (pc' := 46) XB hx (hb hby d2_39) ((if0 _ _).trans (teq ((lw_eq _ _).mpr hc39_1)).1) (by decide) (by decide) ?_
      refine og_iconst (pc' := 47) (n := 0) XB hx (hb hby d2_46) rfl rfl ?_
      obtain ⟨fs, hr, hrun, hended, hW, hsame⟩ := XB.leave (v := some (.int (0 : Int32))) (fun h => by rw [Bd.returns] at h; cases h)
      refine ⟨_, _, retN XB hx (t := .boolean) Bd.returns (by simp) (hb hby d2_47) hr, hrun, hended, some (.int (0 : Int32)), _, rfl, ?_, ⟨_, rfl⟩, hW, hsame.mono (by decide) (by decide)⟩
      show Q2 Z x0 h0 n0 _ TB.heap _
      rw [eB]
      exact ⟨(congrArg (fun z => some (Value.int z)) hv.symm), NB, rfl⟩
    · have hv := hv.trans (if_neg hc39_1)
      refine og_ifNo (pc' := 42) XB hx (hb hby d2_39) ((if0 _ _).trans (feq (fun q => hc39_1 ((lw_eq _ _).mp q))).1) rfl ?_
      refine og_iconst (pc' := 43) (n := 1) XB hx (hb hby d2_42) rfl rfl ?_
      refine og_goto (pc' := 47) XB hx (hb hby d2_43) (by decide) (by decide) ?_
      obtain ⟨fs, hr, hrun, hended, hW, hsame⟩ := XB.leave (v := some (.int (1 : Int32))) (fun h => by rw [Bd.returns] at h; cases h)
      refine ⟨_, _, retN XB hx (t := .boolean) Bd.returns (by simp) (hb hby d2_47) hr, hrun, hended, some (.int (1 : Int32)), _, rfl, ?_, ⟨_, rfl⟩, hW, hsame.mono (by decide) (by decide)⟩
      show Q2 Z x0 h0 n0 _ TB.heap _
      rw [eB]
      exact ⟨(congrArg (fun z => some (Value.int z)) hv.symm), NB, rfl⟩
  refine own_Go.of (g' := mkF m 0 #[.val (.int x0), .unset, .unset] []) (fun t k => castTop (ef2 m x0) k) ?_
  have hv : own_g x0 = own_g x0 := rfl
  refine og_iloadN (pc' := 1) X0 hx (hb hby d2_0) rfl rfl ?_
  by_cases hc1_2 : x0 < (0 : Int32)
  · have hv := hv.trans (if_pos hc1_2)
    refine og_ifYes (pc' := 11) X0 hx (hb hby d2_1) ((if0 _ _).trans (tlt hc1_2).1) (by decide) (by decide) ?_
    refine og_iconst (pc' := 12) (n := 0) X0 hx (hb hby d2_11) rfl rfl ?_
    obtain ⟨fs, hr, hrun, hended, hW, hsame⟩ := X0.leave (v := some (.int (0 : Int32))) (fun h => by rw [Bd.returns] at h; cases h)
    refine ⟨_, _, retN X0 hx (t := .boolean) Bd.returns (by simp) (hb hby d2_12) hr, hrun, hended, some (.int (0 : Int32)), _, rfl, ?_, ⟨_, rfl⟩, hW, hsame.mono (by decide) (by decide)⟩
    show Q2 Z x0 h0 n0 _ s₁.heap _
    rw [e0]
    exact ⟨(congrArg (fun z => some (Value.int z)) hv.symm), N0, rfl⟩
  · have hv := hv.trans (if_neg hc1_2)
    refine og_ifNo (pc' := 4) X0 hx (hb hby d2_1) ((if0 _ _).trans (flt hc1_2).1) rfl ?_
    refine og_iloadN (pc' := 5) X0 hx (hb hby d2_4) rfl rfl ?_
    refine og_sipush (pc' := 8) (n := 128) X0 hx (hb hby d2_5) rfl rfl ?_
    by_cases hc8_3 : x0 < (128 : Int32)
    · have hv := hv.trans (if_pos hc8_3)
      refine og_icmpYes (pc' := 13) X0 hx (hb hby d2_8) (tlt hc8_3).1 (by decide) (by decide) ?_
      refine og_iloadN (pc' := 14) X0 hx (hb hby d2_13) rfl rfl ?_
      refine og_bipush (pc' := 16) (n := 64) X0 hx (hb hby d2_14) rfl rfl ?_
      by_cases hc16_4 : x0 < (64 : Int32)
      · have hv := hv.trans (if_pos hc16_4)
        refine og_icmpNo (pc' := 19) X0 hx (hb hby d2_16) (tlt hc16_4).2.1 rfl ?_
        refine og_ldc2_w (pc' := 22) X0 hx (hb hby d2_19) hown (mvT hZ (hw _ (List.mem_of_getElem? (i := 8) rfl))) rfl ?_
        refine og_goto (pc' := 28) X0 hx (hb hby d2_22) (by decide) (by decide) ?_
        exact B28 s₁ _ X0 e0 N0 (288054454291267584 : Int64) hv
      · have hv := hv.trans (if_neg hc16_4)
        refine og_icmpYes (pc' := 25) X0 hx (hb hby d2_16) (flt hc16_4).2.1 (by decide) (by decide) ?_
        refine og_ldc2_w (pc' := 28) X0 hx (hb hby d2_25) hown (mvT hZ (hw _ (List.mem_of_getElem? (i := 9) rfl))) rfl ?_
        exact B28 s₁ _ X0 e0 N0 (5188146764422578174 : Int64) hv
    · have hv := hv.trans (if_neg hc8_3)
      refine og_icmpNo (pc' := 11) X0 hx (hb hby d2_8) (flt hc8_3).1 rfl ?_
      refine og_iconst (pc' := 12) (n := 0) X0 hx (hb hby d2_11) rfl rfl ?_
      obtain ⟨fs, hr, hrun, hended, hW, hsame⟩ := X0.leave (v := some (.int (0 : Int32))) (fun h => by rw [Bd.returns] at h; cases h)
      refine ⟨_, _, retN X0 hx (t := .boolean) Bd.returns (by simp) (hb hby d2_12) hr, hrun, hended, some (.int (0 : Int32)), _, rfl, ?_, ⟨_, rfl⟩, hW, hsame.mono (by decide) (by decide)⟩
      show Q2 Z x0 h0 n0 _ s₁.heap _
      rw [e0]
      exact ⟨(congrArg (fun z => some (Value.int z)) hv.symm), N0, rfl⟩

theorem own_ofNat (x : Int32) (h : 0 ≤ x.toInt) : x = Int32.ofNat x.toInt.toNat := by
  rw [← Int32.toInt_inj, Int32.toInt_ofNat_small (by have := rng32 x; omega)]
  omega
theorem own_c (x : Int32) (n : Nat) (h : n < 2 ^ 31) : (x < Int32.ofNat n ↔ x.toInt < n) ∧ (Int32.ofNat n < x ↔ (n : Int) < x.toInt) ∧ (x = Int32.ofNat n ↔ x.toInt = n) := by
  rw [Int32.lt_iff_toInt_lt, Int32.lt_iff_toInt_lt, ← Int32.toInt_inj, Int32.toInt_ofNat_small h]
  exact ⟨Iff.rfl, Iff.rfl, Iff.rfl⟩
theorem own_fg (x0 : Int32) : own_f x0 = own_g x0 := by
  by_cases h : 0 ≤ x0.toInt ∧ x0.toInt < 128
  · have key : ∀ n : Fin 128, own_f (Int32.ofNat n.val) = own_g (Int32.ofNat n.val) := by decide +kernel
    rw [own_ofNat x0 h.1]
    exact key ⟨x0.toInt.toNat, by omega⟩
  · have a : own_g x0 = 0 := by
      unfold own_g
      by_cases q : x0 < (0 : Int32)
      · rw [if_pos q]
      · rw [if_neg q]
        have q1 : ¬ x0 < (128 : Int32) := by
          intro q2
          have z0 := mt (own_c x0 0 (by decide)).1.mpr q
          have z1 := (own_c x0 128 (by decide)).1.mp q2
          omega
        rw [if_neg q1]
    rw [a]
    have e := fun n hn => own_c x0 n hn
    have e45 := e 45 (by decide); have e46 := e 46 (by decide); have e95 := e 95 (by decide); have e126 := e 126 (by decide)
    have e48 := e 48 (by decide); have e57 := e 57 (by decide); have e65 := e 65 (by decide); have e90 := e 90 (by decide); have e97 := e 97 (by decide); have e122 := e 122 (by decide)
    have n1 : ¬ x0 = (45 : Int32) := fun q => by have := e45.2.2.mp q; omega
    have n2 : ¬ x0 = (46 : Int32) := fun q => by have := e46.2.2.mp q; omega
    have n3 : ¬ x0 = (95 : Int32) := fun q => by have := e95.2.2.mp q; omega
    have n4 : ¬ x0 = (126 : Int32) := fun q => by have := e126.2.2.mp q; omega
    have m36 : own_f_36 x0 = 0 := by unfold own_f_36; rw [if_neg n1, if_neg n2, if_neg n3, if_neg n4]
    have m24 : own_f_24 x0 = 0 := by
      unfold own_f_24; rw [m36]
      by_cases q : x0 < (48 : Int32)
      · rw [if_pos q]
      · rw [if_neg q]
        have q2 : (57 : Int32) < x0 := e57.2.1.mpr (by have := mt e48.1.mpr q; omega)
        rw [if_pos q2]
    have m12 : own_f_12 x0 = 0 := by
      unfold own_f_12; rw [m24]
      by_cases q : x0 < (65 : Int32)
      · rw [if_pos q]
      · rw [if_neg q]
        have q2 : (90 : Int32) < x0 := e90.2.1.mpr (by have := mt e65.1.mpr q; omega)
        rw [if_pos q2]
    unfold own_f; rw [m12]
    by_cases q : x0 < (97 : Int32)
    · rw [if_pos q]
    · rw [if_neg q]
      have q2 : (122 : Int32) < x0 := e122.2.1.mpr (by have := mt e97.1.mpr q; omega)
      rw [if_pos q2]

theorem pn0 : plainName "com/example/annotated_resource_router/annotatedresourcerouter/uri/PercentEncodingIsUnreservedPinLaw" = true := by first | (simp [plainName, overriddenIn]; done) | decide +kernel
theorem pd_0 : parseMethodDescriptor "(I)Z" = some ⟨[.int], some .boolean⟩ := by decide +kernel
theorem ef0 (m : MethodId) (z0 : Int32) (z1 : Int32) : entryFrame m #[(.int z0), (.int z1)] maxLocals = mkF m 0 #[.val (.int z0), .val (.int z1), .unset] [] := by first | (simp [entryFrame, mkF, argsToLocals, Value.category, maxLocals]; done) | rfl
def Q0 (Z : State) (x0 : Int32) (x1 : Int32) (h0 : Heap) (n0 : Nat) (v : Option Value) (h : Heap) (L : List Loc) : Prop := v = some (.int 1) ∧ Fr n0 L
set_option maxRecDepth 65536 in
set_option maxHeartbeats 40000000 in
theorem rm0 (l : Launch) (Z : State) (a0 : Array Value) (hw : ∀ d ∈ tables_1, d.before a0 Z = true) (ws : List Jvm.Cond) (x0 : Int32) (x1 : Int32) (h0 : Heap) (n0 : Nat) (Z0 : n0 ≤ h0.size) :
    MetFree l x (head1 (Jvm.Cond.code x code maxLocals ret :: ws) room_1) (fun a U => a = #[(.int x0), (.int x1)] ∧ Z.Warmed39 U.vm ∧ U.heap = h0) (fun _ _ _ _ _ => True) (fun _ U o U' => ∃ v L, o = .returned v ∧ Q0 Z x0 x1 h0 n0 v U'.heap L ∧ FrameEnd U o U' L room_1.cells room_1.slots) := by
  refine MetFree.of_bodySF (plainFor_of_name pn0) hisR ?_
  intro p e s m args below meth c s₁ Bd hml0 hP hK
  obtain ⟨rfl, hZ, hh⟩ := hP
  have hx := Bd.exec
  have hby := Bd.bytes
  have hml : c.maxLocals = 3 := hml0
  have hown : s.vm.findClass "com/example/annotated_resource_router/annotatedresourcerouter/uri/PercentEncodingIsUnreservedPinLaw" = some m.cls := findClass_of_methodNamed Bd.named
  have hnm := (name_of_methodNamed Bd.named Bd.method).1
  have X0 : Stand p l e room_1 s m #[(.int x0), (.int x1)] below meth c s₁ [] 0 0 := Stand.of_body Bd
  have e0 : s₁.heap = h0 := by rw [← hh, Bd.state]; rfl
  have N0 := Fr.nil n0
  show own_Go p e below (fun s₂ o => ∃ v L, o = .returned v ∧ Q0 Z x0 x1 h0 n0 v s₂.heap L ∧ FrameEnd s o s₂ L room_1.cells room_1.slots) s₁ (entryFrame m #[(.int x0), (.int x1)] maxLocals)
  refine own_Go.of (g' := mkF m 0 #[.val (.int x0), .val (.int x1), .unset] []) (fun t k => castTop (ef0 m x0 x1) k) ?_
  refine og_iloadN (pc' := 1) X0 hx (hb hby at_0) rfl rfl ?_
  refine og_sipush (pc' := 4) (n := 255) X0 hx (hb hby at_1) rfl rfl ?_
  refine og_iand (pc' := 5) X0 hx (hb hby at_4) rfl ?_
  refine og_istoreN (pc' := 6) (L' := #[.val (.int x0), .val (.int x1), .val (.int (x1 &&& (255 : Int32)))]) X0 hx (hb hby at_5) rfl rfl ?_
  refine og_iloadN (pc' := 7) X0 hx (hb hby at_6) rfl rfl ?_
  obtain ⟨_, _, ⟨T1, L1, k1, n1⟩, -, X1, ⟨Lc1, hQ1, l1, y1, z1⟩, st1⟩ := Jvm.LawKit.callS X0 hx (y := (⟨"com/example/annotated_resource_router/annotatedresourcerouter/uri/PercentEncoding", "isUnreserved", "(I)Z"⟩ : MethodName)) hown (mvT hZ (hw _ (List.mem_of_getElem? (i := 0) rfl))) (mvT hZ (hw _ (List.mem_of_getElem? (i := 1) rfl))) (mvT hZ (hw _ (List.mem_of_getElem? (i := 2) rfl))) (mvT hZ (hw _ (List.mem_of_getElem? (i := 3) rfl))) (by decide) (backOf (W := 0) (rm1 l Z a0 hw [] x0 h0 n0 Z0 ) hZ (hw _ (List.mem_of_getElem? (i := 3) rfl)) (hw _ (List.mem_of_getElem? (i := 2) rfl)) (by decide) (by decide)) (g := (mkF m 7 #[.val (.int x0), .val (.int x1), .val (.int (x1 &&& (255 : Int32)))] [(.int x0)])) rfl (by rw [hml]; rfl) (argsL := [(.int x0)]) (rest := []) (lenOf pd_0 rfl) rfl (by show 2 * 0 + _ ≤ _; exact Nat.le_of_eq rfl) (hb hby at_7) (fun _ _ => ⟨rfl, e0, (by decide : 0 + 0 ≤ _), (by decide : 0 + 0 ≤ _)⟩)
  dsimp only [Pt.U, Pt.locs, Pt.cells, Pt.slots] at X1 l1 y1 z1 st1 hQ1
  subst l1 y1 z1
  obtain ⟨rfl, N1q, e1⟩ := hQ1
  have N1 := Fr.app N0 N1q
  refine own_Go.of (g' := (mkF m 10 #[.val (.int x0), .val (.int x1), .val (.int (x1 &&& (255 : Int32)))] [(.int (own_f x0))])) (fun t k => st1 _ k) ?_
  refine og_iloadN (pc' := 11) X1 hx (hb hby at_10) rfl rfl ?_
  obtain ⟨_, _, ⟨T2, L2, k2, n2⟩, -, X2, ⟨Lc2, hQ2, l2, y2, z2⟩, st2⟩ := Jvm.LawKit.callS X1 hx (y := (⟨"com/example/annotated_resource_router/annotatedresourcerouter/uri/PercentEncodingIsUnreservedPinLaw", "reference", "(I)Z"⟩ : MethodName)) hown (mvT hZ (hw _ (List.mem_of_getElem? (i := 4) rfl))) (mvT hZ (hw _ (List.mem_of_getElem? (i := 5) rfl))) (mvT hZ (hw _ (List.mem_of_getElem? (i := 6) rfl))) (mvT hZ (hw _ (List.mem_of_getElem? (i := 7) rfl))) (by decide) (backOf (W := 1) (rm2 l Z a0 hw [] x0 h0 n0 Z0 ) hZ (hw _ (List.mem_of_getElem? (i := 7) rfl)) (hw _ (List.mem_of_getElem? (i := 6) rfl)) (by decide) (by decide)) (g := (mkF m 11 #[.val (.int x0), .val (.int x1), .val (.int (x1 &&& (255 : Int32)))] [(.int x0), (.int (own_f x0))])) rfl (by rw [hml]; rfl) (argsL := [(.int x0)]) (rest := [(.int (own_f x0))]) (lenOf pd_0 rfl) rfl (by show 2 * 0 + _ ≤ _; exact Nat.le_of_eq rfl) (hb hby at_11) (fun _ _ => ⟨rfl, e1, (by decide : 0 + 0 ≤ _), (by decide : 0 + 0 ≤ _)⟩)
  dsimp only [Pt.U, Pt.locs, Pt.cells, Pt.slots] at X2 l2 y2 z2 st2 hQ2
  subst l2 y2 z2
  obtain ⟨rfl, N2q, e2⟩ := hQ2
  have N2 := Fr.app N1 N2q
  refine own_Go.of (g' := (mkF m 14 #[.val (.int x0), .val (.int x1), .val (.int (x1 &&& (255 : Int32)))] [(.int (own_g x0)), (.int (own_f x0))])) (fun t k => st2 _ k) ?_
  refine og_icmpNo (pc' := 17) X2 hx (hb hby at_14) (teq (own_fg x0)).2 rfl ?_
  refine og_iloadN (pc' := 18) X2 hx (hb hby at_17) rfl rfl ?_
  obtain ⟨_, _, ⟨T3, L3, k3, n3⟩, -, X3, ⟨Lc3, hQ3, l3, y3, z3⟩, st3⟩ := Jvm.LawKit.callS X2 hx (y := (⟨"com/example/annotated_resource_router/annotatedresourcerouter/uri/PercentEncoding", "isUnreserved", "(I)Z"⟩ : MethodName)) hown (mvT hZ (hw _ (List.mem_of_getElem? (i := 0) rfl))) (mvT hZ (hw _ (List.mem_of_getElem? (i := 1) rfl))) (mvT hZ (hw _ (List.mem_of_getElem? (i := 2) rfl))) (mvT hZ (hw _ (List.mem_of_getElem? (i := 3) rfl))) (by decide) (backOf (W := 0) (rm1 l Z a0 hw [] (x1 &&& (255 : Int32)) h0 n0 Z0 ) hZ (hw _ (List.mem_of_getElem? (i := 3) rfl)) (hw _ (List.mem_of_getElem? (i := 2) rfl)) (by decide) (by decide)) (g := (mkF m 18 #[.val (.int x0), .val (.int x1), .val (.int (x1 &&& (255 : Int32)))] [(.int (x1 &&& (255 : Int32)))])) rfl (by rw [hml]; rfl) (argsL := [(.int (x1 &&& (255 : Int32)))]) (rest := []) (lenOf pd_0 rfl) rfl (by show 2 * 0 + _ ≤ _; exact Nat.le_of_eq rfl) (hb hby at_18) (fun _ _ => ⟨rfl, e2, (by decide : 0 + 0 ≤ _), (by decide : 0 + 0 ≤ _)⟩)
  dsimp only [Pt.U, Pt.locs, Pt.cells, Pt.slots] at X3 l3 y3 z3 st3 hQ3
  subst l3 y3 z3
  obtain ⟨rfl, N3q, e3⟩ := hQ3
  have N3 := Fr.app N2 N3q
  refine own_Go.of (g' := (mkF m 21 #[.val (.int x0), .val (.int x1), .val (.int (x1 &&& (255 : Int32)))] [(.int (own_f (x1 &&& (255 : Int32))))])) (fun t k => st3 _ k) ?_
  refine og_iloadN (pc' := 22) X3 hx (hb hby at_21) rfl rfl ?_
  obtain ⟨_, _, ⟨T4, L4, k4, n4⟩, -, X4, ⟨Lc4, hQ4, l4, y4, z4⟩, st4⟩ := Jvm.LawKit.callS X3 hx (y := (⟨"com/example/annotated_resource_router/annotatedresourcerouter/uri/PercentEncodingIsUnreservedPinLaw", "reference", "(I)Z"⟩ : MethodName)) hown (mvT hZ (hw _ (List.mem_of_getElem? (i := 4) rfl))) (mvT hZ (hw _ (List.mem_of_getElem? (i := 5) rfl))) (mvT hZ (hw _ (List.mem_of_getElem? (i := 6) rfl))) (mvT hZ (hw _ (List.mem_of_getElem? (i := 7) rfl))) (by decide) (backOf (W := 1) (rm2 l Z a0 hw [] (x1 &&& (255 : Int32)) h0 n0 Z0 ) hZ (hw _ (List.mem_of_getElem? (i := 7) rfl)) (hw _ (List.mem_of_getElem? (i := 6) rfl)) (by decide) (by decide)) (g := (mkF m 22 #[.val (.int x0), .val (.int x1), .val (.int (x1 &&& (255 : Int32)))] [(.int (x1 &&& (255 : Int32))), (.int (own_f (x1 &&& (255 : Int32))))])) rfl (by rw [hml]; rfl) (argsL := [(.int (x1 &&& (255 : Int32)))]) (rest := [(.int (own_f (x1 &&& (255 : Int32))))]) (lenOf pd_0 rfl) rfl (by show 2 * 0 + _ ≤ _; exact Nat.le_of_eq rfl) (hb hby at_22) (fun _ _ => ⟨rfl, e3, (by decide : 0 + 0 ≤ _), (by decide : 0 + 0 ≤ _)⟩)
  dsimp only [Pt.U, Pt.locs, Pt.cells, Pt.slots] at X4 l4 y4 z4 st4 hQ4
  subst l4 y4 z4
  obtain ⟨rfl, N4q, e4⟩ := hQ4
  have N4 := Fr.app N3 N4q
  refine own_Go.of (g' := (mkF m 25 #[.val (.int x0), .val (.int x1), .val (.int (x1 &&& (255 : Int32)))] [(.int (own_g (x1 &&& (255 : Int32)))), (.int (own_f (x1 &&& (255 : Int32))))])) (fun t k => st4 _ k) ?_
  refine og_icmpNo (pc' := 28) X4 hx (hb hby at_25) (teq (own_fg _)).2 rfl ?_
  refine og_iconst (pc' := 29) (n := 1) X4 hx (hb hby at_28) rfl rfl ?_
  refine og_goto (pc' := 33) X4 hx (hb hby at_29) (by decide) (by decide) ?_
  obtain ⟨fs, hr, hrun, hended, hW, hsame⟩ := X4.leave (v := some (.int (1 : Int32))) (fun h => by rw [Bd.returns] at h; cases h)
  refine ⟨_, _, retN X4 hx (t := .boolean) Bd.returns (by simp) (hb hby at_33) hr, hrun, hended, some (.int (1 : Int32)), _, rfl, ?_, ⟨_, rfl⟩, hW, hsame.mono (by decide) (by decide)⟩
  show Q0 Z x0 x1 h0 n0 _ T4.heap _
  rw [e4]
  exact ⟨rfl, N4⟩

set_option maxRecDepth 65536 in
set_option maxHeartbeats 40000000 in
theorem comes_1 {Post : Tables → Env → Array Value → State → Outcome → State → Prop} (hpost : ∀ tb e args s v u, (limb_1_1.after args s (.returned v) u = true ∧ limb_1_2.after args s (.returned v) u = true ∧ True) → FrameEnd s (.returned v) u (Jvm.fieldLocs frame_1_writes args s ++ Jvm.arrayLocs frame_1_arrays args s ++ Jvm.staticLocs frame_1_statics s) 0 0 → Post tb e args s (.returned v) u) :
    ArmFor flags0 classFile x code maxLocals ret World_1 tables_1 room_1 Calls_1 rest_1 Pre_1 Post := by
  intro l hfl _ _ p e ha hc hk s m args below hf hA hF happ hP
  obtain ⟨hcalls, hrest, hpre⟩ := hP
  obtain ⟨-, -, -, hnamed, -, -, -, hat⟩ := (Spec.applies_iff hf).mp happ
  obtain ⟨hg, hn⟩ := and_e (Cond.before_iff.mp (show (Jvm.Cond.and given_1 narrow_1).before args s = true from hpre))
  obtain ⟨hcnt, hg0⟩ := and_e hg
  obtain ⟨a0, hg1⟩ := and_e hg0
  obtain ⟨w0, w1, rfl⟩ : ∃ w0 w1 : Value, args = #[w0, w1] := by
    have hs : args.size = 2 := by simpa [Cond.value, given_1] using hcnt
    obtain ⟨L⟩ := args
    match L, hs with
    | [w0, w1], _ => exact ⟨w0, w1, rfl⟩
  have hw := fun d (hd : d ∈ tables_1) => atoms_spec (ws := Jvm.Cond.code x code maxLocals ret :: tables_1) hat d (List.mem_cons_of_mem _ hd)
  have hfit : Fit s := fun {y c} hc i hi => by
    obtain ⟨ha, rfl⟩ := Array.getElem?_eq_some_iff.mp hc
    have q := List.all_eq_true.mp ((Array.all_eq_true_iff_forall_mem.mp hF) _ (Array.getElem_mem ha)) i (List.mem_range.mpr hi)
    simpa [Array.getElem?_eq_getElem hi] using q
  obtain ⟨i0, ei0⟩ := is_v a0
  obtain rfl : w0 = (.int i0) := Option.some.inj ei0
  obtain ⟨i1, ei1⟩ := is_v hg1
  obtain rfl : w1 = (.int i1) := Option.some.inj ei1
  obtain ⟨n, o, h1, h2, h3, _, L, rfl, ⟨rfl, N⟩, hq⟩ := rm0 l s _ hw tables_1 i0 i1  s.heap s.heap.size (Nat.le_refl _)  p e ha hc hk s m _ below hf ((Spec.applies_iff_loose hf).mp happ).1 ⟨rfl, State.Warmed39.refl s, rfl⟩ trivial
  refine ⟨n, _, h1, h2, h3, hpost _ _ _ _ _ _ ⟨Cond.after_iff.mpr rfl, Cond.after_iff.mpr (eq_i res_at (Term.int_eval (1)) rfl), trivial⟩ ⟨hq.1, hq.2.1, (hq.2.2.sift fun y hy => Or.inr (N y hy)).mono (by decide) (by decide)⟩⟩
theorem main_1_1 : Claimed_1_1 := comes_1 fun _ _ _ _ _ _ h hF => ⟨h.1, hF⟩
theorem main_1_2 : Claimed_1_2 := comes_1 fun _ _ _ _ _ _ h hF => ⟨h.2.1, hF⟩

end Jvm.Pilot.@@N@@
namespace Jvm.Pilot.@@N@@
open Jvm Jvm.ClassFile Sem Op Lib Jvm.Free Jvm.Stand Jvm.Pilot.@@N@@.Jvm.D
/-! MADE BY PROGRAM (witnessworld.py) out of the Statement's table words and the real class files: 9 classes; the members and pool entries that the words name. The judged class is class 1, her method 2. -/
namespace start1
open Jvm.ClassFile
def u (s : String) : CpInfo := .utf8 (stringToUtf16 s)
/-- a pool by its gaps: so many unusable entries, then the entry; so many at the end -/
def gap : Nat → List CpInfo → List CpInfo
  | 0, r => r
  | n + 1, r => .unusable :: gap n r
def poolList (es : List (Nat × CpInfo)) (last : Nat) : List CpInfo := es.foldr (fun e r => gap e.1 (e.2 :: r)) (gap last [])
def pool (es : List (Nat × CpInfo)) (last : Nat) : Array CpInfo := ⟨poolList es last⟩
def fileOf (pool : Array CpInfo) (this : Nat) (attrs : Array Attribute := #[]) (ms : Array MethodInfo := #[]) (fl : Nat := 33) (sup : Nat := 0) (ifs : Array Nat := #[]) (fds : Array FieldInfo := #[]) : ClassFile where
  minorVersion := 0
  majorVersion := 65
  constantPool := pool
  accessFlags := fl
  thisClass := this
  superClass := sup
  interfaces := ifs
  fields := fds
  methods := ms
  attributes := attrs
def plain (name : String) (sup : Option ClassId) : Class where
  name := name
  kind := .ordinary
  loader := none
  accessFlags := 33
  super := sup
  interfaces := #[]
  cf := none
  fields := #[]
  methods := #[]
  instanceTypes := #[]
  staticTypes := #[]
  resolved := #[]
  callSites := []
  init := .initialized
  statics := none
  mirror := none

def pool0 : Array CpInfo := pool [(5, u "<init>"), (0, u "()V"), (1, .class_ 10), (1, u "java/lang/Object")] 113

def k0m0 : Method := { name := "<init>", desc := "()V", sig := { parameters := [], returnType := none }, accessFlags := 1, code := none }
/-- java/lang/Object -/
def k0 : Class := { plain "java/lang/Object" none with
  accessFlags := 33
  interfaces := #[]
  cf := some (fileOf pool0 8 #[] #[{ accessFlags := 1, nameIndex := 5, descriptorIndex := 6, attributes := #[] }] 33 0 #[] #[])
  fields := #[]
  methods := #[k0m0]
  instanceTypes := #[]
  staticTypes := #[]
  resolved := Array.replicate 124 none
  statics := none }

def pool1 : Array CpInfo := pool [(2, .class_ 4), (1, u "java/lang/Object"), (0, u "<init>"), (0, u "()V"), (0, .long 288054454291267584), (1, .long 5188146764422578174), (1, .methodref 12 13), (0, .class_ 14), (0, .nameAndType 15 16), (0, u "com/example/annotated_resource_router/annotatedresourcerouter/uri/PercentEncoding"), (0, u "isUnreserved"), (0, u "(I)Z"), (0, .methodref 18 19), (0, .class_ 20), (0, .nameAndType 21 16), (0, u "com/example/annotated_resource_router/annotatedresourcerouter/uri/PercentEncodingIsUnreservedPinLaw"), (0, u "reference"), (3, u "law"), (0, u "(II)Z")] 2

def k1m0 : Method := { name := "<init>", desc := "()V", sig := { parameters := [], returnType := none }, accessFlags := 2, code := none }
def k1c1 : Code := { maxStack := 4, maxLocals := 3, code := method_2_code, exceptionTable := #[], attributes := #[] }
def k1m1 : Method := { name := "reference", desc := "(I)Z", sig := { parameters := [.int], returnType := some .boolean }, accessFlags := 10, code := some k1c1 }
def k1c2 : Code := { maxStack := 2, maxLocals := 3, code := code, exceptionTable := #[], attributes := #[] }
def k1m2 : Method := { name := "law", desc := "(II)Z", sig := { parameters := [.int, .int], returnType := some .boolean }, accessFlags := 9, code := some k1c2 }
/-- com/example/annotated_resource_router/annotatedresourcerouter/uri/PercentEncodingIsUnreservedPinLaw -/
def k1 : Class := { plain "com/example/annotated_resource_router/annotatedresourcerouter/uri/PercentEncodingIsUnreservedPinLaw" (some 0) with
  accessFlags := 49
  interfaces := #[]
  cf := some (fileOf pool1 18 #[] #[{ accessFlags := 2, nameIndex := 5, descriptorIndex := 6, attributes := #[] }, { accessFlags := 10, nameIndex := 21, descriptorIndex := 16, attributes := #[] }, { accessFlags := 9, nameIndex := 25, descriptorIndex := 26, attributes := #[] }] 49 2 #[] #[])
  fields := #[]
  methods := #[k1m0, k1m1, k1m2]
  instanceTypes := #[]
  staticTypes := #[]
  resolved := Array.replicate 29 none
  statics := none }

def pool2 : Array CpInfo := pool [(2, .class_ 4), (1, u "java/lang/Object"), (0, u "<init>"), (0, u "()V"), (22, .class_ 31), (1, u "com/example/annotated_resource_router/annotatedresourcerouter/uri/PercentEncoding"), (0, u "isUnreserved"), (0, u "(I)Z"), (17, .class_ 53), (1, u "com/example/annotated_resource_router/annotatedresourcerouter/uri/PercentEncoding$Component"), (76, u "HEX_DIGITS"), (0, u "[C")] 34

def k2m0 : Method := { name := "<init>", desc := "()V", sig := { parameters := [], returnType := none }, accessFlags := 2, code := none }
def k2c1 : Code := { maxStack := 2, maxLocals := 1, code := prog_41_method_9_code, exceptionTable := #[], attributes := #[] }
def k2m1 : Method := { name := "isUnreserved", desc := "(I)Z", sig := { parameters := [.int], returnType := some .boolean }, accessFlags := 8, code := some k2c1 }
/-- com/example/annotated_resource_router/annotatedresourcerouter/uri/PercentEncoding -/
def k2 : Class := { plain "com/example/annotated_resource_router/annotatedresourcerouter/uri/PercentEncoding" (some 0) with
  accessFlags := 33
  interfaces := #[]
  cf := some (fileOf pool2 29 #[.nestMembers #[51]] #[{ accessFlags := 2, nameIndex := 5, descriptorIndex := 6, attributes := #[] }, { accessFlags := 8, nameIndex := 32, descriptorIndex := 33, attributes := #[] }] 33 2 #[] #[{ accessFlags := 26, nameIndex := 130, descriptorIndex := 131, attributes := #[] }])
  fields := #[{ name := "HEX_DIGITS", type := (.array .char), accessFlags := 26, slot := 0, constantValue := 0 }]
  methods := #[k2m0, k2m1]
  instanceTypes := #[]
  staticTypes := #[(.array .char)]
  resolved := Array.replicate 166 none
  statics := none }

def pool3 : Array CpInfo := pool [(1, u "java/lang/Cloneable"), (0, .class_ 1), (0, u "java/lang/Object"), (0, .class_ 3)] 3

/-- java/lang/Cloneable -/
def k3 : Class := { plain "java/lang/Cloneable" (some 0) with
  accessFlags := 1537
  interfaces := #[]
  cf := some (fileOf pool3 2 #[] #[] 1537 4 #[] #[])
  fields := #[]
  methods := #[]
  instanceTypes := #[]
  staticTypes := #[]
  resolved := Array.replicate 8 none
  statics := none }

def pool4 : Array CpInfo := pool [(1, u "java/io/Serializable"), (0, .class_ 1), (0, u "java/lang/Object"), (0, .class_ 3)] 3

/-- java/io/Serializable -/
def k4 : Class := { plain "java/io/Serializable" (some 0) with
  accessFlags := 1537
  interfaces := #[]
  cf := some (fileOf pool4 2 #[] #[] 1537 4 #[] #[])
  fields := #[]
  methods := #[]
  instanceTypes := #[]
  staticTypes := #[]
  resolved := Array.replicate 8 none
  statics := none }

/-- the primitive byte -/
def k5 : Class := { plain "byte" none with kind := .primitive 'B', accessFlags := 0x411 }
/-- [B -/
def k6 : Class := { plain "[B" (some 0) with kind := .array 5 .byte, interfaces := #[3, 4], accessFlags := 1041 }

/-- the primitive int -/
def k7 : Class := { plain "int" none with kind := .primitive 'I', accessFlags := 0x411 }
/-- [I -/
def k8 : Class := { plain "[I" (some 0) with kind := .array 7 .int, interfaces := #[3, 4], accessFlags := 1041 }

def heap : Heap := #[]
def classes : Array Class := #[k0, k1, k2, k3, k4, k5, k6, k7, k8]
def interned : List (Array UInt16 × Addr) := []
def slotsUsed : Nat := 0
def theMethod : MethodId := ⟨1, 2⟩
def args0 : Array Value := #[.int 5, .int 300]
def aboutOver (below : List Frame) : State where
  vm := { classes := classes, interned := interned.toArray }
  heap := heap
  slotsUsed := slotsUsed
  threads := #[{ frames := .invoking theMethod args0 :: below }]
def below0 : List Frame := [.native { method := ⟨0, 0⟩, args := #[] }]
def about1 : State := aboutOver below0
def p0 : Program := .bare "" "" ""
def e0 : Env := launch0.env 0 0 0
theorem w_frames : about1.frames = Frame.invoking theMethod args0 :: below0 := rfl
set_option maxRecDepth 65536 in
theorem w_args : argsFit about1.vm theMethod args0 = true := by decide +kernel
set_option maxRecDepth 65536 in
theorem w_heap : heapFits about1 = true := by decide +kernel
set_option maxRecDepth 65536 in
theorem w_runnable : about1.curStatus? = some .runnable := by decide +kernel
set_option maxRecDepth 65536 in
theorem w_alone : about1.alone = true := by decide +kernel
set_option maxRecDepth 65536 in
theorem w_named : about1.methodNamed? x = some theMethod := by decide +kernel
set_option maxRecDepth 65536 in
theorem w_hears : about1.hears theMethod below0 = true := by decide +kernel
set_option maxRecDepth 65536 in
theorem w_ripe : about1.ripe theMethod args0 below0 = true := by decide +kernel
theorem w_running : about1.status = .running := rfl
set_option maxRecDepth 65536 in
theorem w_room : about1.hasRoom e0.platform room_1 = true :=
  launch0.hasRoom_least _ room_1 (by decide +kernel) (by decide +kernel) (by decide +kernel) (by decide +kernel) (by decide +kernel) (by decide +kernel)
theorem allAtoms_all (ts : List Jvm.Cond) (a : Array Jvm.Value) (st : Jvm.State) : (allAtoms ts).before a st = ts.all (fun c => c.before a st) := by
  induction ts with
  | nil => rfl
  | cons c t ih =>
    show (Jvm.Cond.and c (allAtoms t)).before a st = _
    rw [Jvm.Cond.before_and, ih, List.all_cons]
def words1 : List Jvm.Cond := Jvm.Cond.code x code maxLocals ret :: tables_1
/-- a 'code' word, met by the world's own term for the bytes: nothing is compared byte by byte -/
theorem code_word {y : MethodName} {bytes : ByteArray} {mx : Nat} {rt : Option FieldType} {a : Array Value} {s : State} {m : MethodId} {meth : Method} {c : Code} (h1 : s.methodNamed? y = some m) (h2 : s.vm.method? m = some meth) (h3 : meth.code = some c) (h4 : c.code = bytes)
    (h5 : (c.maxLocals == mx && c.exceptionTable.isEmpty && decide (c.maxStack ≤ mostOperands) && decide (meth.sig.returnType = rt) && !meth.locks && decide (parseMethodDescriptor y.desc = some meth.sig)) = true) : (Jvm.Cond.code y bytes mx rt).before a s = true := by
  simp only [Bool.and_eq_true, beq_iff_eq, Bool.not_eq_true', decide_eq_true_eq] at h5
  obtain ⟨⟨⟨⟨⟨g1, g2⟩, g3⟩, g4⟩, g5⟩, g6⟩ := h5
  simp [Cond.before, Cond.holds, Cond.value, h1, h2, h3, h4, g1, g2, g3, g4, g5, g6]
def isCode : Jvm.Cond → Bool
  | .code _ _ _ _ => true
  | _ => false
theorem all_split {L : List Jvm.Cond} {P : Jvm.Cond → Bool} (h1 : L.all (fun c => isCode c || P c) = true) (h2 : ∀ c ∈ L.filter isCode, P c = true) : L.all P = true := by
  refine List.all_eq_true.mpr fun c hc => ?_
  have h := List.all_eq_true.mp h1 c hc
  rcases Bool.eq_false_or_eq_true (isCode c) with hi | hi
  · exact h2 c (List.mem_filter.mpr ⟨hc, hi⟩)
  · simpa [hi] using h
set_option maxRecDepth 65536 in
theorem w_c0 : (Jvm.Cond.code x code maxLocals ret).before args0 about1 = true := code_word (m := ⟨1, 2⟩) (meth := k1m2) (c := k1c2) (by decide +kernel) rfl rfl rfl (by decide +kernel)
set_option maxRecDepth 65536 in
theorem w_c1 : (Jvm.Cond.code ({ cls := "com/example/annotated_resource_router/annotatedresourcerouter/uri/PercentEncoding", name := "isUnreserved", desc := "(I)Z" } : Jvm.MethodName) prog_41_method_9_code (1 : Nat) (Option.some Jvm.ClassFile.FieldType.boolean)).before args0 about1 = true := code_word (m := ⟨2, 1⟩) (meth := k2m1) (c := k2c1) (by decide +kernel) rfl rfl rfl (by decide +kernel)
set_option maxRecDepth 65536 in
theorem w_c2 : (Jvm.Cond.code ({ cls := "com/example/annotated_resource_router/annotatedresourcerouter/uri/PercentEncodingIsUnreservedPinLaw", name := "reference", desc := "(I)Z" } : Jvm.MethodName) method_2_code (3 : Nat) (Option.some Jvm.ClassFile.FieldType.boolean)).before args0 about1 = true := code_word (m := ⟨1, 1⟩) (meth := k1m1) (c := k1c1) (by decide +kernel) rfl rfl rfl (by decide +kernel)
def codes1 : List Jvm.Cond := [Jvm.Cond.code x code maxLocals ret, Jvm.Cond.code ({ cls := "com/example/annotated_resource_router/annotatedresourcerouter/uri/PercentEncoding", name := "isUnreserved", desc := "(I)Z" } : Jvm.MethodName) prog_41_method_9_code (1 : Nat) (Option.some Jvm.ClassFile.FieldType.boolean), Jvm.Cond.code ({ cls := "com/example/annotated_resource_router/annotatedresourcerouter/uri/PercentEncodingIsUnreservedPinLaw", name := "reference", desc := "(I)Z" } : Jvm.MethodName) method_2_code (3 : Nat) (Option.some Jvm.ClassFile.FieldType.boolean)]
set_option maxRecDepth 65536 in
theorem codes_eq : words1.filter isCode = codes1 := rfl
theorem w_codes : ∀ c ∈ words1.filter isCode, c.before args0 about1 = true := by
  rw [codes_eq]
  intro c hc
  simp only [codes1, List.mem_cons, List.not_mem_nil, or_false] at hc
  rcases hc with rfl | rfl | rfl
  · exact w_c0
  · exact w_c1
  · exact w_c2
set_option maxRecDepth 65536 in
theorem w_t1 : words1.all (fun c => isCode c || c.before args0 about1) = true := by decide +kernel
theorem w_tables : (allAtoms (Jvm.Cond.code x code maxLocals ret :: tables_1)).before args0 about1 = true := by
  rw [allAtoms_all]
  show words1.all (fun c => c.before args0 about1) = true
  refine all_split ?_ w_codes
  rw [w_t1]
set_option maxRecDepth 65536 in
theorem w_case : (Jvm.Cond.and given_1 narrow_1).before args0 about1 = true := by decide +kernel
theorem w_applies : (headSpec (Jvm.Cond.code x code maxLocals ret :: tables_1) room_1).applies x e0.platform about1 = true :=
  (Spec.applies_iff w_frames).mpr ⟨w_running, w_runnable, w_alone, w_named, w_hears, w_ripe, w_room, w_tables⟩
theorem atStart : AtStart classFile x code maxLocals ret World_1 tables_1 room_1 Calls_1 rest_1 Pre_1 launch0 p0 e0 about1 theMethod args0 below0 :=
  ⟨lists_1, trivial, launch0.admits_env _ _ _, launch0.least_env, fairChoices_fair.cas, fairChoices_fair.clock, w_frames, w_args, w_heap, w_applies, trivial, trivial, w_case⟩
end start1
theorem witness_1 : WitnessClaimed_1 := ⟨start1.p0, start1.e0, start1.about1, start1.theMethod, start1.args0, start1.below0, start1.atStart⟩
end Jvm.Pilot.@@N@@
