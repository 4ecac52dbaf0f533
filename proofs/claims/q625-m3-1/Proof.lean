import JvmDerived
import JvmDerived.Pilot.@@N@@Statement
import JvmDerived.Pilot.@@N@@Code
set_option linter.unusedVariables false
set_option linter.unusedSimpArgs false

namespace Jvm.RoadKit
open Sem ClassFile Op Lib Jvm.Stand Jvm.Free Jvm.LawKit
section New
variable {p : Program} {l : Launch} {e : Env} {R : Room} {s : State} {m : MethodId} {args : Array Value} {below : List Frame} {meth : Method} {c : Code} {T : State} {locs : List Loc} {cells slots : Nat}
theorem retI (X : Stand p l e R s m args below meth c T locs cells slots) (hx : p.tables.exec = Jvm.exec) {pc : Nat} {Ls : Array Slot} {z : Int32} {rest : List Value} (hret : meth.sig.returnType = some .int) (hd : decode c.code pc = .ok (.ireturn, 1)) {fs : List Frame}
    (hl : ∀ (f : JFrame) (acts : List Action), f.method = m → f.locked = none → f.entered = [] → (doReturn e (T.setTop f) acts (some (.int z))).1 = T.setFrames fs) : Steps p.tables e below (T.setTop (mkF m pc Ls (.int z :: rest))) (T.setFrames fs) := by
  have hm' : T.vm.method? m = some meth := X.method'
  have hn : narrow .int (.int z) = .int z := rfl
  show Steps p.tables e below (T.setTop { method := m, pc := pc, locals := Ls, stack := _ :: rest, locked := none }) _
  jvm_step X.here [X.here.top, hx, hd, hm', hret, hn]
  first | (intro acts; rw [hl _ acts rfl rfl rfl]) | rw [hl _ _ rfl rfl rfl]
  exact Steps.refl _
theorem retL (X : Stand p l e R s m args below meth c T locs cells slots) (hx : p.tables.exec = Jvm.exec) {pc : Nat} {Ls : Array Slot} {z : Int64} {rest : List Value} (hret : meth.sig.returnType = some .long) (hd : decode c.code pc = .ok (.lreturn, 1)) {fs : List Frame}
    (hl : ∀ (f : JFrame) (acts : List Action), f.method = m → f.locked = none → f.entered = [] → (doReturn e (T.setTop f) acts (some (.long z))).1 = T.setFrames fs) : Steps p.tables e below (T.setTop (mkF m pc Ls (.long z :: rest))) (T.setFrames fs) := by
  have hm' : T.vm.method? m = some meth := X.method'
  have hn : narrow .long (.long z) = .long z := rfl
  show Steps p.tables e below (T.setTop { method := m, pc := pc, locals := Ls, stack := _ :: rest, locked := none }) _
  jvm_step X.here [X.here.top, hx, hd, hm', hret, hn]
  first | (intro acts; rw [hl _ acts rfl rfl rfl]) | rw [hl _ _ rfl rfl rfl]
  exact Steps.refl _
end New
end Jvm.RoadKit
namespace Jvm.Pilot.@@N@@
open Jvm Jvm.ClassFile Sem Op Lib Jvm.Free Jvm.Stand Jvm.LawKit Jvm.RoadKit Bundle Jvm.Pilot.@@N@@.Jvm.D
/-- from here the run comes to an end of which W holds -/
def own_Go (p : Program) (e : Env) (below : List Frame) (W : State → Outcome → Prop) (T : State) (g : JFrame) : Prop :=
  ∃ s₂ o, Steps p.tables e below (T.setTop g) s₂ ∧ s₂.status = .running ∧ Ended s₂ below o ∧ W s₂ o
theorem own_Go.of {p : Program} {e : Env} {below : List Frame} {W : State → Outcome → Prop} {T T' : State} {g g' : JFrame} (f : ∀ t, Steps p.tables e below (T'.setTop g') t → Steps p.tables e below (T.setTop g) t) (k : own_Go p e below W T' g') : own_Go p e below W T g := by
  obtain ⟨s₂, o, h1, h2⟩ := k
  exact ⟨s₂, o, f _ h1, h2⟩
theorem own_via {G A : Prop} (h1 : A → G) (h2 : A) : G := h1 h2
section OwnSteps
variable {p : Program} {l : Launch} {e : Env} {R : Room} {s : State} {m : MethodId} {args : Array Value} {below : List Frame} {meth : Method} {c : Code} {T : State} {locs : List Loc} {cells slots : Nat} {W : State → Outcome → Prop} {pc pc' : Nat} {L : Array Slot} {S : List Value}
theorem og_iloadN (X : Stand p l e R s m args below meth c T locs cells slots) (hx : p.tables.exec = Jvm.exec) {k : Fin 4} {v : Int32} (hd : decode c.code pc = .ok (.iload_n k, 1)) (hl : L[k.val]? = some (.val (.int v))) (hp : pc + 1 = pc') (h : own_Go p e below W T (mkF m pc' L ((.int v) :: S))) : own_Go p e below W T (mkF m pc L S) := by
  subst hp; exact own_Go.of (fun t q => XS.iloadN X.here hx rfl hd hl q) h
theorem og_iload (X : Stand p l e R s m args below meth c T locs cells slots) (hx : p.tables.exec = Jvm.exec) {k : Nat} {v : Int32} (hd : decode c.code pc = .ok (.iload k, 2)) (hl : L[k]? = some (.val (.int v))) (hp : pc + 2 = pc') (h : own_Go p e below W T (mkF m pc' L ((.int v) :: S))) : own_Go p e below W T (mkF m pc L S) := by
  subst hp; exact own_Go.of (fun t q => XS.iload X.here hx rfl hd hl q) h
theorem og_istoreN (X : Stand p l e R s m args below meth c T locs cells slots) (hx : p.tables.exec = Jvm.exec) {k : Fin 4} {v : Int32} {L' : Array Slot} (hd : decode c.code pc = .ok (.istore_n k, 1)) (hl : storeLocals L k.val (.int v) = some L') (hp : pc + 1 = pc') (h : own_Go p e below W T (mkF m pc' L' S)) : own_Go p e below W T (mkF m pc L ((.int v) :: S)) := by
  subst hp; exact own_Go.of (fun t q => XS.istoreN X.here hx rfl hd rfl hl q) h
theorem og_istore (X : Stand p l e R s m args below meth c T locs cells slots) (hx : p.tables.exec = Jvm.exec) {k : Nat} {v : Int32} {L' : Array Slot} (hd : decode c.code pc = .ok (.istore k, 2)) (hl : storeLocals L k (.int v) = some L') (hp : pc + 2 = pc') (h : own_Go p e below W T (mkF m pc' L' S)) : own_Go p e below W T (mkF m pc L ((.int v) :: S)) := by
  subst hp; exact own_Go.of (fun t q => XS.istore X.here hx rfl hd rfl hl q) h
theorem og_lloadN (X : Stand p l e R s m args below meth c T locs cells slots) (hx : p.tables.exec = Jvm.exec) {k : Fin 4} {v : Int64} (hd : decode c.code pc = .ok (.lload_n k, 1)) (hl : L[k.val]? = some (.val (.long v))) (hp : pc + 1 = pc') (h : own_Go p e below W T (mkF m pc' L ((.long v) :: S))) : own_Go p e below W T (mkF m pc L S) := by
  subst hp; exact own_Go.of (fun t q => XS.lloadN X.here hx rfl hd hl q) h
theorem og_lload (X : Stand p l e R s m args below meth c T locs cells slots) (hx : p.tables.exec = Jvm.exec) {k : Nat} {v : Int64} (hd : decode c.code pc = .ok (.lload k, 2)) (hl : L[k]? = some (.val (.long v))) (hp : pc + 2 = pc') (h : own_Go p e below W T (mkF m pc' L ((.long v) :: S))) : own_Go p e below W T (mkF m pc L S) := by
  subst hp; exact own_Go.of (fun t q => XS.lload X.here hx rfl hd hl q) h
theorem og_lstoreN (X : Stand p l e R s m args below meth c T locs cells slots) (hx : p.tables.exec = Jvm.exec) {k : Fin 4} {v : Int64} {L' : Array Slot} (hd : decode c.code pc = .ok (.lstore_n k, 1)) (hl : storeLocals L k.val (.long v) = some L') (hp : pc + 1 = pc') (h : own_Go p e below W T (mkF m pc' L' S)) : own_Go p e below W T (mkF m pc L ((.long v) :: S)) := by
  subst hp; exact own_Go.of (fun t q => XS.lstoreN X.here hx rfl hd rfl hl q) h
theorem og_lstore (X : Stand p l e R s m args below meth c T locs cells slots) (hx : p.tables.exec = Jvm.exec) {k : Nat} {v : Int64} {L' : Array Slot} (hd : decode c.code pc = .ok (.lstore k, 2)) (hl : storeLocals L k (.long v) = some L') (hp : pc + 2 = pc') (h : own_Go p e below W T (mkF m pc' L' S)) : own_Go p e below W T (mkF m pc L ((.long v) :: S)) := by
  subst hp; exact own_Go.of (fun t q => XS.lstore X.here hx rfl hd rfl hl q) h
theorem og_aloadN (X : Stand p l e R s m args below meth c T locs cells slots) (hx : p.tables.exec = Jvm.exec) {k : Fin 4} {v : Value} (hd : decode c.code pc = .ok (.aload_n k, 1)) (hl : L[k.val]? = some (.val v)) (hv : v.isRef = true) (hp : pc + 1 = pc') (h : own_Go p e below W T (mkF m pc' L (v :: S))) : own_Go p e below W T (mkF m pc L S) := by
  subst hp; exact own_Go.of (fun t q => XS.aloadN X.here hx rfl hd hl hv q) h
theorem og_aload (X : Stand p l e R s m args below meth c T locs cells slots) (hx : p.tables.exec = Jvm.exec) {k : Nat} {v : Value} (hd : decode c.code pc = .ok (.aload k, 2)) (hl : L[k]? = some (.val v)) (hv : v.isRef = true) (hp : pc + 2 = pc') (h : own_Go p e below W T (mkF m pc' L (v :: S))) : own_Go p e below W T (mkF m pc L S) := by
  subst hp; exact own_Go.of (fun t q => XS.aload X.here hx rfl hd hl hv q) h
theorem og_astoreN (X : Stand p l e R s m args below meth c T locs cells slots) (hx : p.tables.exec = Jvm.exec) {k : Fin 4} {v : Value} {L' : Array Slot} (hd : decode c.code pc = .ok (.astore_n k, 1)) (hv : v.isRef = true) (hl : storeLocals L k.val v = some L') (hp : pc + 1 = pc') (h : own_Go p e below W T (mkF m pc' L' S)) : own_Go p e below W T (mkF m pc L (v :: S)) := by
  subst hp; exact own_Go.of (fun t q => XS.astoreN X.here hx rfl hd rfl hv hl q) h
theorem og_astore (X : Stand p l e R s m args below meth c T locs cells slots) (hx : p.tables.exec = Jvm.exec) {k : Nat} {v : Value} {L' : Array Slot} (hd : decode c.code pc = .ok (.astore k, 2)) (hv : v.isRef = true) (hl : storeLocals L k v = some L') (hp : pc + 2 = pc') (h : own_Go p e below W T (mkF m pc' L' S)) : own_Go p e below W T (mkF m pc L (v :: S)) := by
  subst hp; exact own_Go.of (fun t q => XS.astore X.here hx rfl hd rfl hv hl q) h
theorem og_iconst (X : Stand p l e R s m args below meth c T locs cells slots) (hx : p.tables.exec = Jvm.exec) {i : Int} {n : Int32} (hd : decode c.code pc = .ok (.iconst i, 1)) (hn : Int32.ofInt i = n) (hp : pc + 1 = pc') (h : own_Go p e below W T (mkF m pc' L (.int n :: S))) : own_Go p e below W T (mkF m pc L S) := by
  subst hp hn; exact own_Go.of (fun t q => XS.iconst X.here hx rfl hd q) h
theorem og_bipush (X : Stand p l e R s m args below meth c T locs cells slots) (hx : p.tables.exec = Jvm.exec) {i : Int} {n : Int32} (hd : decode c.code pc = .ok (.bipush i, 2)) (hn : (Int8.ofInt i).toInt32 = n) (hp : pc + 2 = pc') (h : own_Go p e below W T (mkF m pc' L (.int n :: S))) : own_Go p e below W T (mkF m pc L S) := by
  subst hp hn; exact own_Go.of (fun t q => XS.bipush X.here hx rfl hd q) h
theorem og_sipush (X : Stand p l e R s m args below meth c T locs cells slots) (hx : p.tables.exec = Jvm.exec) {i : Int} {n : Int32} (hd : decode c.code pc = .ok (.sipush i, 3)) (hn : (Int16.ofInt i).toInt32 = n) (hp : pc + 3 = pc') (h : own_Go p e below W T (mkF m pc' L (.int n :: S))) : own_Go p e below W T (mkF m pc L S) := by
  subst hp hn; exact own_Go.of (fun t q => XS.sipush X.here hx rfl hd q) h
theorem og_lconst0 (X : Stand p l e R s m args below meth c T locs cells slots) (hx : p.tables.exec = Jvm.exec) (hd : decode c.code pc = .ok (.lconst 0, 1)) (hp : pc + 1 = pc') (h : own_Go p e below W T (mkF m pc' L (.long (0 : Int64) :: S))) : own_Go p e below W T (mkF m pc L S) := by
  subst hp; exact own_Go.of (fun t q => XS.lconst X.here hx rfl hd q) h
theorem og_lconst1 (X : Stand p l e R s m args below meth c T locs cells slots) (hx : p.tables.exec = Jvm.exec) (hd : decode c.code pc = .ok (.lconst 1, 1)) (hp : pc + 1 = pc') (h : own_Go p e below W T (mkF m pc' L (.long (1 : Int64) :: S))) : own_Go p e below W T (mkF m pc L S) := by
  subst hp; exact own_Go.of (fun t q => XS.lconst X.here hx rfl hd q) h
theorem og_aconst_null (X : Stand p l e R s m args below meth c T locs cells slots) (hx : p.tables.exec = Jvm.exec)  (hd : decode c.code pc = .ok (.aconst_null, 1)) (hp : pc + 1 = pc') (h : own_Go p e below W T (mkF m pc' L (.null :: S))) : own_Go p e below W T (mkF m pc L S) := by
  subst hp; exact own_Go.of (fun t q => XS.aconstNull X.here hx rfl hd q) h
theorem og_iadd (X : Stand p l e R s m args below meth c T locs cells slots) (hx : p.tables.exec = Jvm.exec) {x y : Int32} (hd : decode c.code pc = .ok (.iadd, 1)) (hp : pc + 1 = pc') (h : own_Go p e below W T (mkF m pc' L (.int (x + y) :: S))) : own_Go p e below W T (mkF m pc L (.int y :: .int x :: S)) := by
  subst hp; exact own_Go.of (fun t q => XS.iadd X.here hx rfl hd rfl q) h
theorem og_ladd (X : Stand p l e R s m args below meth c T locs cells slots) (hx : p.tables.exec = Jvm.exec) {x y : Int64} (hd : decode c.code pc = .ok (.ladd, 1)) (hp : pc + 1 = pc') (h : own_Go p e below W T (mkF m pc' L (.long (x + y) :: S))) : own_Go p e below W T (mkF m pc L (.long y :: .long x :: S)) := by
  subst hp; exact own_Go.of (fun t q => XS.ladd X.here hx rfl hd rfl q) h
theorem og_isub (X : Stand p l e R s m args below meth c T locs cells slots) (hx : p.tables.exec = Jvm.exec) {x y : Int32} (hd : decode c.code pc = .ok (.isub, 1)) (hp : pc + 1 = pc') (h : own_Go p e below W T (mkF m pc' L (.int (x - y) :: S))) : own_Go p e below W T (mkF m pc L (.int y :: .int x :: S)) := by
  subst hp; exact own_Go.of (fun t q => XS.isub X.here hx rfl hd rfl q) h
theorem og_lsub (X : Stand p l e R s m args below meth c T locs cells slots) (hx : p.tables.exec = Jvm.exec) {x y : Int64} (hd : decode c.code pc = .ok (.lsub, 1)) (hp : pc + 1 = pc') (h : own_Go p e below W T (mkF m pc' L (.long (x - y) :: S))) : own_Go p e below W T (mkF m pc L (.long y :: .long x :: S)) := by
  subst hp; exact own_Go.of (fun t q => XS.lsub X.here hx rfl hd rfl q) h
theorem og_imul (X : Stand p l e R s m args below meth c T locs cells slots) (hx : p.tables.exec = Jvm.exec) {x y : Int32} (hd : decode c.code pc = .ok (.imul, 1)) (hp : pc + 1 = pc') (h : own_Go p e below W T (mkF m pc' L (.int (x * y) :: S))) : own_Go p e below W T (mkF m pc L (.int y :: .int x :: S)) := by
  subst hp; exact own_Go.of (fun t q => XS.imul X.here hx rfl hd rfl q) h
theorem og_lmul (X : Stand p l e R s m args below meth c T locs cells slots) (hx : p.tables.exec = Jvm.exec) {x y : Int64} (hd : decode c.code pc = .ok (.lmul, 1)) (hp : pc + 1 = pc') (h : own_Go p e below W T (mkF m pc' L (.long (x * y) :: S))) : own_Go p e below W T (mkF m pc L (.long y :: .long x :: S)) := by
  subst hp; exact own_Go.of (fun t q => XS.lmul X.here hx rfl hd rfl q) h
theorem og_iand (X : Stand p l e R s m args below meth c T locs cells slots) (hx : p.tables.exec = Jvm.exec) {x y : Int32} (hd : decode c.code pc = .ok (.iand, 1)) (hp : pc + 1 = pc') (h : own_Go p e below W T (mkF m pc' L (.int (x &&& y) :: S))) : own_Go p e below W T (mkF m pc L (.int y :: .int x :: S)) := by
  subst hp; exact own_Go.of (fun t q => XS.iand X.here hx rfl hd rfl q) h
theorem og_land (X : Stand p l e R s m args below meth c T locs cells slots) (hx : p.tables.exec = Jvm.exec) {x y : Int64} (hd : decode c.code pc = .ok (.land, 1)) (hp : pc + 1 = pc') (h : own_Go p e below W T (mkF m pc' L (.long (x &&& y) :: S))) : own_Go p e below W T (mkF m pc L (.long y :: .long x :: S)) := by
  subst hp; exact own_Go.of (fun t q => XS.land X.here hx rfl hd rfl q) h
theorem og_ior (X : Stand p l e R s m args below meth c T locs cells slots) (hx : p.tables.exec = Jvm.exec) {x y : Int32} (hd : decode c.code pc = .ok (.ior, 1)) (hp : pc + 1 = pc') (h : own_Go p e below W T (mkF m pc' L (.int (x ||| y) :: S))) : own_Go p e below W T (mkF m pc L (.int y :: .int x :: S)) := by
  subst hp; exact own_Go.of (fun t q => XS.ior X.here hx rfl hd rfl q) h
theorem og_lor (X : Stand p l e R s m args below meth c T locs cells slots) (hx : p.tables.exec = Jvm.exec) {x y : Int64} (hd : decode c.code pc = .ok (.lor, 1)) (hp : pc + 1 = pc') (h : own_Go p e below W T (mkF m pc' L (.long (x ||| y) :: S))) : own_Go p e below W T (mkF m pc L (.long y :: .long x :: S)) := by
  subst hp; exact own_Go.of (fun t q => XS.lor X.here hx rfl hd rfl q) h
theorem og_ixor (X : Stand p l e R s m args below meth c T locs cells slots) (hx : p.tables.exec = Jvm.exec) {x y : Int32} (hd : decode c.code pc = .ok (.ixor, 1)) (hp : pc + 1 = pc') (h : own_Go p e below W T (mkF m pc' L (.int (x ^^^ y) :: S))) : own_Go p e below W T (mkF m pc L (.int y :: .int x :: S)) := by
  subst hp; exact own_Go.of (fun t q => XS.ixor X.here hx rfl hd rfl q) h
theorem og_lxor (X : Stand p l e R s m args below meth c T locs cells slots) (hx : p.tables.exec = Jvm.exec) {x y : Int64} (hd : decode c.code pc = .ok (.lxor, 1)) (hp : pc + 1 = pc') (h : own_Go p e below W T (mkF m pc' L (.long (x ^^^ y) :: S))) : own_Go p e below W T (mkF m pc L (.long y :: .long x :: S)) := by
  subst hp; exact own_Go.of (fun t q => XS.lxor X.here hx rfl hd rfl q) h
theorem og_ineg (X : Stand p l e R s m args below meth c T locs cells slots) (hx : p.tables.exec = Jvm.exec) {x : Int32} (hd : decode c.code pc = .ok (.ineg, 1)) (hp : pc + 1 = pc') (h : own_Go p e below W T (mkF m pc' L (.int (-x) :: S))) : own_Go p e below W T (mkF m pc L (.int x :: S)) := by
  subst hp; exact own_Go.of (fun t q => XS.ineg X.here hx rfl hd rfl q) h
theorem og_lneg (X : Stand p l e R s m args below meth c T locs cells slots) (hx : p.tables.exec = Jvm.exec) {x : Int64} (hd : decode c.code pc = .ok (.lneg, 1)) (hp : pc + 1 = pc') (h : own_Go p e below W T (mkF m pc' L (.long (-x) :: S))) : own_Go p e below W T (mkF m pc L (.long x :: S)) := by
  subst hp; exact own_Go.of (fun t q => XS.lneg X.here hx rfl hd rfl q) h
theorem og_i2l (X : Stand p l e R s m args below meth c T locs cells slots) (hx : p.tables.exec = Jvm.exec) {x : Int32} (hd : decode c.code pc = .ok (.i2l, 1)) (hp : pc + 1 = pc') (h : own_Go p e below W T (mkF m pc' L (.long (x.toInt64) :: S))) : own_Go p e below W T (mkF m pc L (.int x :: S)) := by
  subst hp; exact own_Go.of (fun t q => XS.i2l X.here hx rfl hd rfl q) h
theorem og_l2i (X : Stand p l e R s m args below meth c T locs cells slots) (hx : p.tables.exec = Jvm.exec) {x : Int64} (hd : decode c.code pc = .ok (.l2i, 1)) (hp : pc + 1 = pc') (h : own_Go p e below W T (mkF m pc' L (.int (x.toInt32) :: S))) : own_Go p e below W T (mkF m pc L (.long x :: S)) := by
  subst hp; exact own_Go.of (fun t q => XS.l2i X.here hx rfl hd rfl q) h
theorem og_i2b (X : Stand p l e R s m args below meth c T locs cells slots) (hx : p.tables.exec = Jvm.exec) {x : Int32} (hd : decode c.code pc = .ok (.i2b, 1)) (hp : pc + 1 = pc') (h : own_Go p e below W T (mkF m pc' L (.int (x.toInt8.toInt32) :: S))) : own_Go p e below W T (mkF m pc L (.int x :: S)) := by
  subst hp; exact own_Go.of (fun t q => XS.i2b X.here hx rfl hd rfl q) h
theorem og_i2s (X : Stand p l e R s m args below meth c T locs cells slots) (hx : p.tables.exec = Jvm.exec) {x : Int32} (hd : decode c.code pc = .ok (.i2s, 1)) (hp : pc + 1 = pc') (h : own_Go p e below W T (mkF m pc' L (.int (x.toInt16.toInt32) :: S))) : own_Go p e below W T (mkF m pc L (.int x :: S)) := by
  subst hp; exact own_Go.of (fun t q => XS.i2s X.here hx rfl hd rfl q) h
theorem og_i2c (X : Stand p l e R s m args below meth c T locs cells slots) (hx : p.tables.exec = Jvm.exec) {x : Int32} (hd : decode c.code pc = .ok (.i2c, 1)) (hp : pc + 1 = pc') (h : own_Go p e below W T (mkF m pc' L (.int (x.toUInt32.toUInt16.toUInt32.toInt32) :: S))) : own_Go p e below W T (mkF m pc L (.int x :: S)) := by
  subst hp; exact own_Go.of (fun t q => XS.i2c X.here hx rfl hd rfl q) h
theorem og_ishl (X : Stand p l e R s m args below meth c T locs cells slots) (hx : p.tables.exec = Jvm.exec) {x : Int32} {y : Int32} (hd : decode c.code pc = .ok (.ishl, 1)) (hp : pc + 1 = pc') (h : own_Go p e below W T (mkF m pc' L (.int (x <<< (y &&& 31)) :: S))) : own_Go p e below W T (mkF m pc L (.int y :: .int x :: S)) := by
  subst hp; exact own_Go.of (fun t q => XS.ishl X.here hx rfl hd rfl q) h
theorem og_ishr (X : Stand p l e R s m args below meth c T locs cells slots) (hx : p.tables.exec = Jvm.exec) {x : Int32} {y : Int32} (hd : decode c.code pc = .ok (.ishr, 1)) (hp : pc + 1 = pc') (h : own_Go p e below W T (mkF m pc' L (.int (x >>> (y &&& 31)) :: S))) : own_Go p e below W T (mkF m pc L (.int y :: .int x :: S)) := by
  subst hp; exact own_Go.of (fun t q => XS.ishr X.here hx rfl hd rfl q) h
theorem og_iushr (X : Stand p l e R s m args below meth c T locs cells slots) (hx : p.tables.exec = Jvm.exec) {x : Int32} {y : Int32} (hd : decode c.code pc = .ok (.iushr, 1)) (hp : pc + 1 = pc') (h : own_Go p e below W T (mkF m pc' L (.int ((x.toUInt32 >>> (y &&& 31).toUInt32).toInt32) :: S))) : own_Go p e below W T (mkF m pc L (.int y :: .int x :: S)) := by
  subst hp; exact own_Go.of (fun t q => XS.iushr X.here hx rfl hd rfl q) h
theorem og_lshl (X : Stand p l e R s m args below meth c T locs cells slots) (hx : p.tables.exec = Jvm.exec) {x : Int64} {y : Int32} (hd : decode c.code pc = .ok (.lshl, 1)) (hp : pc + 1 = pc') (h : own_Go p e below W T (mkF m pc' L (.long (x <<< (y &&& 0x3f).toInt64) :: S))) : own_Go p e below W T (mkF m pc L (.int y :: .long x :: S)) := by
  subst hp; exact own_Go.of (fun t q => XS.lshl X.here hx rfl hd rfl q) h
theorem og_lshr (X : Stand p l e R s m args below meth c T locs cells slots) (hx : p.tables.exec = Jvm.exec) {x : Int64} {y : Int32} (hd : decode c.code pc = .ok (.lshr, 1)) (hp : pc + 1 = pc') (h : own_Go p e below W T (mkF m pc' L (.long (x >>> (y &&& 0x3f).toInt64) :: S))) : own_Go p e below W T (mkF m pc L (.int y :: .long x :: S)) := by
  subst hp; exact own_Go.of (fun t q => XS.lshr X.here hx rfl hd rfl q) h
theorem og_lushr (X : Stand p l e R s m args below meth c T locs cells slots) (hx : p.tables.exec = Jvm.exec) {x : Int64} {y : Int32} (hd : decode c.code pc = .ok (.lushr, 1)) (hp : pc + 1 = pc') (h : own_Go p e below W T (mkF m pc' L (.long ((x.toUInt64 >>> (y &&& 0x3f).toInt64.toUInt64).toInt64) :: S))) : own_Go p e below W T (mkF m pc L (.int y :: .long x :: S)) := by
  subst hp; exact own_Go.of (fun t q => XS.lushr X.here hx rfl hd rfl q) h
theorem og_lcmp (X : Stand p l e R s m args below meth c T locs cells slots) (hx : p.tables.exec = Jvm.exec) {x y : Int64} (hd : decode c.code pc = .ok (.lcmp, 1)) (hp : pc + 1 = pc') (h : own_Go p e below W T (mkF m pc' L (.int (lcmpW x y) :: S))) : own_Go p e below W T (mkF m pc L (.long y :: .long x :: S)) := by
  subst hp; exact own_Go.of (fun t q => XS.lcmp X.here hx rfl hd rfl q) h
theorem og_idiv (X : Stand p l e R s m args below meth c T locs cells slots) (hx : p.tables.exec = Jvm.exec) {x y : Int32} (hd : decode c.code pc = .ok (.idiv, 1)) (hy : y ≠ 0) (hp : pc + 1 = pc') (h : own_Go p e below W T (mkF m pc' L (.int (x / y) :: S))) : own_Go p e below W T (mkF m pc L (.int y :: .int x :: S)) := by
  subst hp; exact own_Go.of (fun t q => XS.idiv X.here hx rfl hd rfl hy q) h
theorem og_ldiv (X : Stand p l e R s m args below meth c T locs cells slots) (hx : p.tables.exec = Jvm.exec) {x y : Int64} (hd : decode c.code pc = .ok (.ldiv, 1)) (hy : y ≠ 0) (hp : pc + 1 = pc') (h : own_Go p e below W T (mkF m pc' L (.long (x / y) :: S))) : own_Go p e below W T (mkF m pc L (.long y :: .long x :: S)) := by
  subst hp; exact own_Go.of (fun t q => XS.ldiv X.here hx rfl hd rfl hy q) h
theorem og_irem (X : Stand p l e R s m args below meth c T locs cells slots) (hx : p.tables.exec = Jvm.exec) {x y : Int32} (hd : decode c.code pc = .ok (.irem, 1)) (hy : y ≠ 0) (hp : pc + 1 = pc') (h : own_Go p e below W T (mkF m pc' L (.int (x % y) :: S))) : own_Go p e below W T (mkF m pc L (.int y :: .int x :: S)) := by
  subst hp; exact own_Go.of (fun t q => iremM X hx rfl hd rfl hy q) h
theorem og_lrem (X : Stand p l e R s m args below meth c T locs cells slots) (hx : p.tables.exec = Jvm.exec) {x y : Int64} (hd : decode c.code pc = .ok (.lrem, 1)) (hy : y ≠ 0) (hp : pc + 1 = pc') (h : own_Go p e below W T (mkF m pc' L (.long (x - (x / y) * y) :: S))) : own_Go p e below W T (mkF m pc L (.long y :: .long x :: S)) := by
  subst hp; exact own_Go.of (fun t q => XS.lrem X.here hx rfl hd rfl hy q) h
theorem og_iinc (X : Stand p l e R s m args below meth c T locs cells slots) (hx : p.tables.exec = Jvm.exec) {k : Nat} {z : Int} {v : Int32} {L' : Array Slot} (hd : decode c.code pc = .ok (.iinc k z, 3)) (hl : L[k]? = some (.val (.int v))) (hs : storeLocals L k (.int (v + Int32.ofInt z)) = some L') (hp : pc + 3 = pc') (h : own_Go p e below W T (mkF m pc' L' S)) : own_Go p e below W T (mkF m pc L S) := by
  subst hp; exact own_Go.of (fun t q => XS.iinc X.here hx rfl hd hl hs q) h
theorem og_dup (X : Stand p l e R s m args below meth c T locs cells slots) (hx : p.tables.exec = Jvm.exec) {v : Value} (hd : decode c.code pc = .ok (.dup, 1)) (hc : v.category = 1) (hp : pc + 1 = pc') (h : own_Go p e below W T (mkF m pc' L (v :: v :: S))) : own_Go p e below W T (mkF m pc L (v :: S)) := by
  subst hp; exact own_Go.of (fun t q => XS.dup X.here hx rfl hd rfl hc q) h
theorem og_pop (X : Stand p l e R s m args below meth c T locs cells slots) (hx : p.tables.exec = Jvm.exec) {v : Value} (hd : decode c.code pc = .ok (.pop, 1)) (hc : v.category = 1) (hp : pc + 1 = pc') (h : own_Go p e below W T (mkF m pc' L S)) : own_Go p e below W T (mkF m pc L (v :: S)) := by
  subst hp; exact own_Go.of (fun t q => XS.pop X.here hx rfl hd rfl hc q) h
theorem og_dup_x1 (X : Stand p l e R s m args below meth c T locs cells slots) (hx : p.tables.exec = Jvm.exec) {v w : Value} (hd : decode c.code pc = .ok (.dup_x1, 1)) (hc : v.category = 1) (hc' : w.category = 1) (hp : pc + 1 = pc') (h : own_Go p e below W T (mkF m pc' L (v :: w :: v :: S))) : own_Go p e below W T (mkF m pc L (v :: w :: S)) := by
  subst hp; exact own_Go.of (fun t q => XS.dupX1 X.here hx rfl hd rfl hc hc' q) h
theorem og_goto (X : Stand p l e R s m args below meth c T locs cells slots) (hx : p.tables.exec = Jvm.exec) {o : Int} (hd : decode c.code pc = .ok (.goto o, 3)) (ho : 0 ≤ (pc : Int) + o) (hp : ((pc : Int) + o).toNat = pc') (h : own_Go p e below W T (mkF m pc' L S)) : own_Go p e below W T (mkF m pc L S) := by
  exact own_Go.of (fun t q => XS.goto X.here hx rfl rfl hd ho hp q) h
theorem og_ifYes (X : Stand p l e R s m args below meth c T locs cells slots) (hx : p.tables.exec = Jvm.exec) {cd : ClassFile.Cond} {x : Int32} {o : Int} (hd : decode c.code pc = .ok (.ifCond cd o, 3)) (hc : ifCond.holds cd x = true) (ho : 0 ≤ (pc : Int) + o) (hp : ((pc : Int) + o).toNat = pc') (h : own_Go p e below W T (mkF m pc' L S)) : own_Go p e below W T (mkF m pc L (.int x :: S)) := by
  exact own_Go.of (fun t q => XS.ifYes X.here hx rfl rfl hd rfl hc ho hp q) h
theorem og_ifNo (X : Stand p l e R s m args below meth c T locs cells slots) (hx : p.tables.exec = Jvm.exec) {cd : ClassFile.Cond} {x : Int32} {o : Int} (hd : decode c.code pc = .ok (.ifCond cd o, 3)) (hc : ifCond.holds cd x = false) (hp : pc + 3 = pc') (h : own_Go p e below W T (mkF m pc' L S)) : own_Go p e below W T (mkF m pc L (.int x :: S)) := by
  subst hp; exact own_Go.of (fun t q => XS.ifNo X.here hx rfl hd rfl hc q) h
theorem og_icmpYes (X : Stand p l e R s m args below meth c T locs cells slots) (hx : p.tables.exec = Jvm.exec) {cd : ClassFile.Cond} {x y : Int32} {o : Int} (hd : decode c.code pc = .ok (.if_icmp cd o, 3)) (hc : if_icmp.holds cd x y = true) (ho : 0 ≤ (pc : Int) + o) (hp : ((pc : Int) + o).toNat = pc') (h : own_Go p e below W T (mkF m pc' L S)) : own_Go p e below W T (mkF m pc L (.int y :: .int x :: S)) := by
  exact own_Go.of (fun t q => XS.icmpYes X.here hx rfl rfl hd rfl hc ho hp q) h
theorem og_icmpNo (X : Stand p l e R s m args below meth c T locs cells slots) (hx : p.tables.exec = Jvm.exec) {cd : ClassFile.Cond} {x y : Int32} {o : Int} (hd : decode c.code pc = .ok (.if_icmp cd o, 3)) (hc : if_icmp.holds cd x y = false) (hp : pc + 3 = pc') (h : own_Go p e below W T (mkF m pc' L S)) : own_Go p e below W T (mkF m pc L (.int y :: .int x :: S)) := by
  subst hp; exact own_Go.of (fun t q => XS.icmpNo X.here hx rfl hd rfl hc q) h
theorem og_ifnullYes (X : Stand p l e R s m args below meth c T locs cells slots) (hx : p.tables.exec = Jvm.exec) {o : Int} (hd : decode c.code pc = .ok (.ifnull o, 3)) (ho : 0 ≤ (pc : Int) + o) (hp : ((pc : Int) + o).toNat = pc') (h : own_Go p e below W T (mkF m pc' L S)) : own_Go p e below W T (mkF m pc L (.null :: S)) := by
  exact own_Go.of (fun t q => XS.ifnullYes X.here hx rfl rfl hd rfl ho hp q) h
theorem og_ifnullNo (X : Stand p l e R s m args below meth c T locs cells slots) (hx : p.tables.exec = Jvm.exec) {b : Addr} {o : Int} (hd : decode c.code pc = .ok (.ifnull o, 3)) (hp : pc + 3 = pc') (h : own_Go p e below W T (mkF m pc' L S)) : own_Go p e below W T (mkF m pc L (.ref b :: S)) := by
  subst hp; exact own_Go.of (fun t q => XS.ifnullNo X.here hx rfl hd rfl q) h
theorem og_ifnonnullYes (X : Stand p l e R s m args below meth c T locs cells slots) (hx : p.tables.exec = Jvm.exec) {b : Addr} {o : Int} (hd : decode c.code pc = .ok (.ifnonnull o, 3)) (ho : 0 ≤ (pc : Int) + o) (hp : ((pc : Int) + o).toNat = pc') (h : own_Go p e below W T (mkF m pc' L S)) : own_Go p e below W T (mkF m pc L (.ref b :: S)) := by
  exact own_Go.of (fun t q => XS.ifnonnullYes X.here hx rfl rfl hd rfl ho hp q) h
theorem og_ifnonnullNo (X : Stand p l e R s m args below meth c T locs cells slots) (hx : p.tables.exec = Jvm.exec) {o : Int} (hd : decode c.code pc = .ok (.ifnonnull o, 3)) (hp : pc + 3 = pc') (h : own_Go p e below W T (mkF m pc' L S)) : own_Go p e below W T (mkF m pc L (.null :: S)) := by
  subst hp; exact own_Go.of (fun t q => XS.ifnonnullNo X.here hx rfl hd rfl q) h
theorem og_ldc (X : Stand p l e R s m args below meth c T locs cells slots) (hx : p.tables.exec = Jvm.exec) {own : String} {index : Nat} {v : Int32} (hd : decode c.code pc = .ok (.ldc index, 2)) (hown : s.vm.findClass own = some m.cls) (w : (Jvm.Cond.constant own index v).before args s = true) (hp : pc + 2 = pc') (h : own_Go p e below W T (mkF m pc' L (.int v :: S))) : own_Go p e below W T (mkF m pc L S) := by
  subst hp; exact own_Go.of (fun t q => X.ldcInt hx hown w (g := mkF m pc L S) rfl hd _ q) h
theorem og_ldc2_w (X : Stand p l e R s m args below meth c T locs cells slots) (hx : p.tables.exec = Jvm.exec) {own : String} {index : Nat} {v : Int64} (hd : decode c.code pc = .ok (.ldc2_w index, 3)) (hown : s.vm.findClass own = some m.cls) (w : (Jvm.Cond.constantLong own index v).before args s = true) (hp : pc + 3 = pc') (h : own_Go p e below W T (mkF m pc' L (.long v :: S))) : own_Go p e below W T (mkF m pc L S) := by
  subst hp; exact own_Go.of (fun t q => X.ldc2Long hx hown w (g := mkF m pc L S) rfl hd _ q) h
end OwnSteps
theorem own_eq_int {args : Array Value} {first s : State} {o : Option Outcome} {idx : List Nat} {a : Term} {z : Int32} (h : (Jvm.Cond.eq a (Term.int z)).value args first o s idx = some true) : a.eval args first o idx s = some (.int z) := by
  obtain ⟨x, y, ha, hb, k1, k2⟩ := cmp_v (Or.inl h)
  have e : y = .int z := Option.some.inj (hb.symm.trans (Term.int_eval z))
  subst e
  obtain ⟨w, rfl⟩ := k2
  simp [Cond.value, ha, hb] at h
  rw [ha, h]

theorem own_fold (f : Nat → Option Bool) : ∀ n, (List.range n).foldl (init := some true) (fun acc i => match acc with | some true => f i | x => x) = some true → ∀ i, i < n → f i = some true := by
  intro n
  induction n with
  | zero => intro _ i hi; exact absurd hi (Nat.not_lt_zero i)
  | succ n ih =>
    intro h i hi
    rw [List.range_succ, List.foldl_append] at h
    generalize hg : (List.range n).foldl (init := some true) (fun acc i => match acc with | some true => f i | x => x) = g at h
    simp only [List.foldl_cons, List.foldl_nil] at h
    cases g with
    | none => simp at h
    | some b =>
      cases b with
      | false => simp at h
      | true =>
        rcases Nat.lt_or_ge i n with q | q
        · exact ih hg i q
        · have e : i = n := by omega
          subst e; exact h
theorem own_all {args : Array Value} {s : State} {t : Term} {c : Jvm.Cond} {a : Addr} {cell : Cell} (h : (Jvm.Cond.all t c).value args s none s [] = some true) (ht : t.eval args s none [] s = some (.ref a)) (ha : s.arrayAt? a = some cell) : ∀ i, i < cell.slots.size → c.value args s none s [i] = some true := by
  simp only [Cond.value, ht, ha] at h
  exact own_fold (fun i => c.value args s none s [i]) _ h
theorem own_len {args : Array Value} {s : State} {t : Term} {a : Addr} {cell : Cell} {z : Int32} (h : (Jvm.Cond.eq (Term.length t) (Term.int z)).value args s none s [] = some true) (ht : t.eval args s none [] s = some (.ref a)) (ha : s.arrayAt? a = some cell) : cell.slots.size < 2 ^ 31 ∧ cell.slots.size.toInt32 = z := by
  have q := own_eq_int h
  simp only [Term.eval, ht, ha, Option.bind_eq_bind, Option.bind_some] at q
  by_cases hl : cell.slots.size < 2 ^ 31
  · simp [hl] at q; exact ⟨hl, q⟩
  · simp [hl] at q
theorem own_exa {args : Array Value} {s : State} {t : Term} {r : Addr} {C : String} {idx : List Nat} (h : (Jvm.Cond.exactly t C).value args s none s idx = some true) (ht : t.eval args s none idx s = some (.ref r)) : Exa s s.heap r C := by
  refine Exa.start (args := #[.ref r]) (t := Term.arg 0) rfl ?_
  have e : (Term.arg 0).eval #[.ref r] s none [] s = some (.ref r) := rfl
  simp only [Cond.value, ht] at h
  simp only [Cond.value, e]
  exact h

def own_f (x0 : Int32) (cl : Cell) : Int32 := (if x0 < (0 : Int32) then (0 : Int32) else (if x0 < (128 : Int32) then (if (atv cl x0) = (0 : Int32) then (0 : Int32) else (1 : Int32)) else (0 : Int32)))
theorem d1_0 : decode prog_1_method_2_code 0 = .ok (.iload_n 0, 1) := by decide +kernel
theorem d1_1 : decode prog_1_method_2_code 1 = .ok (.ifCond .lt 23, 3) := by decide +kernel
theorem d1_4 : decode prog_1_method_2_code 4 = .ok (.iload_n 0, 1) := by decide +kernel
theorem d1_5 : decode prog_1_method_2_code 5 = .ok (.getstatic 7, 3) := by decide +kernel
theorem d1_8 : decode prog_1_method_2_code 8 = .ok (.arraylength, 1) := by decide +kernel
theorem d1_9 : decode prog_1_method_2_code 9 = .ok (.if_icmp .ge 15, 3) := by decide +kernel
theorem d1_12 : decode prog_1_method_2_code 12 = .ok (.getstatic 7, 3) := by decide +kernel
theorem d1_15 : decode prog_1_method_2_code 15 = .ok (.iload_n 0, 1) := by decide +kernel
theorem d1_16 : decode prog_1_method_2_code 16 = .ok (.baload, 1) := by decide +kernel
theorem d1_17 : decode prog_1_method_2_code 17 = .ok (.ifCond .eq 7, 3) := by decide +kernel
theorem d1_20 : decode prog_1_method_2_code 20 = .ok (.iconst 1, 1) := by decide +kernel
theorem d1_21 : decode prog_1_method_2_code 21 = .ok (.goto 4, 3) := by decide +kernel
theorem d1_24 : decode prog_1_method_2_code 24 = .ok (.iconst 0, 1) := by decide +kernel
theorem d1_25 : decode prog_1_method_2_code 25 = .ok (.ireturn, 1) := by decide +kernel
theorem pnf : plainName "com/example/annotated_resource_router/annotatedresourcerouter/message/HeaderSyntax" = true := by first | (simp [plainName, overriddenIn]; done) | decide +kernel
theorem eff (m : MethodId) (z0 : Int32) : entryFrame m #[(.int z0)] 1 = mkF m 0 #[.val (.int z0)] [] := by first | (simp [entryFrame, mkF, argsToLocals, Value.category]; done) | rfl
def Qf (Z : State) (x0 : Int32) (ta : Addr) (cl : Cell) (h0 : Heap) (n0 : Nat) (v : Option Value) (h : Heap) (L : List Loc) : Prop := v = some (.int (own_f x0 cl)) ∧ Fr n0 L ∧ h = h0
set_option maxRecDepth 65536 in
set_option maxHeartbeats 40000000 in
theorem rmf (l : Launch) (Z : State) (a0 : Array Value) (hw : ∀ d ∈ tables_1, d.before a0 Z = true) (ws : List Jvm.Cond) (x0 : Int32) (ta : Addr) (cl : Cell) (h0 : Heap) (n0 : Nat) (Z0 : n0 ≤ h0.size) (S_t : Sta Z h0 "com/example/annotated_resource_router/annotatedresourcerouter/message/HeaderSyntax" "TOKEN_CHARACTERS" "[Z" (.ref ta)) (T_t : Tab Z h0 ta cl .boolean (128 : Int32)) :
    MetFree l (⟨"com/example/annotated_resource_router/annotatedresourcerouter/message/HeaderSyntax", "isTokenCharacter", "(I)Z"⟩ : MethodName) (head1 (Jvm.Cond.code (⟨"com/example/annotated_resource_router/annotatedresourcerouter/message/HeaderSyntax", "isTokenCharacter", "(I)Z"⟩ : MethodName) prog_1_method_2_code 1 (some .boolean) :: ws) ({ frames := 0, cells := 0, slots := 0, locals := 0 } : Room)) (fun a U => a = #[(.int x0)] ∧ Z.Warmed39 U.vm ∧ U.heap = h0) (fun _ _ _ _ _ => True) (fun _ U oc U' => ∃ v L, oc = .returned v ∧ Qf Z x0 ta cl h0 n0 v U'.heap L ∧ FrameEnd U oc U' L ({ frames := 0, cells := 0, slots := 0, locals := 0 } : Room).cells ({ frames := 0, cells := 0, slots := 0, locals := 0 } : Room).slots) := by
  refine MetFree.of_bodySF (plainFor_of_name pnf) hisR ?_
  intro p e s m args below meth c s₁ Bd hml0 hP hK
  obtain ⟨rfl, hZ, hh⟩ := hP
  have hx := Bd.exec
  have hby := Bd.bytes
  have hml : c.maxLocals = 1 := hml0
  have hown : s.vm.findClass "com/example/annotated_resource_router/annotatedresourcerouter/message/HeaderSyntax" = some m.cls := findClass_of_methodNamed Bd.named
  have hnm := (name_of_methodNamed Bd.named Bd.method).1
  have X0 : Stand p l e ({ frames := 0, cells := 0, slots := 0, locals := 0 } : Room) s m #[(.int x0)] below meth c s₁ [] 0 0 := Stand.of_body Bd
  have e0 : s₁.heap = h0 := by rw [← hh, Bd.state]; rfl
  have N0 := Fr.nil n0
  show own_Go p e below (fun s₂ oc => ∃ v L, oc = .returned v ∧ Qf Z x0 ta cl h0 n0 v s₂.heap L ∧ FrameEnd s oc s₂ L ({ frames := 0, cells := 0, slots := 0, locals := 0 } : Room).cells ({ frames := 0, cells := 0, slots := 0, locals := 0 } : Room).slots) s₁ (entryFrame m #[(.int x0)] 1)
  refine own_Go.of (g' := mkF m 0 #[.val (.int x0)] []) (fun t k => castTop (eff m x0) k) ?_
  have hv : own_f x0 cl = own_f x0 cl := rfl
  refine og_iloadN (pc' := 1) X0 hx (hb hby d1_0) rfl rfl ?_
  by_cases hc1_1 : x0 < (0 : Int32)
  · have hv := hv.trans (if_pos hc1_1)
    refine og_ifYes (pc' := 24) X0 hx (hb hby d1_1) ((if0 _ _).trans (tlt hc1_1).1) (by decide) (by decide) ?_
    refine og_iconst (pc' := 25) (n := 0) X0 hx (hb hby d1_24) rfl rfl ?_
    obtain ⟨fs, hr, hrun, hended, hW, hsame⟩ := X0.leave (v := some (.int (0 : Int32))) (fun h => by rw [Bd.returns] at h; cases h) (BodyLoose.notSynchronized Bd)
    refine ⟨_, _, retN X0 hx (t := .boolean) Bd.returns (by simp) (hb hby d1_25) hr, hrun, hended, some (.int (0 : Int32)), _, rfl, ?_, ⟨_, rfl⟩, hW, hsame.mono (by decide) (by decide)⟩
    show Qf Z x0 ta cl h0 n0 _ s₁.heap _
    rw [e0]
    exact ⟨(congrArg (fun z => some (Value.int z)) hv.symm), N0, rfl⟩
  · have hv := hv.trans (if_neg hc1_1)
    refine og_ifNo (pc' := 4) X0 hx (hb hby d1_1) ((if0 _ _).trans (flt hc1_1).1) rfl ?_
    refine og_iloadN (pc' := 5) X0 hx (hb hby d1_4) rfl rfl ?_
    obtain ⟨T1, X1, e1, st1⟩ := getS2 X0 hx hZ hown (host := "") (Or.inl (hw _ (List.mem_of_getElem? (i := 4) rfl))) Via.refl e0 S_t (g := (mkF m 5 #[.val (.int x0)] [(.int x0)])) rfl (hb hby d1_5)
    refine own_Go.of (g' := (mkF m 8 #[.val (.int x0)] [(.ref ta), (.int x0)])) (fun t k => st1 _ k) ?_
    refine own_Go.of (g' := (mkF m 9 #[.val (.int x0)] [(.int (128 : Int32)), (.int x0)])) (fun t k => X1.arraylength hx (by rw [e1]; exact T_t.1.1) (State.isArrayOf_alike hZ.alike T_t.1.2.1) (g := (mkF m 8 #[.val (.int x0)] [(.ref ta), (.int x0)])) rfl rfl (hb hby d1_8) _ (by rw [len_of T_t.2.1 T_t.2.2.1]; exact k)) ?_
    by_cases hc9_2 : x0 < (128 : Int32)
    · have hv := hv.trans (if_pos hc9_2)
      refine og_icmpNo (pc' := 12) X1 hx (hb hby d1_9) (tlt hc9_2).2.1 rfl ?_
      obtain ⟨T3, X3, e3, st3⟩ := getS2 X1 hx hZ hown (host := "") (Or.inl (hw _ (List.mem_of_getElem? (i := 4) rfl))) Via.refl e1 S_t (g := (mkF m 12 #[.val (.int x0)] [])) rfl (hb hby d1_12)
      refine own_Go.of (g' := (mkF m 15 #[.val (.int x0)] [(.ref ta)])) (fun t k => st3 _ k) ?_
      refine og_iloadN (pc' := 16) X3 hx (hb hby d1_15) rfl rfl ?_
      have hin4 : ¬ (x0 < 0 ∨ cl.slots.size ≤ (x0).toNatClampNeg) := inb_of T_t.2.1 ⟨hc1_1, hc9_2⟩
      refine own_Go.of (g' := (mkF m 17 #[.val (.int x0)] [(.int (atv cl x0))])) (fun t k => X3.baloadBooleans hx (j := x0) (v := (.int (atv cl x0))) (by rw [e3]; exact T_t.1.1) (State.isArrayOf_alike hZ.alike T_t.1.2.1) T_t.1.2.2 hin4 (T_t.2.2.2 _ hin4) (g := (mkF m 16 #[.val (.int x0)] [(.int x0), (.ref ta)])) rfl rfl (hb hby d1_16) _ k) ?_
      by_cases hc17_3 : (atv cl x0) = (0 : Int32)
      · have hv := hv.trans (if_pos hc17_3)
        refine og_ifYes (pc' := 24) X3 hx (hb hby d1_17) ((if0 _ _).trans (teq hc17_3).1) (by decide) (by decide) ?_
        refine og_iconst (pc' := 25) (n := 0) X3 hx (hb hby d1_24) rfl rfl ?_
        obtain ⟨fs, hr, hrun, hended, hW, hsame⟩ := X3.leave (v := some (.int (0 : Int32))) (fun h => by rw [Bd.returns] at h; cases h) (BodyLoose.notSynchronized Bd)
        refine ⟨_, _, retN X3 hx (t := .boolean) Bd.returns (by simp) (hb hby d1_25) hr, hrun, hended, some (.int (0 : Int32)), _, rfl, ?_, ⟨_, rfl⟩, hW, hsame.mono (by decide) (by decide)⟩
        show Qf Z x0 ta cl h0 n0 _ T3.heap _
        rw [e3]
        exact ⟨(congrArg (fun z => some (Value.int z)) hv.symm), N0, rfl⟩
      · have hv := hv.trans (if_neg hc17_3)
        refine og_ifNo (pc' := 20) X3 hx (hb hby d1_17) ((if0 _ _).trans (feq hc17_3).1) rfl ?_
        refine og_iconst (pc' := 21) (n := 1) X3 hx (hb hby d1_20) rfl rfl ?_
        refine og_goto (pc' := 25) X3 hx (hb hby d1_21) (by decide) (by decide) ?_
        obtain ⟨fs, hr, hrun, hended, hW, hsame⟩ := X3.leave (v := some (.int (1 : Int32))) (fun h => by rw [Bd.returns] at h; cases h) (BodyLoose.notSynchronized Bd)
        refine ⟨_, _, retN X3 hx (t := .boolean) Bd.returns (by simp) (hb hby d1_25) hr, hrun, hended, some (.int (1 : Int32)), _, rfl, ?_, ⟨_, rfl⟩, hW, hsame.mono (by decide) (by decide)⟩
        show Qf Z x0 ta cl h0 n0 _ T3.heap _
        rw [e3]
        exact ⟨(congrArg (fun z => some (Value.int z)) hv.symm), N0, rfl⟩
    · have hv := hv.trans (if_neg hc9_2)
      refine og_icmpYes (pc' := 24) X1 hx (hb hby d1_9) (flt hc9_2).2.1 (by decide) (by decide) ?_
      refine og_iconst (pc' := 25) (n := 0) X1 hx (hb hby d1_24) rfl rfl ?_
      obtain ⟨fs, hr, hrun, hended, hW, hsame⟩ := X1.leave (v := some (.int (0 : Int32))) (fun h => by rw [Bd.returns] at h; cases h) (BodyLoose.notSynchronized Bd)
      refine ⟨_, _, retN X1 hx (t := .boolean) Bd.returns (by simp) (hb hby d1_25) hr, hrun, hended, some (.int (0 : Int32)), _, rfl, ?_, ⟨_, rfl⟩, hW, hsame.mono (by decide) (by decide)⟩
      show Qf Z x0 ta cl h0 n0 _ T1.heap _
      rw [e1]
      exact ⟨(congrArg (fun z => some (Value.int z)) hv.symm), N0, rfl⟩

def own_g_42 (x0 : Int32)  : Int32 := (if x0 = (33 : Int32) then (1 : Int32) else (if x0 = (35 : Int32) then (1 : Int32) else (if x0 = (36 : Int32) then (1 : Int32) else (if x0 = (37 : Int32) then (1 : Int32) else (if x0 = (38 : Int32) then (1 : Int32) else (if x0 = (39 : Int32) then (1 : Int32) else (if x0 = (42 : Int32) then (1 : Int32) else (if x0 = (43 : Int32) then (1 : Int32) else (if x0 = (45 : Int32) then (1 : Int32) else (if x0 = (46 : Int32) then (1 : Int32) else (if x0 = (94 : Int32) then (1 : Int32) else (if x0 = (95 : Int32) then (1 : Int32) else (if x0 = (96 : Int32) then (1 : Int32) else (if x0 = (124 : Int32) then (1 : Int32) else (if x0 = (126 : Int32) then (1 : Int32) else (0 : Int32))))))))))))))))
def own_g_28 (x0 : Int32)  : Int32 := (if x0 < (48 : Int32) then (own_g_42 x0) else (if (57 : Int32) < x0 then (own_g_42 x0) else (1 : Int32)))
def own_g_14 (x0 : Int32)  : Int32 := (if x0 < (65 : Int32) then (own_g_28 x0) else (if (90 : Int32) < x0 then (own_g_28 x0) else (1 : Int32)))
def own_g (x0 : Int32) : Int32 := (if x0 < (97 : Int32) then (own_g_14 x0) else (if (122 : Int32) < x0 then (own_g_14 x0) else (1 : Int32)))
theorem d2_0 : decode method_2_code 0 = .ok (.iload_n 0, 1) := by decide +kernel
theorem d2_1 : decode method_2_code 1 = .ok (.bipush 97, 2) := by decide +kernel
theorem d2_3 : decode method_2_code 3 = .ok (.if_icmp .lt 11, 3) := by decide +kernel
theorem d2_6 : decode method_2_code 6 = .ok (.iload_n 0, 1) := by decide +kernel
theorem d2_7 : decode method_2_code 7 = .ok (.bipush 122, 2) := by decide +kernel
theorem d2_9 : decode method_2_code 9 = .ok (.if_icmp .gt 5, 3) := by decide +kernel
theorem d2_12 : decode method_2_code 12 = .ok (.iconst 1, 1) := by decide +kernel
theorem d2_13 : decode method_2_code 13 = .ok (.ireturn, 1) := by decide +kernel
theorem d2_14 : decode method_2_code 14 = .ok (.iload_n 0, 1) := by decide +kernel
theorem d2_15 : decode method_2_code 15 = .ok (.bipush 65, 2) := by decide +kernel
theorem d2_17 : decode method_2_code 17 = .ok (.if_icmp .lt 11, 3) := by decide +kernel
theorem d2_20 : decode method_2_code 20 = .ok (.iload_n 0, 1) := by decide +kernel
theorem d2_21 : decode method_2_code 21 = .ok (.bipush 90, 2) := by decide +kernel
theorem d2_23 : decode method_2_code 23 = .ok (.if_icmp .gt 5, 3) := by decide +kernel
theorem d2_26 : decode method_2_code 26 = .ok (.iconst 1, 1) := by decide +kernel
theorem d2_27 : decode method_2_code 27 = .ok (.ireturn, 1) := by decide +kernel
theorem d2_28 : decode method_2_code 28 = .ok (.iload_n 0, 1) := by decide +kernel
theorem d2_29 : decode method_2_code 29 = .ok (.bipush 48, 2) := by decide +kernel
theorem d2_31 : decode method_2_code 31 = .ok (.if_icmp .lt 11, 3) := by decide +kernel
theorem d2_34 : decode method_2_code 34 = .ok (.iload_n 0, 1) := by decide +kernel
theorem d2_35 : decode method_2_code 35 = .ok (.bipush 57, 2) := by decide +kernel
theorem d2_37 : decode method_2_code 37 = .ok (.if_icmp .gt 5, 3) := by decide +kernel
theorem d2_40 : decode method_2_code 40 = .ok (.iconst 1, 1) := by decide +kernel
theorem d2_41 : decode method_2_code 41 = .ok (.ireturn, 1) := by decide +kernel
theorem d2_42 : decode method_2_code 42 = .ok (.iload_n 0, 1) := by decide +kernel
theorem d2_43 : decode method_2_code 43 = .ok (.bipush 33, 2) := by decide +kernel
theorem d2_45 : decode method_2_code 45 = .ok (.if_icmp .eq 87, 3) := by decide +kernel
theorem d2_48 : decode method_2_code 48 = .ok (.iload_n 0, 1) := by decide +kernel
theorem d2_49 : decode method_2_code 49 = .ok (.bipush 35, 2) := by decide +kernel
theorem d2_51 : decode method_2_code 51 = .ok (.if_icmp .eq 81, 3) := by decide +kernel
theorem d2_54 : decode method_2_code 54 = .ok (.iload_n 0, 1) := by decide +kernel
theorem d2_55 : decode method_2_code 55 = .ok (.bipush 36, 2) := by decide +kernel
theorem d2_57 : decode method_2_code 57 = .ok (.if_icmp .eq 75, 3) := by decide +kernel
theorem d2_60 : decode method_2_code 60 = .ok (.iload_n 0, 1) := by decide +kernel
theorem d2_61 : decode method_2_code 61 = .ok (.bipush 37, 2) := by decide +kernel
theorem d2_63 : decode method_2_code 63 = .ok (.if_icmp .eq 69, 3) := by decide +kernel
theorem d2_66 : decode method_2_code 66 = .ok (.iload_n 0, 1) := by decide +kernel
theorem d2_67 : decode method_2_code 67 = .ok (.bipush 38, 2) := by decide +kernel
theorem d2_69 : decode method_2_code 69 = .ok (.if_icmp .eq 63, 3) := by decide +kernel
theorem d2_72 : decode method_2_code 72 = .ok (.iload_n 0, 1) := by decide +kernel
theorem d2_73 : decode method_2_code 73 = .ok (.bipush 39, 2) := by decide +kernel
theorem d2_75 : decode method_2_code 75 = .ok (.if_icmp .eq 57, 3) := by decide +kernel
theorem d2_78 : decode method_2_code 78 = .ok (.iload_n 0, 1) := by decide +kernel
theorem d2_79 : decode method_2_code 79 = .ok (.bipush 42, 2) := by decide +kernel
theorem d2_81 : decode method_2_code 81 = .ok (.if_icmp .eq 51, 3) := by decide +kernel
theorem d2_84 : decode method_2_code 84 = .ok (.iload_n 0, 1) := by decide +kernel
theorem d2_85 : decode method_2_code 85 = .ok (.bipush 43, 2) := by decide +kernel
theorem d2_87 : decode method_2_code 87 = .ok (.if_icmp .eq 45, 3) := by decide +kernel
theorem d2_90 : decode method_2_code 90 = .ok (.iload_n 0, 1) := by decide +kernel
theorem d2_91 : decode method_2_code 91 = .ok (.bipush 45, 2) := by decide +kernel
theorem d2_93 : decode method_2_code 93 = .ok (.if_icmp .eq 39, 3) := by decide +kernel
theorem d2_96 : decode method_2_code 96 = .ok (.iload_n 0, 1) := by decide +kernel
theorem d2_97 : decode method_2_code 97 = .ok (.bipush 46, 2) := by decide +kernel
theorem d2_99 : decode method_2_code 99 = .ok (.if_icmp .eq 33, 3) := by decide +kernel
theorem d2_102 : decode method_2_code 102 = .ok (.iload_n 0, 1) := by decide +kernel
theorem d2_103 : decode method_2_code 103 = .ok (.bipush 94, 2) := by decide +kernel
theorem d2_105 : decode method_2_code 105 = .ok (.if_icmp .eq 27, 3) := by decide +kernel
theorem d2_108 : decode method_2_code 108 = .ok (.iload_n 0, 1) := by decide +kernel
theorem d2_109 : decode method_2_code 109 = .ok (.bipush 95, 2) := by decide +kernel
theorem d2_111 : decode method_2_code 111 = .ok (.if_icmp .eq 21, 3) := by decide +kernel
theorem d2_114 : decode method_2_code 114 = .ok (.iload_n 0, 1) := by decide +kernel
theorem d2_115 : decode method_2_code 115 = .ok (.bipush 96, 2) := by decide +kernel
theorem d2_117 : decode method_2_code 117 = .ok (.if_icmp .eq 15, 3) := by decide +kernel
theorem d2_120 : decode method_2_code 120 = .ok (.iload_n 0, 1) := by decide +kernel
theorem d2_121 : decode method_2_code 121 = .ok (.bipush 124, 2) := by decide +kernel
theorem d2_123 : decode method_2_code 123 = .ok (.if_icmp .eq 9, 3) := by decide +kernel
theorem d2_126 : decode method_2_code 126 = .ok (.iload_n 0, 1) := by decide +kernel
theorem d2_127 : decode method_2_code 127 = .ok (.bipush 126, 2) := by decide +kernel
theorem d2_129 : decode method_2_code 129 = .ok (.if_icmp .ne 7, 3) := by decide +kernel
theorem d2_132 : decode method_2_code 132 = .ok (.iconst 1, 1) := by decide +kernel
theorem d2_133 : decode method_2_code 133 = .ok (.goto 4, 3) := by decide +kernel
theorem d2_136 : decode method_2_code 136 = .ok (.iconst 0, 1) := by decide +kernel
theorem d2_137 : decode method_2_code 137 = .ok (.ireturn, 1) := by decide +kernel
theorem png : plainName "com/example/annotated_resource_router/annotatedresourcerouter/message/HeaderSyntaxIsTokenCharacterPinLaw" = true := by first | (simp [plainName, overriddenIn]; done) | decide +kernel
theorem efg (m : MethodId) (z0 : Int32) : entryFrame m #[(.int z0)] 1 = mkF m 0 #[.val (.int z0)] [] := by first | (simp [entryFrame, mkF, argsToLocals, Value.category]; done) | rfl
def Qg (Z : State) (x0 : Int32) (h0 : Heap) (n0 : Nat) (v : Option Value) (h : Heap) (L : List Loc) : Prop := v = some (.int (own_g x0)) ∧ Fr n0 L ∧ h = h0
set_option maxRecDepth 65536 in
set_option maxHeartbeats 40000000 in
theorem rmg (l : Launch) (Z : State) (a0 : Array Value) (hw : ∀ d ∈ tables_1, d.before a0 Z = true) (ws : List Jvm.Cond) (x0 : Int32) (h0 : Heap) (n0 : Nat) (Z0 : n0 ≤ h0.size) :
    MetFree l (⟨"com/example/annotated_resource_router/annotatedresourcerouter/message/HeaderSyntaxIsTokenCharacterPinLaw", "tchar", "(I)Z"⟩ : MethodName) (head1 (Jvm.Cond.code (⟨"com/example/annotated_resource_router/annotatedresourcerouter/message/HeaderSyntaxIsTokenCharacterPinLaw", "tchar", "(I)Z"⟩ : MethodName) method_2_code 1 (some .boolean) :: ws) ({ frames := 0, cells := 0, slots := 0, locals := 0 } : Room)) (fun a U => a = #[(.int x0)] ∧ Z.Warmed39 U.vm ∧ U.heap = h0) (fun _ _ _ _ _ => True) (fun _ U oc U' => ∃ v L, oc = .returned v ∧ Qg Z x0 h0 n0 v U'.heap L ∧ FrameEnd U oc U' L ({ frames := 0, cells := 0, slots := 0, locals := 0 } : Room).cells ({ frames := 0, cells := 0, slots := 0, locals := 0 } : Room).slots) := by
  refine MetFree.of_bodySF (plainFor_of_name png) hisR ?_
  intro p e s m args below meth c s₁ Bd hml0 hP hK
  obtain ⟨rfl, hZ, hh⟩ := hP
  have hx := Bd.exec
  have hby := Bd.bytes
  have hml : c.maxLocals = 1 := hml0
  have hown : s.vm.findClass "com/example/annotated_resource_router/annotatedresourcerouter/message/HeaderSyntaxIsTokenCharacterPinLaw" = some m.cls := findClass_of_methodNamed Bd.named
  have hnm := (name_of_methodNamed Bd.named Bd.method).1
  have X0 : Stand p l e ({ frames := 0, cells := 0, slots := 0, locals := 0 } : Room) s m #[(.int x0)] below meth c s₁ [] 0 0 := Stand.of_body Bd
  have e0 : s₁.heap = h0 := by rw [← hh, Bd.state]; rfl
  have N0 := Fr.nil n0
  show own_Go p e below (fun s₂ oc => ∃ v L, oc = .returned v ∧ Qg Z x0 h0 n0 v s₂.heap L ∧ FrameEnd s oc s₂ L ({ frames := 0, cells := 0, slots := 0, locals := 0 } : Room).cells ({ frames := 0, cells := 0, slots := 0, locals := 0 } : Room).slots) s₁ (entryFrame m #[(.int x0)] 1)
  have B42 : ∀ (TB : State) (Lc : List Loc) (XB : Stand p l e ({ frames := 0, cells := 0, slots := 0, locals := 0 } : Room) s m #[(.int x0)] below meth c TB Lc 0 0) (eB : TB.heap = h0) (NB : Fr n0 Lc) , own_g x0 = own_g_42 x0 → own_Go p e below (fun s₂ oc => ∃ v L, oc = .returned v ∧ Qg Z x0 h0 n0 v s₂.heap L ∧ FrameEnd s oc s₂ L ({ frames := 0, cells := 0, slots := 0, locals := 0 } : Room).cells ({ frames := 0, cells := 0, slots := 0, locals := 0 } : Room).slots) TB (mkF m 42 #[.val (.int x0)] []) := by
    intro TB Lc XB eB NB  hv
    refine og_iloadN (pc' := 43) XB hx (hb hby d2_42) rfl rfl ?_
    refine og_bipush (pc' := 45) (n := 33) XB hx (hb hby d2_43) rfl rfl ?_
    by_cases hc45_1 : x0 = (33 : Int32)
    · have hv := hv.trans (if_pos hc45_1)
      refine og_icmpYes (pc' := 132) XB hx (hb hby d2_45) (teq hc45_1).1 (by decide) (by decide) ?_
      refine og_iconst (pc' := 133) (n := 1) XB hx (hb hby d2_132) rfl rfl ?_
      refine og_goto (pc' := 137) XB hx (hb hby d2_133) (by decide) (by decide) ?_
      obtain ⟨fs, hr, hrun, hended, hW, hsame⟩ := XB.leave (v := some (.int (1 : Int32))) (fun h => by rw [Bd.returns] at h; cases h) (BodyLoose.notSynchronized Bd)
      refine ⟨_, _, retN XB hx (t := .boolean) Bd.returns (by simp) (hb hby d2_137) hr, hrun, hended, some (.int (1 : Int32)), _, rfl, ?_, ⟨_, rfl⟩, hW, hsame.mono (by decide) (by decide)⟩
      show Qg Z x0 h0 n0 _ TB.heap _
      rw [eB]
      exact ⟨(congrArg (fun z => some (Value.int z)) hv.symm), NB, rfl⟩
    · have hv := hv.trans (if_neg hc45_1)
      refine og_icmpNo (pc' := 48) XB hx (hb hby d2_45) (feq hc45_1).1 rfl ?_
      refine og_iloadN (pc' := 49) XB hx (hb hby d2_48) rfl rfl ?_
      refine og_bipush (pc' := 51) (n := 35) XB hx (hb hby d2_49) rfl rfl ?_
      by_cases hc51_2 : x0 = (35 : Int32)
      · have hv := hv.trans (if_pos hc51_2)
        refine og_icmpYes (pc' := 132) XB hx (hb hby d2_51) (teq hc51_2).1 (by decide) (by decide) ?_
        refine og_iconst (pc' := 133) (n := 1) XB hx (hb hby d2_132) rfl rfl ?_
        refine og_goto (pc' := 137) XB hx (hb hby d2_133) (by decide) (by decide) ?_
        obtain ⟨fs, hr, hrun, hended, hW, hsame⟩ := XB.leave (v := some (.int (1 : Int32))) (fun h => by rw [Bd.returns] at h; cases h) (BodyLoose.notSynchronized Bd)
        refine ⟨_, _, retN XB hx (t := .boolean) Bd.returns (by simp) (hb hby d2_137) hr, hrun, hended, some (.int (1 : Int32)), _, rfl, ?_, ⟨_, rfl⟩, hW, hsame.mono (by decide) (by decide)⟩
        show Qg Z x0 h0 n0 _ TB.heap _
        rw [eB]
        exact ⟨(congrArg (fun z => some (Value.int z)) hv.symm), NB, rfl⟩
      · have hv := hv.trans (if_neg hc51_2)
        refine og_icmpNo (pc' := 54) XB hx (hb hby d2_51) (feq hc51_2).1 rfl ?_
        refine og_iloadN (pc' := 55) XB hx (hb hby d2_54) rfl rfl ?_
        refine og_bipush (pc' := 57) (n := 36) XB hx (hb hby d2_55) rfl rfl ?_
        by_cases hc57_3 : x0 = (36 : Int32)
        · have hv := hv.trans (if_pos hc57_3)
          refine og_icmpYes (pc' := 132) XB hx (hb hby d2_57) (teq hc57_3).1 (by decide) (by decide) ?_
          refine og_iconst (pc' := 133) (n := 1) XB hx (hb hby d2_132) rfl rfl ?_
          refine og_goto (pc' := 137) XB hx (hb hby d2_133) (by decide) (by decide) ?_
          obtain ⟨fs, hr, hrun, hended, hW, hsame⟩ := XB.leave (v := some (.int (1 : Int32))) (fun h => by rw [Bd.returns] at h; cases h) (BodyLoose.notSynchronized Bd)
          refine ⟨_, _, retN XB hx (t := .boolean) Bd.returns (by simp) (hb hby d2_137) hr, hrun, hended, some (.int (1 : Int32)), _, rfl, ?_, ⟨_, rfl⟩, hW, hsame.mono (by decide) (by decide)⟩
          show Qg Z x0 h0 n0 _ TB.heap _
          rw [eB]
          exact ⟨(congrArg (fun z => some (Value.int z)) hv.symm), NB, rfl⟩
        · have hv := hv.trans (if_neg hc57_3)
          refine og_icmpNo (pc' := 60) XB hx (hb hby d2_57) (feq hc57_3).1 rfl ?_
          refine og_iloadN (pc' := 61) XB hx (hb hby d2_60) rfl rfl ?_
          refine og_bipush (pc' := 63) (n := 37) XB hx (hb hby d2_61) rfl rfl ?_
          by_cases hc63_4 : x0 = (37 : Int32)
          · have hv := hv.trans (if_pos hc63_4)
            refine og_icmpYes (pc' := 132) XB hx (hb hby d2_63) (teq hc63_4).1 (by decide) (by decide) ?_
            refine og_iconst (pc' := 133) (n := 1) XB hx (hb hby d2_132) rfl rfl ?_
            refine og_goto (pc' := 137) XB hx (hb hby d2_133) (by decide) (by decide) ?_
            obtain ⟨fs, hr, hrun, hended, hW, hsame⟩ := XB.leave (v := some (.int (1 : Int32))) (fun h => by rw [Bd.returns] at h; cases h) (BodyLoose.notSynchronized Bd)
            refine ⟨_, _, retN XB hx (t := .boolean) Bd.returns (by simp) (hb hby d2_137) hr, hrun, hended, some (.int (1 : Int32)), _, rfl, ?_, ⟨_, rfl⟩, hW, hsame.mono (by decide) (by decide)⟩
            show Qg Z x0 h0 n0 _ TB.heap _
            rw [eB]
            exact ⟨(congrArg (fun z => some (Value.int z)) hv.symm), NB, rfl⟩
          · have hv := hv.trans (if_neg hc63_4)
            refine og_icmpNo (pc' := 66) XB hx (hb hby d2_63) (feq hc63_4).1 rfl ?_
            refine og_iloadN (pc' := 67) XB hx (hb hby d2_66) rfl rfl ?_
            refine og_bipush (pc' := 69) (n := 38) XB hx (hb hby d2_67) rfl rfl ?_
            by_cases hc69_5 : x0 = (38 : Int32)
            · have hv := hv.trans (if_pos hc69_5)
              refine og_icmpYes (pc' := 132) XB hx (hb hby d2_69) (teq hc69_5).1 (by decide) (by decide) ?_
              refine og_iconst (pc' := 133) (n := 1) XB hx (hb hby d2_132) rfl rfl ?_
              refine og_goto (pc' := 137) XB hx (hb hby d2_133) (by decide) (by decide) ?_
              obtain ⟨fs, hr, hrun, hended, hW, hsame⟩ := XB.leave (v := some (.int (1 : Int32))) (fun h => by rw [Bd.returns] at h; cases h) (BodyLoose.notSynchronized Bd)
              refine ⟨_, _, retN XB hx (t := .boolean) Bd.returns (by simp) (hb hby d2_137) hr, hrun, hended, some (.int (1 : Int32)), _, rfl, ?_, ⟨_, rfl⟩, hW, hsame.mono (by decide) (by decide)⟩
              show Qg Z x0 h0 n0 _ TB.heap _
              rw [eB]
              exact ⟨(congrArg (fun z => some (Value.int z)) hv.symm), NB, rfl⟩
            · have hv := hv.trans (if_neg hc69_5)
              refine og_icmpNo (pc' := 72) XB hx (hb hby d2_69) (feq hc69_5).1 rfl ?_
              refine og_iloadN (pc' := 73) XB hx (hb hby d2_72) rfl rfl ?_
              refine og_bipush (pc' := 75) (n := 39) XB hx (hb hby d2_73) rfl rfl ?_
              by_cases hc75_6 : x0 = (39 : Int32)
              · have hv := hv.trans (if_pos hc75_6)
                refine og_icmpYes (pc' := 132) XB hx (hb hby d2_75) (teq hc75_6).1 (by decide) (by decide) ?_
                refine og_iconst (pc' := 133) (n := 1) XB hx (hb hby d2_132) rfl rfl ?_
                refine og_goto (pc' := 137) XB hx (hb hby d2_133) (by decide) (by decide) ?_
                obtain ⟨fs, hr, hrun, hended, hW, hsame⟩ := XB.leave (v := some (.int (1 : Int32))) (fun h => by rw [Bd.returns] at h; cases h) (BodyLoose.notSynchronized Bd)
                refine ⟨_, _, retN XB hx (t := .boolean) Bd.returns (by simp) (hb hby d2_137) hr, hrun, hended, some (.int (1 : Int32)), _, rfl, ?_, ⟨_, rfl⟩, hW, hsame.mono (by decide) (by decide)⟩
                show Qg Z x0 h0 n0 _ TB.heap _
                rw [eB]
                exact ⟨(congrArg (fun z => some (Value.int z)) hv.symm), NB, rfl⟩
              · have hv := hv.trans (if_neg hc75_6)
                refine og_icmpNo (pc' := 78) XB hx (hb hby d2_75) (feq hc75_6).1 rfl ?_
                refine og_iloadN (pc' := 79) XB hx (hb hby d2_78) rfl rfl ?_
                refine og_bipush (pc' := 81) (n := 42) XB hx (hb hby d2_79) rfl rfl ?_
                by_cases hc81_7 : x0 = (42 : Int32)
                · have hv := hv.trans (if_pos hc81_7)
                  refine og_icmpYes (pc' := 132) XB hx (hb hby d2_81) (teq hc81_7).1 (by decide) (by decide) ?_
                  refine og_iconst (pc' := 133) (n := 1) XB hx (hb hby d2_132) rfl rfl ?_
                  refine og_goto (pc' := 137) XB hx (hb hby d2_133) (by decide) (by decide) ?_
                  obtain ⟨fs, hr, hrun, hended, hW, hsame⟩ := XB.leave (v := some (.int (1 : Int32))) (fun h => by rw [Bd.returns] at h; cases h) (BodyLoose.notSynchronized Bd)
                  refine ⟨_, _, retN XB hx (t := .boolean) Bd.returns (by simp) (hb hby d2_137) hr, hrun, hended, some (.int (1 : Int32)), _, rfl, ?_, ⟨_, rfl⟩, hW, hsame.mono (by decide) (by decide)⟩
                  show Qg Z x0 h0 n0 _ TB.heap _
                  rw [eB]
                  exact ⟨(congrArg (fun z => some (Value.int z)) hv.symm), NB, rfl⟩
                · have hv := hv.trans (if_neg hc81_7)
                  refine og_icmpNo (pc' := 84) XB hx (hb hby d2_81) (feq hc81_7).1 rfl ?_
                  refine og_iloadN (pc' := 85) XB hx (hb hby d2_84) rfl rfl ?_
                  refine og_bipush (pc' := 87) (n := 43) XB hx (hb hby d2_85) rfl rfl ?_
                  by_cases hc87_8 : x0 = (43 : Int32)
                  · have hv := hv.trans (if_pos hc87_8)
                    refine og_icmpYes (pc' := 132) XB hx (hb hby d2_87) (teq hc87_8).1 (by decide) (by decide) ?_
                    refine og_iconst (pc' := 133) (n := 1) XB hx (hb hby d2_132) rfl rfl ?_
                    refine og_goto (pc' := 137) XB hx (hb hby d2_133) (by decide) (by decide) ?_
                    obtain ⟨fs, hr, hrun, hended, hW, hsame⟩ := XB.leave (v := some (.int (1 : Int32))) (fun h => by rw [Bd.returns] at h; cases h) (BodyLoose.notSynchronized Bd)
                    refine ⟨_, _, retN XB hx (t := .boolean) Bd.returns (by simp) (hb hby d2_137) hr, hrun, hended, some (.int (1 : Int32)), _, rfl, ?_, ⟨_, rfl⟩, hW, hsame.mono (by decide) (by decide)⟩
                    show Qg Z x0 h0 n0 _ TB.heap _
                    rw [eB]
                    exact ⟨(congrArg (fun z => some (Value.int z)) hv.symm), NB, rfl⟩
                  · have hv := hv.trans (if_neg hc87_8)
                    refine og_icmpNo (pc' := 90) XB hx (hb hby d2_87) (feq hc87_8).1 rfl ?_
                    refine og_iloadN (pc' := 91) XB hx (hb hby d2_90) rfl rfl ?_
                    refine og_bipush (pc' := 93) (n := 45) XB hx (hb hby d2_91) rfl rfl ?_
                    by_cases hc93_9 : x0 = (45 : Int32)
                    · have hv := hv.trans (if_pos hc93_9)
                      refine og_icmpYes (pc' := 132) XB hx (hb hby d2_93) (teq hc93_9).1 (by decide) (by decide) ?_
                      refine og_iconst (pc' := 133) (n := 1) XB hx (hb hby d2_132) rfl rfl ?_
                      refine og_goto (pc' := 137) XB hx (hb hby d2_133) (by decide) (by decide) ?_
                      obtain ⟨fs, hr, hrun, hended, hW, hsame⟩ := XB.leave (v := some (.int (1 : Int32))) (fun h => by rw [Bd.returns] at h; cases h) (BodyLoose.notSynchronized Bd)
                      refine ⟨_, _, retN XB hx (t := .boolean) Bd.returns (by simp) (hb hby d2_137) hr, hrun, hended, some (.int (1 : Int32)), _, rfl, ?_, ⟨_, rfl⟩, hW, hsame.mono (by decide) (by decide)⟩
                      show Qg Z x0 h0 n0 _ TB.heap _
                      rw [eB]
                      exact ⟨(congrArg (fun z => some (Value.int z)) hv.symm), NB, rfl⟩
                    · have hv := hv.trans (if_neg hc93_9)
                      refine og_icmpNo (pc' := 96) XB hx (hb hby d2_93) (feq hc93_9).1 rfl ?_
                      refine og_iloadN (pc' := 97) XB hx (hb hby d2_96) rfl rfl ?_
                      refine og_bipush (pc' := 99) (n := 46) XB hx (hb hby d2_97) rfl rfl ?_
                      by_cases hc99_10 : x0 = (46 : Int32)
                      · have hv := hv.trans (if_pos hc99_10)
                        refine og_icmpYes (pc' := 132) XB hx (hb hby d2_99) (teq hc99_10).1 (by decide) (by decide) ?_
                        refine og_iconst (pc' := 133) (n := 1) XB hx (hb hby d2_132) rfl rfl ?_
                        refine og_goto (pc' := 137) XB hx (hb hby d2_133) (by decide) (by decide) ?_
                        obtain ⟨fs, hr, hrun, hended, hW, hsame⟩ := XB.leave (v := some (.int (1 : Int32))) (fun h => by rw [Bd.returns] at h; cases h) (BodyLoose.notSynchronized Bd)
                        refine ⟨_, _, retN XB hx (t := .boolean) Bd.returns (by simp) (hb hby d2_137) hr, hrun, hended, some (.int (1 : Int32)), _, rfl, ?_, ⟨_, rfl⟩, hW, hsame.mono (by decide) (by decide)⟩
                        show Qg Z x0 h0 n0 _ TB.heap _
                        rw [eB]
                        exact ⟨(congrArg (fun z => some (Value.int z)) hv.symm), NB, rfl⟩
                      · have hv := hv.trans (if_neg hc99_10)
                        refine og_icmpNo (pc' := 102) XB hx (hb hby d2_99) (feq hc99_10).1 rfl ?_
                        refine og_iloadN (pc' := 103) XB hx (hb hby d2_102) rfl rfl ?_
                        refine og_bipush (pc' := 105) (n := 94) XB hx (hb hby d2_103) rfl rfl ?_
                        by_cases hc105_11 : x0 = (94 : Int32)
                        · have hv := hv.trans (if_pos hc105_11)
                          refine og_icmpYes (pc' := 132) XB hx (hb hby d2_105) (teq hc105_11).1 (by decide) (by decide) ?_
                          refine og_iconst (pc' := 133) (n := 1) XB hx (hb hby d2_132) rfl rfl ?_
                          refine og_goto (pc' := 137) XB hx (hb hby d2_133) (by decide) (by decide) ?_
                          obtain ⟨fs, hr, hrun, hended, hW, hsame⟩ := XB.leave (v := some (.int (1 : Int32))) (fun h => by rw [Bd.returns] at h; cases h) (BodyLoose.notSynchronized Bd)
                          refine ⟨_, _, retN XB hx (t := .boolean) Bd.returns (by simp) (hb hby d2_137) hr, hrun, hended, some (.int (1 : Int32)), _, rfl, ?_, ⟨_, rfl⟩, hW, hsame.mono (by decide) (by decide)⟩
                          show Qg Z x0 h0 n0 _ TB.heap _
                          rw [eB]
                          exact ⟨(congrArg (fun z => some (Value.int z)) hv.symm), NB, rfl⟩
                        · have hv := hv.trans (if_neg hc105_11)
                          refine og_icmpNo (pc' := 108) XB hx (hb hby d2_105) (feq hc105_11).1 rfl ?_
                          refine og_iloadN (pc' := 109) XB hx (hb hby d2_108) rfl rfl ?_
                          refine og_bipush (pc' := 111) (n := 95) XB hx (hb hby d2_109) rfl rfl ?_
                          by_cases hc111_12 : x0 = (95 : Int32)
                          · have hv := hv.trans (if_pos hc111_12)
                            refine og_icmpYes (pc' := 132) XB hx (hb hby d2_111) (teq hc111_12).1 (by decide) (by decide) ?_
                            refine og_iconst (pc' := 133) (n := 1) XB hx (hb hby d2_132) rfl rfl ?_
                            refine og_goto (pc' := 137) XB hx (hb hby d2_133) (by decide) (by decide) ?_
                            obtain ⟨fs, hr, hrun, hended, hW, hsame⟩ := XB.leave (v := some (.int (1 : Int32))) (fun h => by rw [Bd.returns] at h; cases h) (BodyLoose.notSynchronized Bd)
                            refine ⟨_, _, retN XB hx (t := .boolean) Bd.returns (by simp) (hb hby d2_137) hr, hrun, hended, some (.int (1 : Int32)), _, rfl, ?_, ⟨_, rfl⟩, hW, hsame.mono (by decide) (by decide)⟩
                            show Qg Z x0 h0 n0 _ TB.heap _
                            rw [eB]
                            exact ⟨(congrArg (fun z => some (Value.int z)) hv.symm), NB, rfl⟩
                          · have hv := hv.trans (if_neg hc111_12)
                            refine og_icmpNo (pc' := 114) XB hx (hb hby d2_111) (feq hc111_12).1 rfl ?_
                            refine og_iloadN (pc' := 115) XB hx (hb hby d2_114) rfl rfl ?_
                            refine og_bipush (pc' := 117) (n := 96) XB hx (hb hby d2_115) rfl rfl ?_
                            by_cases hc117_13 : x0 = (96 : Int32)
                            · have hv := hv.trans (if_pos hc117_13)
                              refine og_icmpYes (pc' := 132) XB hx (hb hby d2_117) (teq hc117_13).1 (by decide) (by decide) ?_
                              refine og_iconst (pc' := 133) (n := 1) XB hx (hb hby d2_132) rfl rfl ?_
                              refine og_goto (pc' := 137) XB hx (hb hby d2_133) (by decide) (by decide) ?_
                              obtain ⟨fs, hr, hrun, hended, hW, hsame⟩ := XB.leave (v := some (.int (1 : Int32))) (fun h => by rw [Bd.returns] at h; cases h) (BodyLoose.notSynchronized Bd)
                              refine ⟨_, _, retN XB hx (t := .boolean) Bd.returns (by simp) (hb hby d2_137) hr, hrun, hended, some (.int (1 : Int32)), _, rfl, ?_, ⟨_, rfl⟩, hW, hsame.mono (by decide) (by decide)⟩
                              show Qg Z x0 h0 n0 _ TB.heap _
                              rw [eB]
                              exact ⟨(congrArg (fun z => some (Value.int z)) hv.symm), NB, rfl⟩
                            · have hv := hv.trans (if_neg hc117_13)
                              refine og_icmpNo (pc' := 120) XB hx (hb hby d2_117) (feq hc117_13).1 rfl ?_
                              refine og_iloadN (pc' := 121) XB hx (hb hby d2_120) rfl rfl ?_
                              refine og_bipush (pc' := 123) (n := 124) XB hx (hb hby d2_121) rfl rfl ?_
                              by_cases hc123_14 : x0 = (124 : Int32)
                              · have hv := hv.trans (if_pos hc123_14)
                                refine og_icmpYes (pc' := 132) XB hx (hb hby d2_123) (teq hc123_14).1 (by decide) (by decide) ?_
                                refine og_iconst (pc' := 133) (n := 1) XB hx (hb hby d2_132) rfl rfl ?_
                                refine og_goto (pc' := 137) XB hx (hb hby d2_133) (by decide) (by decide) ?_
                                obtain ⟨fs, hr, hrun, hended, hW, hsame⟩ := XB.leave (v := some (.int (1 : Int32))) (fun h => by rw [Bd.returns] at h; cases h) (BodyLoose.notSynchronized Bd)
                                refine ⟨_, _, retN XB hx (t := .boolean) Bd.returns (by simp) (hb hby d2_137) hr, hrun, hended, some (.int (1 : Int32)), _, rfl, ?_, ⟨_, rfl⟩, hW, hsame.mono (by decide) (by decide)⟩
                                show Qg Z x0 h0 n0 _ TB.heap _
                                rw [eB]
                                exact ⟨(congrArg (fun z => some (Value.int z)) hv.symm), NB, rfl⟩
                              · have hv := hv.trans (if_neg hc123_14)
                                refine og_icmpNo (pc' := 126) XB hx (hb hby d2_123) (feq hc123_14).1 rfl ?_
                                refine og_iloadN (pc' := 127) XB hx (hb hby d2_126) rfl rfl ?_
                                refine og_bipush (pc' := 129) (n := 126) XB hx (hb hby d2_127) rfl rfl ?_
                                by_cases hc129_15 : x0 = (126 : Int32)
                                · have hv := hv.trans (if_pos hc129_15)
                                  refine og_icmpNo (pc' := 132) XB hx (hb hby d2_129) (teq hc129_15).2 rfl ?_
                                  refine og_iconst (pc' := 133) (n := 1) XB hx (hb hby d2_132) rfl rfl ?_
                                  refine og_goto (pc' := 137) XB hx (hb hby d2_133) (by decide) (by decide) ?_
                                  obtain ⟨fs, hr, hrun, hended, hW, hsame⟩ := XB.leave (v := some (.int (1 : Int32))) (fun h => by rw [Bd.returns] at h; cases h) (BodyLoose.notSynchronized Bd)
                                  refine ⟨_, _, retN XB hx (t := .boolean) Bd.returns (by simp) (hb hby d2_137) hr, hrun, hended, some (.int (1 : Int32)), _, rfl, ?_, ⟨_, rfl⟩, hW, hsame.mono (by decide) (by decide)⟩
                                  show Qg Z x0 h0 n0 _ TB.heap _
                                  rw [eB]
                                  exact ⟨(congrArg (fun z => some (Value.int z)) hv.symm), NB, rfl⟩
                                · have hv := hv.trans (if_neg hc129_15)
                                  refine og_icmpYes (pc' := 136) XB hx (hb hby d2_129) (feq hc129_15).2 (by decide) (by decide) ?_
                                  refine og_iconst (pc' := 137) (n := 0) XB hx (hb hby d2_136) rfl rfl ?_
                                  obtain ⟨fs, hr, hrun, hended, hW, hsame⟩ := XB.leave (v := some (.int (0 : Int32))) (fun h => by rw [Bd.returns] at h; cases h) (BodyLoose.notSynchronized Bd)
                                  refine ⟨_, _, retN XB hx (t := .boolean) Bd.returns (by simp) (hb hby d2_137) hr, hrun, hended, some (.int (0 : Int32)), _, rfl, ?_, ⟨_, rfl⟩, hW, hsame.mono (by decide) (by decide)⟩
                                  show Qg Z x0 h0 n0 _ TB.heap _
                                  rw [eB]
                                  exact ⟨(congrArg (fun z => some (Value.int z)) hv.symm), NB, rfl⟩
  have B28 : ∀ (TB : State) (Lc : List Loc) (XB : Stand p l e ({ frames := 0, cells := 0, slots := 0, locals := 0 } : Room) s m #[(.int x0)] below meth c TB Lc 0 0) (eB : TB.heap = h0) (NB : Fr n0 Lc) , own_g x0 = own_g_28 x0 → own_Go p e below (fun s₂ oc => ∃ v L, oc = .returned v ∧ Qg Z x0 h0 n0 v s₂.heap L ∧ FrameEnd s oc s₂ L ({ frames := 0, cells := 0, slots := 0, locals := 0 } : Room).cells ({ frames := 0, cells := 0, slots := 0, locals := 0 } : Room).slots) TB (mkF m 28 #[.val (.int x0)] []) := by
    intro TB Lc XB eB NB  hv
    refine og_iloadN (pc' := 29) XB hx (hb hby d2_28) rfl rfl ?_
    refine og_bipush (pc' := 31) (n := 48) XB hx (hb hby d2_29) rfl rfl ?_
    by_cases hc31_16 : x0 < (48 : Int32)
    · have hv := hv.trans (if_pos hc31_16)
      refine og_icmpYes (pc' := 42) XB hx (hb hby d2_31) (tlt hc31_16).1 (by decide) (by decide) ?_
      exact B42 TB _ XB eB NB  hv
    · have hv := hv.trans (if_neg hc31_16)
      refine og_icmpNo (pc' := 34) XB hx (hb hby d2_31) (flt hc31_16).1 rfl ?_
      refine og_iloadN (pc' := 35) XB hx (hb hby d2_34) rfl rfl ?_
      refine og_bipush (pc' := 37) (n := 57) XB hx (hb hby d2_35) rfl rfl ?_
      by_cases hc37_17 : (57 : Int32) < x0
      · have hv := hv.trans (if_pos hc37_17)
        refine og_icmpYes (pc' := 42) XB hx (hb hby d2_37) (tlt hc37_17).2.2.1 (by decide) (by decide) ?_
        exact B42 TB _ XB eB NB  hv
      · have hv := hv.trans (if_neg hc37_17)
        refine og_icmpNo (pc' := 40) XB hx (hb hby d2_37) (flt hc37_17).2.2.1 rfl ?_
        refine og_iconst (pc' := 41) (n := 1) XB hx (hb hby d2_40) rfl rfl ?_
        obtain ⟨fs, hr, hrun, hended, hW, hsame⟩ := XB.leave (v := some (.int (1 : Int32))) (fun h => by rw [Bd.returns] at h; cases h) (BodyLoose.notSynchronized Bd)
        refine ⟨_, _, retN XB hx (t := .boolean) Bd.returns (by simp) (hb hby d2_41) hr, hrun, hended, some (.int (1 : Int32)), _, rfl, ?_, ⟨_, rfl⟩, hW, hsame.mono (by decide) (by decide)⟩
        show Qg Z x0 h0 n0 _ TB.heap _
        rw [eB]
        exact ⟨(congrArg (fun z => some (Value.int z)) hv.symm), NB, rfl⟩
  have B14 : ∀ (TB : State) (Lc : List Loc) (XB : Stand p l e ({ frames := 0, cells := 0, slots := 0, locals := 0 } : Room) s m #[(.int x0)] below meth c TB Lc 0 0) (eB : TB.heap = h0) (NB : Fr n0 Lc) , own_g x0 = own_g_14 x0 → own_Go p e below (fun s₂ oc => ∃ v L, oc = .returned v ∧ Qg Z x0 h0 n0 v s₂.heap L ∧ FrameEnd s oc s₂ L ({ frames := 0, cells := 0, slots := 0, locals := 0 } : Room).cells ({ frames := 0, cells := 0, slots := 0, locals := 0 } : Room).slots) TB (mkF m 14 #[.val (.int x0)] []) := by
    intro TB Lc XB eB NB  hv
    refine og_iloadN (pc' := 15) XB hx (hb hby d2_14) rfl rfl ?_
    refine og_bipush (pc' := 17) (n := 65) XB hx (hb hby d2_15) rfl rfl ?_
    by_cases hc17_18 : x0 < (65 : Int32)
    · have hv := hv.trans (if_pos hc17_18)
      refine og_icmpYes (pc' := 28) XB hx (hb hby d2_17) (tlt hc17_18).1 (by decide) (by decide) ?_
      exact B28 TB _ XB eB NB  hv
    · have hv := hv.trans (if_neg hc17_18)
      refine og_icmpNo (pc' := 20) XB hx (hb hby d2_17) (flt hc17_18).1 rfl ?_
      refine og_iloadN (pc' := 21) XB hx (hb hby d2_20) rfl rfl ?_
      refine og_bipush (pc' := 23) (n := 90) XB hx (hb hby d2_21) rfl rfl ?_
      by_cases hc23_19 : (90 : Int32) < x0
      · have hv := hv.trans (if_pos hc23_19)
        refine og_icmpYes (pc' := 28) XB hx (hb hby d2_23) (tlt hc23_19).2.2.1 (by decide) (by decide) ?_
        exact B28 TB _ XB eB NB  hv
      · have hv := hv.trans (if_neg hc23_19)
        refine og_icmpNo (pc' := 26) XB hx (hb hby d2_23) (flt hc23_19).2.2.1 rfl ?_
        refine og_iconst (pc' := 27) (n := 1) XB hx (hb hby d2_26) rfl rfl ?_
        obtain ⟨fs, hr, hrun, hended, hW, hsame⟩ := XB.leave (v := some (.int (1 : Int32))) (fun h => by rw [Bd.returns] at h; cases h) (BodyLoose.notSynchronized Bd)
        refine ⟨_, _, retN XB hx (t := .boolean) Bd.returns (by simp) (hb hby d2_27) hr, hrun, hended, some (.int (1 : Int32)), _, rfl, ?_, ⟨_, rfl⟩, hW, hsame.mono (by decide) (by decide)⟩
        show Qg Z x0 h0 n0 _ TB.heap _
        rw [eB]
        exact ⟨(congrArg (fun z => some (Value.int z)) hv.symm), NB, rfl⟩
  refine own_Go.of (g' := mkF m 0 #[.val (.int x0)] []) (fun t k => castTop (efg m x0) k) ?_
  have hv : own_g x0 = own_g x0 := rfl
  refine og_iloadN (pc' := 1) X0 hx (hb hby d2_0) rfl rfl ?_
  refine og_bipush (pc' := 3) (n := 97) X0 hx (hb hby d2_1) rfl rfl ?_
  by_cases hc3_20 : x0 < (97 : Int32)
  · have hv := hv.trans (if_pos hc3_20)
    refine og_icmpYes (pc' := 14) X0 hx (hb hby d2_3) (tlt hc3_20).1 (by decide) (by decide) ?_
    exact B14 s₁ _ X0 e0 N0  hv
  · have hv := hv.trans (if_neg hc3_20)
    refine og_icmpNo (pc' := 6) X0 hx (hb hby d2_3) (flt hc3_20).1 rfl ?_
    refine og_iloadN (pc' := 7) X0 hx (hb hby d2_6) rfl rfl ?_
    refine og_bipush (pc' := 9) (n := 122) X0 hx (hb hby d2_7) rfl rfl ?_
    by_cases hc9_21 : (122 : Int32) < x0
    · have hv := hv.trans (if_pos hc9_21)
      refine og_icmpYes (pc' := 14) X0 hx (hb hby d2_9) (tlt hc9_21).2.2.1 (by decide) (by decide) ?_
      exact B14 s₁ _ X0 e0 N0  hv
    · have hv := hv.trans (if_neg hc9_21)
      refine og_icmpNo (pc' := 12) X0 hx (hb hby d2_9) (flt hc9_21).2.2.1 rfl ?_
      refine og_iconst (pc' := 13) (n := 1) X0 hx (hb hby d2_12) rfl rfl ?_
      obtain ⟨fs, hr, hrun, hended, hW, hsame⟩ := X0.leave (v := some (.int (1 : Int32))) (fun h => by rw [Bd.returns] at h; cases h) (BodyLoose.notSynchronized Bd)
      refine ⟨_, _, retN X0 hx (t := .boolean) Bd.returns (by simp) (hb hby d2_13) hr, hrun, hended, some (.int (1 : Int32)), _, rfl, ?_, ⟨_, rfl⟩, hW, hsame.mono (by decide) (by decide)⟩
      show Qg Z x0 h0 n0 _ s₁.heap _
      rw [e0]
      exact ⟨(congrArg (fun z => some (Value.int z)) hv.symm), N0, rfl⟩

def own_Tok (cl : Cell) : Prop := ∀ x : Int32, ¬ x < (0 : Int32) → x < (128 : Int32) → atv cl x = own_g x
theorem own_ofNat (x : Int32) (h : 0 ≤ x.toInt) : x = Int32.ofNat x.toInt.toNat := by
  rw [← Int32.toInt_inj, Int32.toInt_ofNat_small (by have := rng32 x; omega)]
  omega
theorem own_gr (lo hi : Nat) (b : Int32) (hd : ∀ n : Fin 128, lo ≤ n.val → n.val < hi → own_g (Int32.ofNat n.val) = b) (x : Int32) (h1 : (lo : Int) ≤ x.toInt) (h2 : x.toInt < (hi : Int)) (h3 : hi ≤ 128) : own_g x = b := by
  rw [own_ofNat x (by omega)]
  exact hd ⟨x.toInt.toNat, by omega⟩ (by show lo ≤ x.toInt.toNat; omega) (by show x.toInt.toNat < hi; omega)
theorem own_c (x : Int32) (n : Nat) (h : n < 2 ^ 31) : (x < Int32.ofNat n ↔ x.toInt < n) ∧ (Int32.ofNat n < x ↔ (n : Int) < x.toInt) ∧ (x = Int32.ofNat n ↔ x.toInt = n) := by
  rw [Int32.lt_iff_toInt_lt, Int32.lt_iff_toInt_lt, ← Int32.toInt_inj, Int32.toInt_ofNat_small h]
  exact ⟨Iff.rfl, Iff.rfl, Iff.rfl⟩
theorem own_g0 (x : Int32) (h : ¬ (0 ≤ x.toInt ∧ x.toInt < 128)) : own_g x = 0 := by
  have ne : ∀ n : Nat, n < 128 → ¬ x = Int32.ofNat n := fun n hn q => by have := (own_c x n (by omega)).2.2.mp q; omega
  have m42 : own_g_42 x = 0 := by
    unfold own_g_42
    rw [if_neg (show ¬ x = (33 : Int32) from ne 33 (by decide)), if_neg (show ¬ x = (35 : Int32) from ne 35 (by decide)), if_neg (show ¬ x = (36 : Int32) from ne 36 (by decide)), if_neg (show ¬ x = (37 : Int32) from ne 37 (by decide)), if_neg (show ¬ x = (38 : Int32) from ne 38 (by decide)), if_neg (show ¬ x = (39 : Int32) from ne 39 (by decide)), if_neg (show ¬ x = (42 : Int32) from ne 42 (by decide)), if_neg (show ¬ x = (43 : Int32) from ne 43 (by decide)), if_neg (show ¬ x = (45 : Int32) from ne 45 (by decide)), if_neg (show ¬ x = (46 : Int32) from ne 46 (by decide)), if_neg (show ¬ x = (94 : Int32) from ne 94 (by decide)), if_neg (show ¬ x = (95 : Int32) from ne 95 (by decide)), if_neg (show ¬ x = (96 : Int32) from ne 96 (by decide)), if_neg (show ¬ x = (124 : Int32) from ne 124 (by decide)), if_neg (show ¬ x = (126 : Int32) from ne 126 (by decide))]
  have st : ∀ lo hi : Nat, lo < 128 → hi < 128 → lo ≤ hi → ∀ f : Int32, f = 0 → (if x < Int32.ofNat lo then f else (if Int32.ofNat hi < x then f else (1 : Int32))) = 0 := by
    intro lo hi h1 h2 h3 f hf
    have c1 := own_c x lo (by omega)
    have c2 := own_c x hi (by omega)
    by_cases q : x < Int32.ofNat lo
    · rw [if_pos q, hf]
    · have q2 : Int32.ofNat hi < x := c2.2.1.mpr (by have := mt c1.1.mpr q; omega)
      rw [if_neg q, if_pos q2, hf]
  have m28 : own_g_28 x = 0 := st 48 57 (by decide) (by decide) (by decide) _ m42
  have m14 : own_g_14 x = 0 := st 65 90 (by decide) (by decide) (by decide) _ m28
  exact st 97 122 (by decide) (by decide) (by decide) _ m14
theorem own_fg {cl : Cell} (h : own_Tok cl) (x : Int32) : own_f x cl = own_g x := by
  have c0 := own_c x 0 (by decide)
  have c1 := own_c x 128 (by decide)
  unfold own_f
  by_cases h0 : x < (0 : Int32)
  · rw [if_pos h0]
    exact (own_g0 x (by have := c0.1.mp h0; omega)).symm
  · rw [if_neg h0]
    have q0 := mt c0.1.mpr h0
    by_cases h1 : x < (128 : Int32)
    · have q1 := c1.1.mp h1
      rw [if_pos h1, h x h0 h1]
      have key : ∀ n : Fin 128, (if own_g (Int32.ofNat n.val) = (0 : Int32) then (0 : Int32) else (1 : Int32)) = own_g (Int32.ofNat n.val) := by decide +kernel
      rw [own_ofNat x (by omega)]
      exact key ⟨x.toInt.toNat, by omega⟩
    · rw [if_neg h1]
      have q1 := mt c1.1.mpr h1
      exact (own_g0 x (by omega)).symm
theorem own_or {args : Array Value} {s : State} {a b : Jvm.Cond} {idx : List Nat} (h : (Jvm.Cond.or a b).value args s none s idx = some true) (ha : a.value args s none s idx = some false) : b.value args s none s idx = some true := by
  simp only [Cond.value, ha] at h
  exact h
theorem own_el {args : Array Value} {s : State} {t : Term} {a : Addr} {cl : Cell} {k b : Int32} (h : (Jvm.Cond.eq (Term.elem t (Term.int k)) (Term.int b)).value args s none s [] = some true) (ht : t.eval args s none [] s = some (.ref a)) (hc : s.heap[a]? = some cl) {x : Int32} (e : x = k) : atv cl x = b := by
  subst e
  exact atv_of (elem_in (own_eq_int h) ht (Term.int_eval x) hc).2
theorem own_is {x : Int32} (k : Nat) (h1 : (k : Int) ≤ x.toInt) (h2 : x.toInt < (k : Int) + 1) : x = Int32.ofNat k := by
  rw [own_ofNat x (by omega)]; congr 1; omega
theorem own_le {x : Int32} (k : Nat) (h : x.toInt < (k : Int)) (hk : k < 1000 := by decide) : ¬ Int32.ofNat k ≤ x := by
  rw [Int32.le_iff_toInt_le, Int32.toInt_ofNat_small (by omega)]; omega
theorem own_nlt {x : Int32} (k : Nat) (h : (k : Int) ≤ x.toInt) (hk : k < 1000 := by decide) : ¬ x < Int32.ofNat k := by
  rw [Int32.lt_iff_toInt_lt, Int32.toInt_ofNat_small (by omega)]; omega
theorem own_idx {args : Array Value} {s : State} {x : Int32} (n0 : ¬ x < 0) : (Term.index 0).eval args s none [x.toNatClampNeg] s = some (.int x) := by
  show some (Value.int x.toNatClampNeg.toInt32) = _
  rw [(back32 n0).1]
theorem own_n0 {x : Int32} (h : 0 ≤ x.toInt) : ¬ x < 0 := by
  rw [Int32.lt_iff_toInt_lt]
  have e : (0 : Int32).toInt = 0 := by decide
  rw [e]; omega
theorem own_atv {args : Array Value} {s : State} {t : Term} {a : Addr} {cl : Cell} {x b : Int32} (n0 : ¬ x < 0) (h : (Jvm.Cond.eq (Term.elem t (Term.index 0)) (Term.int b)).value args s none s [x.toNatClampNeg] = some true) (ht : t.eval args s none [x.toNatClampNeg] s = some (.ref a)) (ha : s.heap[a]? = some cl) : atv cl x = b :=
  atv_of (elem_in (own_eq_int h) ht (own_idx n0) ha).2
theorem own_rng0 {args : Array Value} {s : State} {C n d : String} {a : Addr} {cl : Cell} {hi b : Int32} (h : (Jvm.Cond.all (Term.static C n d) (Jvm.Cond.or (Jvm.Cond.le (Term.int hi) (Term.index 0)) (Jvm.Cond.eq (Term.elem (Term.static C n d) (Term.index 0)) (Term.int b)))).value args s none s [] = some true) (ht : (Term.static C n d).eval args s none [] s = some (.ref a)) (hA : s.arrayAt? a = some cl) (hH : s.heap[a]? = some cl)
    (x : Int32) (h0 : 0 ≤ x.toInt) (h1 : ¬ hi ≤ x) (h2 : x.toInt < (cl.slots.size : Int)) : atv cl x = b := by
  have n0 := own_n0 h0
  have n1 := nat_of n0
  have q := own_all h ht hA x.toNatClampNeg (by omega)
  have q1 := own_or q (nay (Cond.le_ints (Term.int_eval hi) (own_idx n0)) h1)
  exact own_atv n0 q1 ht hH
theorem own_rng {args : Array Value} {s : State} {C n d : String} {a : Addr} {cl : Cell} {lo hi b : Int32} (h : (Jvm.Cond.all (Term.static C n d) (Jvm.Cond.or (Jvm.Cond.lt (Term.index 0) (Term.int lo)) (Jvm.Cond.or (Jvm.Cond.le (Term.int hi) (Term.index 0)) (Jvm.Cond.eq (Term.elem (Term.static C n d) (Term.index 0)) (Term.int b))))).value args s none s [] = some true) (ht : (Term.static C n d).eval args s none [] s = some (.ref a)) (hA : s.arrayAt? a = some cl) (hH : s.heap[a]? = some cl)
    (x : Int32) (h0 : 0 ≤ x.toInt) (h3 : ¬ x < lo) (h1 : ¬ hi ≤ x) (h2 : x.toInt < (cl.slots.size : Int)) : atv cl x = b := by
  have n0 := own_n0 h0
  have n1 := nat_of n0
  have q := own_all h ht hA x.toNatClampNeg (by omega)
  have q1 := own_or q (nay (Cond.lt_ints (own_idx n0) (Term.int_eval lo)) h3)
  have q2 := own_or q1 (nay (Cond.le_ints (Term.int_eval hi) (own_idx n0)) h1)
  exact own_atv n0 q2 ht hH

theorem own_start {s : State} {args : Array Value} (hf : Fit s) (hi : (Jvm.Cond.initialized "com/example/annotated_resource_router/annotatedresourcerouter/message/HeaderSyntax").before args s = true) (hl : (Jvm.Cond.laysStatic "com/example/annotated_resource_router/annotatedresourcerouter/message/HeaderSyntax" "TOKEN_CHARACTERS" "[Z").before args s = true) (hn : narrow_1.value args s none s [] = some true) :
    ∃ t cl, Sta s s.heap "com/example/annotated_resource_router/annotatedresourcerouter/message/HeaderSyntax" "TOKEN_CHARACTERS" "[Z" (.ref t) ∧ Tab s s.heap t cl .boolean (128 : Int32) ∧ own_Tok cl := by
  obtain ⟨n0, m0⟩ := and_e hn
  obtain ⟨n1, m1⟩ := and_e m0
  obtain ⟨n2, m2⟩ := and_e m1
  obtain ⟨n3, m3⟩ := and_e m2
  obtain ⟨n4, m4⟩ := and_e m3
  obtain ⟨n5, m5⟩ := and_e m4
  obtain ⟨n6, m6⟩ := and_e m5
  obtain ⟨n7, m7⟩ := and_e m6
  obtain ⟨n8, m8⟩ := and_e m7
  obtain ⟨n9, m9⟩ := and_e m8
  obtain ⟨n10, m10⟩ := and_e m9
  obtain ⟨n11, m11⟩ := and_e m10
  obtain ⟨n12, m12⟩ := and_e m11
  obtain ⟨n13, m13⟩ := and_e m12
  obtain ⟨n14, m14⟩ := and_e m13
  obtain ⟨n15, m15⟩ := and_e m14
  obtain ⟨n16, m16⟩ := and_e m15
  obtain ⟨n17, m17⟩ := and_e m16
  obtain ⟨n18, m18⟩ := and_e m17
  obtain ⟨n19, m19⟩ := and_e m18
  obtain ⟨n20, m20⟩ := and_e m19
  obtain ⟨n21, m21⟩ := and_e m20
  obtain ⟨n22, m22⟩ := and_e m21
  obtain ⟨n23, m23⟩ := and_e m22
  obtain ⟨n24, n25⟩ := and_e m23
  obtain ⟨t, ec⟩ := arr_v n0
  have S := Sta.start ec (Or.inr ⟨hi, hl⟩)
  obtain ⟨cl, A⟩ := Arr.start ec n0
  have hA := A.fin (U := s) (Vm.Alike.refl _)
  obtain ⟨hb, hz⟩ := own_len n1 ec hA
  have hs : cl.slots.size = 128 := by
    have q := congrArg Int32.toInt hz
    rw [len_toInt hb] at q
    have e : (128 : Int32).toInt = 128 := by decide
    rw [e] at q
    omega
  refine ⟨t, cl, S, Tab.start hf A (Or.inr (Or.inl rfl)) hb hz (by decide), fun x h0 h1 => ?_⟩
  have q0 : 0 ≤ x.toInt := by
    rw [Int32.lt_iff_toInt_lt] at h0
    have e : (0 : Int32).toInt = 0 := by decide
    rw [e] at h0; omega
  have q1 : x.toInt < 128 := by
    rw [Int32.lt_iff_toInt_lt] at h1
    have e : (128 : Int32).toInt = 128 := by decide
    rw [e] at h1; omega
  by_cases c2 : x.toInt < 33
  · exact (own_rng0 (b := 0) n2 ec hA A.1 x (by omega) (own_le 33 c2) (by omega)).trans (own_gr 0 33 0 (by decide +kernel) x (by omega) (by omega) (by decide)).symm
  by_cases c3 : x.toInt < 34
  · exact (own_el n3 ec A.1 (own_is 33 (by omega) (by omega))).trans (own_gr 33 34 1 (by decide +kernel) x (by omega) (by omega) (by decide)).symm
  by_cases c4 : x.toInt < 35
  · exact (own_el n4 ec A.1 (own_is 34 (by omega) (by omega))).trans (own_gr 34 35 0 (by decide +kernel) x (by omega) (by omega) (by decide)).symm
  by_cases c5 : x.toInt < 40
  · exact (own_rng (b := 1) n5 ec hA A.1 x (by omega) (own_nlt 35 (by omega)) (own_le 40 c5) (by omega)).trans (own_gr 35 40 1 (by decide +kernel) x (by omega) (by omega) (by decide)).symm
  by_cases c6 : x.toInt < 41
  · exact (own_el n6 ec A.1 (own_is 40 (by omega) (by omega))).trans (own_gr 40 41 0 (by decide +kernel) x (by omega) (by omega) (by decide)).symm
  by_cases c7 : x.toInt < 42
  · exact (own_el n7 ec A.1 (own_is 41 (by omega) (by omega))).trans (own_gr 41 42 0 (by decide +kernel) x (by omega) (by omega) (by decide)).symm
  by_cases c8 : x.toInt < 43
  · exact (own_el n8 ec A.1 (own_is 42 (by omega) (by omega))).trans (own_gr 42 43 1 (by decide +kernel) x (by omega) (by omega) (by decide)).symm
  by_cases c9 : x.toInt < 44
  · exact (own_el n9 ec A.1 (own_is 43 (by omega) (by omega))).trans (own_gr 43 44 1 (by decide +kernel) x (by omega) (by omega) (by decide)).symm
  by_cases c10 : x.toInt < 45
  · exact (own_el n10 ec A.1 (own_is 44 (by omega) (by omega))).trans (own_gr 44 45 0 (by decide +kernel) x (by omega) (by omega) (by decide)).symm
  by_cases c11 : x.toInt < 46
  · exact (own_el n11 ec A.1 (own_is 45 (by omega) (by omega))).trans (own_gr 45 46 1 (by decide +kernel) x (by omega) (by omega) (by decide)).symm
  by_cases c12 : x.toInt < 47
  · exact (own_el n12 ec A.1 (own_is 46 (by omega) (by omega))).trans (own_gr 46 47 1 (by decide +kernel) x (by omega) (by omega) (by decide)).symm
  by_cases c13 : x.toInt < 48
  · exact (own_el n13 ec A.1 (own_is 47 (by omega) (by omega))).trans (own_gr 47 48 0 (by decide +kernel) x (by omega) (by omega) (by decide)).symm
  by_cases c14 : x.toInt < 58
  · exact (own_rng (b := 1) n14 ec hA A.1 x (by omega) (own_nlt 48 (by omega)) (own_le 58 c14) (by omega)).trans (own_gr 48 58 1 (by decide +kernel) x (by omega) (by omega) (by decide)).symm
  by_cases c15 : x.toInt < 65
  · exact (own_rng (b := 0) n15 ec hA A.1 x (by omega) (own_nlt 58 (by omega)) (own_le 65 c15) (by omega)).trans (own_gr 58 65 0 (by decide +kernel) x (by omega) (by omega) (by decide)).symm
  by_cases c16 : x.toInt < 91
  · exact (own_rng (b := 1) n16 ec hA A.1 x (by omega) (own_nlt 65 (by omega)) (own_le 91 c16) (by omega)).trans (own_gr 65 91 1 (by decide +kernel) x (by omega) (by omega) (by decide)).symm
  by_cases c17 : x.toInt < 92
  · exact (own_el n17 ec A.1 (own_is 91 (by omega) (by omega))).trans (own_gr 91 92 0 (by decide +kernel) x (by omega) (by omega) (by decide)).symm
  by_cases c18 : x.toInt < 93
  · exact (own_el n18 ec A.1 (own_is 92 (by omega) (by omega))).trans (own_gr 92 93 0 (by decide +kernel) x (by omega) (by omega) (by decide)).symm
  by_cases c19 : x.toInt < 94
  · exact (own_el n19 ec A.1 (own_is 93 (by omega) (by omega))).trans (own_gr 93 94 0 (by decide +kernel) x (by omega) (by omega) (by decide)).symm
  by_cases c20 : x.toInt < 123
  · exact (own_rng (b := 1) n20 ec hA A.1 x (by omega) (own_nlt 94 (by omega)) (own_le 123 c20) (by omega)).trans (own_gr 94 123 1 (by decide +kernel) x (by omega) (by omega) (by decide)).symm
  by_cases c21 : x.toInt < 124
  · exact (own_el n21 ec A.1 (own_is 123 (by omega) (by omega))).trans (own_gr 123 124 0 (by decide +kernel) x (by omega) (by omega) (by decide)).symm
  by_cases c22 : x.toInt < 125
  · exact (own_el n22 ec A.1 (own_is 124 (by omega) (by omega))).trans (own_gr 124 125 1 (by decide +kernel) x (by omega) (by omega) (by decide)).symm
  by_cases c23 : x.toInt < 126
  · exact (own_el n23 ec A.1 (own_is 125 (by omega) (by omega))).trans (own_gr 125 126 0 (by decide +kernel) x (by omega) (by omega) (by decide)).symm
  by_cases c24 : x.toInt < 127
  · exact (own_el n24 ec A.1 (own_is 126 (by omega) (by omega))).trans (own_gr 126 127 1 (by decide +kernel) x (by omega) (by omega) (by decide)).symm
  by_cases c25 : x.toInt < 128
  · exact (own_el n25 ec A.1 (own_is 127 (by omega) (by omega))).trans (own_gr 127 128 0 (by decide +kernel) x (by omega) (by omega) (by decide)).symm
  · omega

theorem pn0 : plainName "com/example/annotated_resource_router/annotatedresourcerouter/message/HeaderSyntaxIsTokenCharacterPinLaw" = true := by first | (simp [plainName, overriddenIn]; done) | decide +kernel
theorem pd_0 : parseMethodDescriptor "(I)Z" = some ⟨[.int], some .boolean⟩ := by decide +kernel
theorem ef0 (m : MethodId) (z0 : Int32) : entryFrame m #[(.int z0)] maxLocals = mkF m 0 #[.val (.int z0), .unset, .unset, .unset] [] := by first | (simp [entryFrame, mkF, argsToLocals, Value.category, maxLocals]; done) | rfl
def Q0 (Z : State) (x0 : Int32) (ta : Addr) (cl : Cell) (h0 : Heap) (n0 : Nat) (v : Option Value) (h : Heap) (L : List Loc) : Prop := v = some (.int 1) ∧ Fr n0 L
set_option maxRecDepth 65536 in
set_option maxHeartbeats 40000000 in
theorem rm0 (l : Launch) (Z : State) (a0 : Array Value) (hw : ∀ d ∈ tables_1, d.before a0 Z = true) (ws : List Jvm.Cond) (x0 : Int32) (ta : Addr) (cl : Cell) (h0 : Heap) (n0 : Nat) (Z0 : n0 ≤ h0.size) (S_t : Sta Z h0 "com/example/annotated_resource_router/annotatedresourcerouter/message/HeaderSyntax" "TOKEN_CHARACTERS" "[Z" (.ref ta)) (T_t : Tab Z h0 ta cl .boolean (128 : Int32)) (hT : own_Tok cl) :
    MetFree l x (head1 (Jvm.Cond.code x code maxLocals ret :: ws) room_1) (fun a U => a = #[(.int x0)] ∧ Z.Warmed39 U.vm ∧ U.heap = h0) (fun _ _ _ _ _ => True) (fun _ U oc U' => ∃ v L, oc = .returned v ∧ Q0 Z x0 ta cl h0 n0 v U'.heap L ∧ FrameEnd U oc U' L room_1.cells room_1.slots) := by
  refine MetFree.of_bodySF (plainFor_of_name pn0) hisR ?_
  intro p e s m args below meth c s₁ Bd hml0 hP hK
  obtain ⟨rfl, hZ, hh⟩ := hP
  have hx := Bd.exec
  have hby := Bd.bytes
  have hml : c.maxLocals = 4 := hml0
  have hown : s.vm.findClass "com/example/annotated_resource_router/annotatedresourcerouter/message/HeaderSyntaxIsTokenCharacterPinLaw" = some m.cls := findClass_of_methodNamed Bd.named
  have hnm := (name_of_methodNamed Bd.named Bd.method).1
  have X0 : Stand p l e room_1 s m #[(.int x0)] below meth c s₁ [] 0 0 := Stand.of_body Bd
  have e0 : s₁.heap = h0 := by rw [← hh, Bd.state]; rfl
  have N0 := Fr.nil n0
  show own_Go p e below (fun s₂ oc => ∃ v L, oc = .returned v ∧ Q0 Z x0 ta cl h0 n0 v s₂.heap L ∧ FrameEnd s oc s₂ L room_1.cells room_1.slots) s₁ (entryFrame m #[(.int x0)] maxLocals)
  refine own_Go.of (g' := mkF m 0 #[.val (.int x0), .unset, .unset, .unset] []) (fun t k => castTop (ef0 m x0) k) ?_
  refine og_iloadN (pc' := 1) X0 hx (hb hby at_0) rfl rfl ?_
  refine og_sipush (pc' := 4) (n := 255) X0 hx (hb hby at_1) rfl rfl ?_
  refine og_iand (pc' := 5) X0 hx (hb hby at_4) rfl ?_
  refine og_istoreN (pc' := 6) (L' := #[.val (.int x0), .val (.int (x0 &&& (255 : Int32))), .unset, .unset]) X0 hx (hb hby at_5) rfl rfl ?_
  refine og_iloadN (pc' := 7) X0 hx (hb hby at_6) rfl rfl ?_
  obtain ⟨_, _, ⟨T1, L1, k1, n1⟩, -, X1, ⟨Lc1, hQ1, l1, y1, z1⟩, st1⟩ := Jvm.LawKit.callS X0 hx (y := (⟨"com/example/annotated_resource_router/annotatedresourcerouter/message/HeaderSyntax", "isTokenCharacter", "(I)Z"⟩ : MethodName)) hown (mvT hZ (hw _ (List.mem_of_getElem? (i := 0) rfl))) (mvT hZ (hw _ (List.mem_of_getElem? (i := 1) rfl))) (mvT hZ (hw _ (List.mem_of_getElem? (i := 2) rfl))) (mvT hZ (hw _ (List.mem_of_getElem? (i := 3) rfl))) (by decide) (backOf (W := 0) (rmf l Z a0 hw [] x0 ta cl h0 n0 Z0 S_t T_t) hZ (hw _ (List.mem_of_getElem? (i := 3) rfl)) (hw _ (List.mem_of_getElem? (i := 2) rfl)) (by decide) (by decide)) (g := (mkF m 7 #[.val (.int x0), .val (.int (x0 &&& (255 : Int32))), .unset, .unset] [(.int x0)])) rfl (by rw [hml]; rfl) (argsL := [(.int x0)]) (rest := []) (lenOf pd_0 rfl) rfl (by show 2 * 0 + _ ≤ _; exact Nat.le_of_eq rfl) (hb hby at_7) (fun _ _ => ⟨rfl, e0, (by decide : 0 + 0 ≤ _), (by decide : 0 + 0 ≤ _)⟩)
  dsimp only [Pt.U, Pt.locs, Pt.cells, Pt.slots] at X1 l1 y1 z1 st1 hQ1
  subst l1 y1 z1
  obtain ⟨rfl, N1q, e1⟩ := hQ1
  have N1 := Fr.app N0 N1q
  refine own_Go.of (g' := (mkF m 10 #[.val (.int x0), .val (.int (x0 &&& (255 : Int32))), .unset, .unset] [(.int (own_f x0 cl))])) (fun t k => st1 _ k) ?_
  refine og_iloadN (pc' := 11) X1 hx (hb hby at_10) rfl rfl ?_
  obtain ⟨_, _, ⟨T2, L2, k2, n2⟩, -, X2, ⟨Lc2, hQ2, l2, y2, z2⟩, st2⟩ := Jvm.LawKit.callS X1 hx (y := (⟨"com/example/annotated_resource_router/annotatedresourcerouter/message/HeaderSyntaxIsTokenCharacterPinLaw", "tchar", "(I)Z"⟩ : MethodName)) hown (mvT hZ (hw _ (List.mem_of_getElem? (i := 6) rfl))) (mvT hZ (hw _ (List.mem_of_getElem? (i := 7) rfl))) (mvT hZ (hw _ (List.mem_of_getElem? (i := 8) rfl))) (mvT hZ (hw _ (List.mem_of_getElem? (i := 9) rfl))) (by decide) (backOf (W := 1) (rmg l Z a0 hw [] x0 h0 n0 Z0 ) hZ (hw _ (List.mem_of_getElem? (i := 9) rfl)) (hw _ (List.mem_of_getElem? (i := 8) rfl)) (by decide) (by decide)) (g := (mkF m 11 #[.val (.int x0), .val (.int (x0 &&& (255 : Int32))), .unset, .unset] [(.int x0), (.int (own_f x0 cl))])) rfl (by rw [hml]; rfl) (argsL := [(.int x0)]) (rest := [(.int (own_f x0 cl))]) (lenOf pd_0 rfl) rfl (by show 2 * 0 + _ ≤ _; exact Nat.le_of_eq rfl) (hb hby at_11) (fun _ _ => ⟨rfl, e1, (by decide : 0 + 0 ≤ _), (by decide : 0 + 0 ≤ _)⟩)
  dsimp only [Pt.U, Pt.locs, Pt.cells, Pt.slots] at X2 l2 y2 z2 st2 hQ2
  subst l2 y2 z2
  obtain ⟨rfl, N2q, e2⟩ := hQ2
  have N2 := Fr.app N1 N2q
  refine own_Go.of (g' := (mkF m 14 #[.val (.int x0), .val (.int (x0 &&& (255 : Int32))), .unset, .unset] [(.int (own_g x0)), (.int (own_f x0 cl))])) (fun t k => st2 _ k) ?_
  refine og_icmpNo (pc' := 17) X2 hx (hb hby at_14) (teq (own_fg hT _)).2 rfl ?_
  refine og_iconst (pc' := 18) (n := 1) X2 hx (hb hby at_17) rfl rfl ?_
  refine og_goto (pc' := 22) X2 hx (hb hby at_18) (by decide) (by decide) ?_
  refine og_istoreN (pc' := 23) (L' := #[.val (.int x0), .val (.int (x0 &&& (255 : Int32))), .val (.int (1 : Int32)), .unset]) X2 hx (hb hby at_22) rfl rfl ?_
  refine og_iloadN (pc' := 24) X2 hx (hb hby at_23) rfl rfl ?_
  obtain ⟨_, _, ⟨T3, L3, k3, n3⟩, -, X3, ⟨Lc3, hQ3, l3, y3, z3⟩, st3⟩ := Jvm.LawKit.callS X2 hx (y := (⟨"com/example/annotated_resource_router/annotatedresourcerouter/message/HeaderSyntax", "isTokenCharacter", "(I)Z"⟩ : MethodName)) hown (mvT hZ (hw _ (List.mem_of_getElem? (i := 0) rfl))) (mvT hZ (hw _ (List.mem_of_getElem? (i := 1) rfl))) (mvT hZ (hw _ (List.mem_of_getElem? (i := 2) rfl))) (mvT hZ (hw _ (List.mem_of_getElem? (i := 3) rfl))) (by decide) (backOf (W := 0) (rmf l Z a0 hw [] (x0 &&& (255 : Int32)) ta cl h0 n0 Z0 S_t T_t) hZ (hw _ (List.mem_of_getElem? (i := 3) rfl)) (hw _ (List.mem_of_getElem? (i := 2) rfl)) (by decide) (by decide)) (g := (mkF m 24 #[.val (.int x0), .val (.int (x0 &&& (255 : Int32))), .val (.int (1 : Int32)), .unset] [(.int (x0 &&& (255 : Int32)))])) rfl (by rw [hml]; rfl) (argsL := [(.int (x0 &&& (255 : Int32)))]) (rest := []) (lenOf pd_0 rfl) rfl (by show 2 * 0 + _ ≤ _; exact Nat.le_of_eq rfl) (hb hby at_24) (fun _ _ => ⟨rfl, e2, (by decide : 0 + 0 ≤ _), (by decide : 0 + 0 ≤ _)⟩)
  dsimp only [Pt.U, Pt.locs, Pt.cells, Pt.slots] at X3 l3 y3 z3 st3 hQ3
  subst l3 y3 z3
  obtain ⟨rfl, N3q, e3⟩ := hQ3
  have N3 := Fr.app N2 N3q
  refine own_Go.of (g' := (mkF m 27 #[.val (.int x0), .val (.int (x0 &&& (255 : Int32))), .val (.int (1 : Int32)), .unset] [(.int (own_f (x0 &&& (255 : Int32)) cl))])) (fun t k => st3 _ k) ?_
  refine og_iloadN (pc' := 28) X3 hx (hb hby at_27) rfl rfl ?_
  obtain ⟨_, _, ⟨T4, L4, k4, n4⟩, -, X4, ⟨Lc4, hQ4, l4, y4, z4⟩, st4⟩ := Jvm.LawKit.callS X3 hx (y := (⟨"com/example/annotated_resource_router/annotatedresourcerouter/message/HeaderSyntaxIsTokenCharacterPinLaw", "tchar", "(I)Z"⟩ : MethodName)) hown (mvT hZ (hw _ (List.mem_of_getElem? (i := 6) rfl))) (mvT hZ (hw _ (List.mem_of_getElem? (i := 7) rfl))) (mvT hZ (hw _ (List.mem_of_getElem? (i := 8) rfl))) (mvT hZ (hw _ (List.mem_of_getElem? (i := 9) rfl))) (by decide) (backOf (W := 1) (rmg l Z a0 hw [] (x0 &&& (255 : Int32)) h0 n0 Z0 ) hZ (hw _ (List.mem_of_getElem? (i := 9) rfl)) (hw _ (List.mem_of_getElem? (i := 8) rfl)) (by decide) (by decide)) (g := (mkF m 28 #[.val (.int x0), .val (.int (x0 &&& (255 : Int32))), .val (.int (1 : Int32)), .unset] [(.int (x0 &&& (255 : Int32))), (.int (own_f (x0 &&& (255 : Int32)) cl))])) rfl (by rw [hml]; rfl) (argsL := [(.int (x0 &&& (255 : Int32)))]) (rest := [(.int (own_f (x0 &&& (255 : Int32)) cl))]) (lenOf pd_0 rfl) rfl (by show 2 * 0 + _ ≤ _; exact Nat.le_of_eq rfl) (hb hby at_28) (fun _ _ => ⟨rfl, e3, (by decide : 0 + 0 ≤ _), (by decide : 0 + 0 ≤ _)⟩)
  dsimp only [Pt.U, Pt.locs, Pt.cells, Pt.slots] at X4 l4 y4 z4 st4 hQ4
  subst l4 y4 z4
  obtain ⟨rfl, N4q, e4⟩ := hQ4
  have N4 := Fr.app N3 N4q
  refine own_Go.of (g' := (mkF m 31 #[.val (.int x0), .val (.int (x0 &&& (255 : Int32))), .val (.int (1 : Int32)), .unset] [(.int (own_g (x0 &&& (255 : Int32)))), (.int (own_f (x0 &&& (255 : Int32)) cl))])) (fun t k => st4 _ k) ?_
  refine og_icmpNo (pc' := 34) X4 hx (hb hby at_31) (teq (own_fg hT _)).2 rfl ?_
  refine og_iconst (pc' := 35) (n := 1) X4 hx (hb hby at_34) rfl rfl ?_
  refine og_goto (pc' := 39) X4 hx (hb hby at_35) (by decide) (by decide) ?_
  refine og_istoreN (pc' := 40) (L' := #[.val (.int x0), .val (.int (x0 &&& (255 : Int32))), .val (.int (1 : Int32)), .val (.int (1 : Int32))]) X4 hx (hb hby at_39) rfl rfl ?_
  refine og_iloadN (pc' := 41) X4 hx (hb hby at_40) rfl rfl ?_
  refine og_ifNo (pc' := 44) X4 hx (hb hby at_41) ((if0 _ _).trans (feq (by decide)).1) rfl ?_
  refine og_iloadN (pc' := 45) X4 hx (hb hby at_44) rfl rfl ?_
  refine og_ifNo (pc' := 48) X4 hx (hb hby at_45) ((if0 _ _).trans (feq (by decide)).1) rfl ?_
  refine og_iconst (pc' := 49) (n := 1) X4 hx (hb hby at_48) rfl rfl ?_
  refine og_goto (pc' := 53) X4 hx (hb hby at_49) (by decide) (by decide) ?_
  obtain ⟨fs, hr, hrun, hended, hW, hsame⟩ := X4.leave (v := some (.int (1 : Int32))) (fun h => by rw [Bd.returns] at h; cases h) (BodyLoose.notSynchronized Bd)
  refine ⟨_, _, retN X4 hx (t := .boolean) Bd.returns (by simp) (hb hby at_53) hr, hrun, hended, some (.int (1 : Int32)), _, rfl, ?_, ⟨_, rfl⟩, hW, hsame.mono (by decide) (by decide)⟩
  show Q0 Z x0 ta cl h0 n0 _ T4.heap _
  rw [e4]
  exact ⟨rfl, N4⟩

set_option maxRecDepth 65536 in
set_option maxHeartbeats 40000000 in
theorem comes_1 {Post : Tables → Env → Array Value → State → Outcome → State → Prop} (hpost : ∀ tb e args s v u, (limb_1_1.after args s (.returned v) u = true ∧ limb_1_2.after args s (.returned v) u = true ∧ True) → FrameEnd s (.returned v) u (Jvm.fieldLocs frame_1_writes args s ++ Jvm.arrayLocs frame_1_arrays args s ++ Jvm.staticLocs frame_1_statics s) 0 0 → Post tb e args s (.returned v) u) :
    ArmFor flags0 classFile x code maxLocals ret World_1 tables_1 room_1 Calls_1 rest_1 Pre_1 Post := by
  intro l hfl _ _ p e ha hc hk s m args below hf hA hF happ hP
  obtain ⟨hcalls, hrest, hpre⟩ := hP
  obtain ⟨-, -, -, hnamed, -, -, -, hat⟩ := (Spec.applies_iff hf).mp happ
  obtain ⟨hg, hn⟩ := and_e (Cond.before_iff.mp (show (Jvm.Cond.and given_1 narrow_1).before args s = true from hpre))
  obtain ⟨hcnt, hg0⟩ := and_e hg
  obtain ⟨w0, rfl⟩ : ∃ w0 : Value, args = #[w0] := by
    have hs : args.size = 1 := by simpa [Cond.value, given_1] using hcnt
    obtain ⟨L⟩ := args
    match L, hs with
    | [w0], _ => exact ⟨w0, rfl⟩
  have hw := fun d (hd : d ∈ tables_1) => atoms_spec (ws := Jvm.Cond.code x code maxLocals ret :: tables_1) hat d (List.mem_cons_of_mem _ hd)
  have hfit : Fit s := fun {y c} hc i hi => by
    obtain ⟨ha, rfl⟩ := Array.getElem?_eq_some_iff.mp hc
    have q := List.all_eq_true.mp ((Array.all_eq_true_iff_forall_mem.mp hF) _ (Array.getElem_mem ha)) i (List.mem_range.mpr hi)
    simpa [Array.getElem?_eq_getElem hi] using q
  obtain ⟨i0, ei0⟩ := is_v hg0
  obtain rfl : w0 = (.int i0) := Option.some.inj ei0
  obtain ⟨ta, cl, S_t, T_t, hT⟩ := own_start hfit (hw _ (List.mem_of_getElem? (i := 2) rfl)) (hw _ (List.mem_of_getElem? (i := 5) rfl)) hn
  obtain ⟨n, o, h1, h2, h3, _, L, rfl, ⟨rfl, N⟩, hq⟩ := rm0 l s _ hw tables_1 i0 ta cl s.heap s.heap.size (Nat.le_refl _) S_t T_t hT p e ha hc hk s m _ below hf ((Spec.applies_iff_loose hf).mp happ).1 ⟨rfl, State.Warmed39.refl s, rfl⟩ trivial
  refine ⟨n, _, h1, h2, h3, hpost _ _ _ _ _ _ ⟨Cond.after_iff.mpr rfl, Cond.after_iff.mpr (eq_i res_at (Term.int_eval (1)) rfl), trivial⟩ ⟨hq.1, hq.2.1, (hq.2.2.sift fun y hy => Or.inr (N y hy)).mono (by decide) (by decide)⟩⟩
theorem main_1_1 : Claimed_1_1 := comes_1 fun _ _ _ _ _ _ h hF => ⟨h.1, hF⟩
theorem main_1_2 : Claimed_1_2 := comes_1 fun _ _ _ _ _ _ h hF => ⟨h.2.1, hF⟩

end Jvm.Pilot.@@N@@
namespace Jvm.Pilot.@@N@@
open Jvm Jvm.ClassFile Sem Op Lib Jvm.Free Jvm.Stand Jvm.Pilot.@@N@@.Jvm.D
/-! MADE BY PROGRAM (witnessworld.py) out of the Statement's table words and the real class files: 11 classes; the members and pool entries that the words name. The judged class is class 1, her method 2. -/
namespace start1
open Jvm.ClassFile
def u (s : String) : CpInfo := .utf8 (stringToUtf16 s)
/-- a pool by its gaps: so many unusable entries, then the entry; so many at the end -/
def gap : Nat → List CpInfo → List CpInfo
  | 0, r => r
  | n + 1, r => .unusable :: gap n r
def poolList (es : List (Nat × CpInfo)) (last : Nat) : List CpInfo := es.foldr (fun e r => gap e.1 (e.2 :: r)) (gap last [])
def pool (es : List (Nat × CpInfo)) (last : Nat) : Array CpInfo := ⟨poolList es last⟩
def fileOf (pool : Array CpInfo) (this : Nat) (attrs : Array Attribute := #[]) (ms : Array MethodInfo := #[]) (fl : Nat := 33) (sup : Nat := 0) (ifs : Array Nat := #[]) (fds : Array FieldInfo := #[]) : ClassFile where
  minorVersion := 0
  majorVersion := 65
  constantPool := pool
  accessFlags := fl
  thisClass := this
  superClass := sup
  interfaces := ifs
  fields := fds
  methods := ms
  attributes := attrs
def plain (name : String) (sup : Option ClassId) : Class where
  name := name
  kind := .ordinary
  loader := none
  accessFlags := 33
  super := sup
  interfaces := #[]
  cf := none
  fields := #[]
  methods := #[]
  instanceTypes := #[]
  staticTypes := #[]
  resolved := #[]
  callSites := []
  init := .initialized
  statics := none
  mirror := none

def pool0 : Array CpInfo := pool [(5, u "<init>"), (0, u "()V"), (1, .class_ 10), (1, u "java/lang/Object")] 113

def k0m0 : Method := { name := "<init>", desc := "()V", sig := { parameters := [], returnType := none }, accessFlags := 1, code := none }
/-- java/lang/Object -/
def k0 : Class := { plain "java/lang/Object" none with
  accessFlags := 33
  interfaces := #[]
  cf := some (fileOf pool0 8 #[] #[{ accessFlags := 1, nameIndex := 5, descriptorIndex := 6, attributes := #[] }] 33 0 #[] #[])
  fields := #[]
  methods := #[k0m0]
  instanceTypes := #[]
  staticTypes := #[]
  resolved := Array.replicate 124 none
  statics := none }

def pool1 : Array CpInfo := pool [(2, .class_ 4), (1, u "java/lang/Object"), (0, u "<init>"), (0, u "()V"), (0, .methodref 8 9), (0, .class_ 10), (0, .nameAndType 11 12), (0, u "com/example/annotated_resource_router/annotatedresourcerouter/message/HeaderSyntax"), (0, u "isTokenCharacter"), (0, u "(I)Z"), (0, .methodref 14 15), (0, .class_ 16), (0, .nameAndType 17 12), (0, u "com/example/annotated_resource_router/annotatedresourcerouter/message/HeaderSyntaxIsTokenCharacterPinLaw"), (0, u "tchar"), (3, u "law")] 2

def k1m0 : Method := { name := "<init>", desc := "()V", sig := { parameters := [], returnType := none }, accessFlags := 2, code := none }
def k1c1 : Code := { maxStack := 2, maxLocals := 1, code := method_2_code, exceptionTable := #[], attributes := #[] }
def k1m1 : Method := { name := "tchar", desc := "(I)Z", sig := { parameters := [.int], returnType := some .boolean }, accessFlags := 10, code := some k1c1 }
def k1c2 : Code := { maxStack := 2, maxLocals := 4, code := code, exceptionTable := #[], attributes := #[] }
def k1m2 : Method := { name := "law", desc := "(I)Z", sig := { parameters := [.int], returnType := some .boolean }, accessFlags := 9, code := some k1c2 }
/-- com/example/annotated_resource_router/annotatedresourcerouter/message/HeaderSyntaxIsTokenCharacterPinLaw -/
def k1 : Class := { plain "com/example/annotated_resource_router/annotatedresourcerouter/message/HeaderSyntaxIsTokenCharacterPinLaw" (some 0) with
  accessFlags := 49
  interfaces := #[]
  cf := some (fileOf pool1 14 #[] #[{ accessFlags := 2, nameIndex := 5, descriptorIndex := 6, attributes := #[] }, { accessFlags := 10, nameIndex := 17, descriptorIndex := 12, attributes := #[] }, { accessFlags := 9, nameIndex := 21, descriptorIndex := 12, attributes := #[] }] 49 2 #[] #[])
  fields := #[]
  methods := #[k1m0, k1m1, k1m2]
  instanceTypes := #[]
  staticTypes := #[]
  resolved := Array.replicate 24 none
  statics := none }

def pool2 : Array CpInfo := pool [(2, .class_ 4), (1, u "java/lang/Object"), (0, u "<init>"), (0, u "()V"), (0, .fieldref 8 9), (0, .class_ 10), (0, .nameAndType 11 12), (0, u "com/example/annotated_resource_router/annotatedresourcerouter/message/HeaderSyntax"), (0, u "TOKEN_CHARACTERS"), (0, u "[Z"), (16, u "isTokenCharacter"), (0, u "(I)Z"), (71, .class_ 103), (0, u "com/example/annotated_resource_router/annotatedresourcerouter/message/HeaderSyntax$Reader")] 78

def k2m0 : Method := { name := "<init>", desc := "()V", sig := { parameters := [], returnType := none }, accessFlags := 2, code := none }
def k2c1 : Code := { maxStack := 2, maxLocals := 1, code := prog_1_method_2_code, exceptionTable := #[], attributes := #[] }
def k2m1 : Method := { name := "isTokenCharacter", desc := "(I)Z", sig := { parameters := [.int], returnType := some .boolean }, accessFlags := 9, code := some k2c1 }
/-- com/example/annotated_resource_router/annotatedresourcerouter/message/HeaderSyntax -/
def k2 : Class := { plain "com/example/annotated_resource_router/annotatedresourcerouter/message/HeaderSyntax" (some 0) with
  accessFlags := 33
  interfaces := #[]
  cf := some (fileOf pool2 8 #[.nestMembers #[102]] #[{ accessFlags := 2, nameIndex := 5, descriptorIndex := 6, attributes := #[] }, { accessFlags := 9, nameIndex := 29, descriptorIndex := 30, attributes := #[] }] 33 2 #[] #[{ accessFlags := 26, nameIndex := 11, descriptorIndex := 12, attributes := #[] }])
  fields := #[{ name := "TOKEN_CHARACTERS", type := (.array .boolean), accessFlags := 26, slot := 0, constantValue := 0 }]
  methods := #[k2m0, k2m1]
  instanceTypes := #[]
  staticTypes := #[(.array .boolean)]
  resolved := Array.replicate 182 none
  statics := some 0 }

def pool3 : Array CpInfo := pool [(1, u "java/lang/Cloneable"), (0, .class_ 1), (0, u "java/lang/Object"), (0, .class_ 3)] 3

/-- java/lang/Cloneable -/
def k3 : Class := { plain "java/lang/Cloneable" (some 0) with
  accessFlags := 1537
  interfaces := #[]
  cf := some (fileOf pool3 2 #[] #[] 1537 4 #[] #[])
  fields := #[]
  methods := #[]
  instanceTypes := #[]
  staticTypes := #[]
  resolved := Array.replicate 8 none
  statics := none }

def pool4 : Array CpInfo := pool [(1, u "java/io/Serializable"), (0, .class_ 1), (0, u "java/lang/Object"), (0, .class_ 3)] 3

/-- java/io/Serializable -/
def k4 : Class := { plain "java/io/Serializable" (some 0) with
  accessFlags := 1537
  interfaces := #[]
  cf := some (fileOf pool4 2 #[] #[] 1537 4 #[] #[])
  fields := #[]
  methods := #[]
  instanceTypes := #[]
  staticTypes := #[]
  resolved := Array.replicate 8 none
  statics := none }

/-- the primitive boolean -/
def k5 : Class := { plain "boolean" none with kind := .primitive 'Z', accessFlags := 0x411 }
/-- [Z -/
def k6 : Class := { plain "[Z" (some 0) with kind := .array 5 .boolean, interfaces := #[3, 4], accessFlags := 1041 }

/-- the primitive byte -/
def k7 : Class := { plain "byte" none with kind := .primitive 'B', accessFlags := 0x411 }
/-- [B -/
def k8 : Class := { plain "[B" (some 0) with kind := .array 7 .byte, interfaces := #[3, 4], accessFlags := 1041 }

/-- the primitive int -/
def k9 : Class := { plain "int" none with kind := .primitive 'I', accessFlags := 0x411 }
/-- [I -/
def k10 : Class := { plain "[I" (some 0) with kind := .array 9 .int, interfaces := #[3, 4], accessFlags := 1041 }

def heap : Heap := #[{ cls := 2, slots := #[.ref 1], vm := .statics 2 },
  { cls := 6, slots := #[.int 0, .int 0, .int 0, .int 0, .int 0, .int 0, .int 0, .int 0, .int 0, .int 0, .int 0, .int 0, .int 0, .int 0, .int 0, .int 0, .int 0, .int 0, .int 0, .int 0, .int 0, .int 0, .int 0, .int 0, .int 0, .int 0, .int 0, .int 0, .int 0, .int 0, .int 0, .int 0, .int 0, .int 1, .int 0, .int 1, .int 1, .int 1, .int 1, .int 1, .int 0, .int 0, .int 1, .int 1, .int 0, .int 1, .int 1, .int 0, .int 1, .int 1, .int 1, .int 1, .int 1, .int 1, .int 1, .int 1, .int 1, .int 1, .int 0, .int 0, .int 0, .int 0, .int 0, .int 0, .int 0, .int 1, .int 1, .int 1, .int 1, .int 1, .int 1, .int 1, .int 1, .int 1, .int 1, .int 1, .int 1, .int 1, .int 1, .int 1, .int 1, .int 1, .int 1, .int 1, .int 1, .int 1, .int 1, .int 1, .int 1, .int 1, .int 1, .int 0, .int 0, .int 0, .int 1, .int 1, .int 1, .int 1, .int 1, .int 1, .int 1, .int 1, .int 1, .int 1, .int 1, .int 1, .int 1, .int 1, .int 1, .int 1, .int 1, .int 1, .int 1, .int 1, .int 1, .int 1, .int 1, .int 1, .int 1, .int 1, .int 1, .int 1, .int 1, .int 0, .int 1, .int 0, .int 1, .int 0], vm := .none }]
def classes : Array Class := #[k0, k1, k2, k3, k4, k5, k6, k7, k8, k9, k10]
def interned : List (Array UInt16 × Addr) := []
def slotsUsed : Nat := 129
def theMethod : MethodId := ⟨1, 2⟩
def args0 : Array Value := #[.int 65]
def aboutOver (below : List Frame) : State where
  vm := { classes := classes, interned := interned.toArray }
  heap := heap
  slotsUsed := slotsUsed
  threads := #[{ frames := .invoking theMethod args0 :: below }]
def below0 : List Frame := [.native { method := ⟨0, 0⟩, args := #[] }]
def about1 : State := aboutOver below0
def p0 : Program := .bare "" "" ""
def e0 : Env := launch0.env 0 0 0
theorem w_frames : about1.frames = Frame.invoking theMethod args0 :: below0 := rfl
set_option maxRecDepth 65536 in
theorem w_args : argsFit about1.vm theMethod args0 = true := by decide +kernel
set_option maxRecDepth 65536 in
theorem w_heap : heapFits about1 = true := by decide +kernel
set_option maxRecDepth 65536 in
theorem w_runnable : about1.curStatus? = some .runnable := by decide +kernel
set_option maxRecDepth 65536 in
theorem w_alone : about1.alone = true := by decide +kernel
set_option maxRecDepth 65536 in
theorem w_named : about1.methodNamed? x = some theMethod := by decide +kernel
set_option maxRecDepth 65536 in
theorem w_hears : about1.hears theMethod below0 = true := by decide +kernel
set_option maxRecDepth 65536 in
theorem w_ripe : about1.ripe theMethod args0 below0 = true := by decide +kernel
theorem w_running : about1.status = .running := rfl
set_option maxRecDepth 65536 in
theorem w_room : about1.hasRoom e0.platform room_1 = true :=
  launch0.hasRoom_least _ room_1 (by decide +kernel) (by decide +kernel) (by decide +kernel) (by decide +kernel) (by decide +kernel) (by decide +kernel)
theorem allAtoms_all (ts : List Jvm.Cond) (a : Array Jvm.Value) (st : Jvm.State) : (allAtoms ts).before a st = ts.all (fun c => c.before a st) := by
  induction ts with
  | nil => rfl
  | cons c t ih =>
    show (Jvm.Cond.and c (allAtoms t)).before a st = _
    rw [Jvm.Cond.before_and, ih, List.all_cons]
def words1 : List Jvm.Cond := Jvm.Cond.code x code maxLocals ret :: tables_1
/-- a 'code' word, met by the world's own term for the bytes: nothing is compared byte by byte -/
theorem code_word {y : MethodName} {bytes : ByteArray} {mx : Nat} {rt : Option FieldType} {a : Array Value} {s : State} {m : MethodId} {meth : Method} {c : Code} (h1 : s.methodNamed? y = some m) (h2 : s.vm.method? m = some meth) (h3 : meth.code = some c) (h4 : c.code = bytes)
    (h5 : (c.maxLocals == mx && c.exceptionTable.isEmpty && decide (c.maxStack ≤ mostOperands) && decide (meth.sig.returnType = rt) && !meth.locks && decide (parseMethodDescriptor y.desc = some meth.sig)) = true) : (Jvm.Cond.code y bytes mx rt).before a s = true := by
  simp only [Bool.and_eq_true, beq_iff_eq, Bool.not_eq_true', decide_eq_true_eq] at h5
  obtain ⟨⟨⟨⟨⟨g1, g2⟩, g3⟩, g4⟩, g5⟩, g6⟩ := h5
  simp [Cond.before, Cond.holds, Cond.value, h1, h2, h3, h4, g1, g2, g3, g4, g5, g6]
def isCode : Jvm.Cond → Bool
  | .code _ _ _ _ => true
  | _ => false
theorem all_split {L : List Jvm.Cond} {P : Jvm.Cond → Bool} (h1 : L.all (fun c => isCode c || P c) = true) (h2 : ∀ c ∈ L.filter isCode, P c = true) : L.all P = true := by
  refine List.all_eq_true.mpr fun c hc => ?_
  have h := List.all_eq_true.mp h1 c hc
  rcases Bool.eq_false_or_eq_true (isCode c) with hi | hi
  · exact h2 c (List.mem_filter.mpr ⟨hc, hi⟩)
  · simpa [hi] using h
set_option maxRecDepth 65536 in
theorem w_c0 : (Jvm.Cond.code x code maxLocals ret).before args0 about1 = true := code_word (m := ⟨1, 2⟩) (meth := k1m2) (c := k1c2) (by decide +kernel) rfl rfl rfl (by decide +kernel)
set_option maxRecDepth 65536 in
theorem w_c1 : (Jvm.Cond.code ({ cls := "com/example/annotated_resource_router/annotatedresourcerouter/message/HeaderSyntax", name := "isTokenCharacter", desc := "(I)Z" } : Jvm.MethodName) prog_1_method_2_code (1 : Nat) (Option.some Jvm.ClassFile.FieldType.boolean)).before args0 about1 = true := code_word (m := ⟨2, 1⟩) (meth := k2m1) (c := k2c1) (by decide +kernel) rfl rfl rfl (by decide +kernel)
set_option maxRecDepth 65536 in
theorem w_c2 : (Jvm.Cond.code ({ cls := "com/example/annotated_resource_router/annotatedresourcerouter/message/HeaderSyntaxIsTokenCharacterPinLaw", name := "tchar", desc := "(I)Z" } : Jvm.MethodName) method_2_code (1 : Nat) (Option.some Jvm.ClassFile.FieldType.boolean)).before args0 about1 = true := code_word (m := ⟨1, 1⟩) (meth := k1m1) (c := k1c1) (by decide +kernel) rfl rfl rfl (by decide +kernel)
def codes1 : List Jvm.Cond := [Jvm.Cond.code x code maxLocals ret, Jvm.Cond.code ({ cls := "com/example/annotated_resource_router/annotatedresourcerouter/message/HeaderSyntax", name := "isTokenCharacter", desc := "(I)Z" } : Jvm.MethodName) prog_1_method_2_code (1 : Nat) (Option.some Jvm.ClassFile.FieldType.boolean), Jvm.Cond.code ({ cls := "com/example/annotated_resource_router/annotatedresourcerouter/message/HeaderSyntaxIsTokenCharacterPinLaw", name := "tchar", desc := "(I)Z" } : Jvm.MethodName) method_2_code (1 : Nat) (Option.some Jvm.ClassFile.FieldType.boolean)]
set_option maxRecDepth 65536 in
theorem codes_eq : words1.filter isCode = codes1 := rfl
theorem w_codes : ∀ c ∈ words1.filter isCode, c.before args0 about1 = true := by
  rw [codes_eq]
  intro c hc
  simp only [codes1, List.mem_cons, List.not_mem_nil, or_false] at hc
  rcases hc with rfl | rfl | rfl
  · exact w_c0
  · exact w_c1
  · exact w_c2
set_option maxRecDepth 65536 in
theorem w_t1 : words1.all (fun c => isCode c || c.before args0 about1) = true := by decide +kernel
theorem w_tables : (allAtoms (Jvm.Cond.code x code maxLocals ret :: tables_1)).before args0 about1 = true := by
  rw [allAtoms_all]
  show words1.all (fun c => c.before args0 about1) = true
  refine all_split ?_ w_codes
  rw [w_t1]
set_option maxRecDepth 65536 in
theorem w_case : (Jvm.Cond.and given_1 narrow_1).before args0 about1 = true := by decide +kernel
theorem w_applies : (headSpec (Jvm.Cond.code x code maxLocals ret :: tables_1) room_1).applies x e0.platform about1 = true :=
  (Spec.applies_iff w_frames).mpr ⟨w_running, w_runnable, w_alone, w_named, w_hears, w_ripe, w_room, w_tables⟩
theorem atStart : AtStart classFile x code maxLocals ret World_1 tables_1 room_1 Calls_1 rest_1 Pre_1 launch0 p0 e0 about1 theMethod args0 below0 :=
  ⟨lists_1, trivial, launch0.admits_env _ _ _, launch0.least_env, fairChoices_fair.cas, fairChoices_fair.clock, w_frames, w_args, w_heap, w_applies, trivial, trivial, w_case⟩
end start1
theorem witness_1 : WitnessClaimed_1 := ⟨start1.p0, start1.e0, start1.about1, start1.theMethod, start1.args0, start1.below0, start1.atStart⟩
end Jvm.Pilot.@@N@@
