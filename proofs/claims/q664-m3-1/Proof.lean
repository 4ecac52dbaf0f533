import JvmDerived
import JvmDerived.Pilot.@@N@@Statement
import JvmDerived.Pilot.@@N@@Code
set_option linter.unusedVariables false
set_option linter.unusedSimpArgs false

namespace Jvm.RoadKit
open Sem ClassFile Op Lib Jvm.Stand Jvm.Free Jvm.LawKit
section New
variable {p : Program} {l : Launch} {e : Env} {R : Room} {s : State} {m : MethodId} {args : Array Value} {below : List Frame} {meth : Method} {c : Code} {T : State} {locs : List Loc} {cells slots : Nat}
theorem retI (X : Stand p l e R s m args below meth c T locs cells slots) (hx : p.tables.exec = Jvm.exec) {pc : Nat} {Ls : Array Slot} {z : Int32} {rest : List Value} (hret : meth.sig.returnType = some .int) (hd : decode c.code pc = .ok (.ireturn, 1)) {fs : List Frame}
    (hl : ∀ (f : JFrame) (acts : List Action), f.method = m → f.locked = none → f.entered = [] → (doReturn e (T.setTop f) acts (some (.int z))).1 = T.setFrames fs) : Steps p.tables e below (T.setTop (mkF m pc Ls (.int z :: rest))) (T.setFrames fs) := by
  have hm' : T.vm.method? m = some meth := X.method'
  have hn : narrow .int (.int z) = .int z := rfl
  show Steps p.tables e below (T.setTop { method := m, pc := pc, locals := Ls, stack := _ :: rest, locked := none }) _
  jvm_step X.here [X.here.top, hx, hd, hm', hret, hn]
  first | (intro acts; rw [hl _ acts rfl rfl rfl]) | rw [hl _ _ rfl rfl rfl]
  exact Steps.refl _
theorem retL (X : Stand p l e R s m args below meth c T locs cells slots) (hx : p.tables.exec = Jvm.exec) {pc : Nat} {Ls : Array Slot} {z : Int64} {rest : List Value} (hret : meth.sig.returnType = some .long) (hd : decode c.code pc = .ok (.lreturn, 1)) {fs : List Frame}
    (hl : ∀ (f : JFrame) (acts : List Action), f.method = m → f.locked = none → f.entered = [] → (doReturn e (T.setTop f) acts (some (.long z))).1 = T.setFrames fs) : Steps p.tables e below (T.setTop (mkF m pc Ls (.long z :: rest))) (T.setFrames fs) := by
  have hm' : T.vm.method? m = some meth := X.method'
  have hn : narrow .long (.long z) = .long z := rfl
  show Steps p.tables e below (T.setTop { method := m, pc := pc, locals := Ls, stack := _ :: rest, locked := none }) _
  jvm_step X.here [X.here.top, hx, hd, hm', hret, hn]
  first | (intro acts; rw [hl _ acts rfl rfl rfl]) | rw [hl _ _ rfl rfl rfl]
  exact Steps.refl _
end New
end Jvm.RoadKit
namespace Jvm.Pilot.@@N@@
open Jvm Jvm.ClassFile Sem Op Lib Jvm.Free Jvm.Stand Jvm.LawKit Jvm.RoadKit Bundle Jvm.Pilot.@@N@@.Jvm.D
/-- from here the run comes to an end of which W holds -/
def own_Go (p : Program) (e : Env) (below : List Frame) (W : State → Outcome → Prop) (T : State) (g : JFrame) : Prop :=
  ∃ s₂ o, Steps p.tables e below (T.setTop g) s₂ ∧ s₂.status = .running ∧ Ended s₂ below o ∧ W s₂ o
theorem own_Go.of {p : Program} {e : Env} {below : List Frame} {W : State → Outcome → Prop} {T T' : State} {g g' : JFrame} (f : ∀ t, Steps p.tables e below (T'.setTop g') t → Steps p.tables e below (T.setTop g) t) (k : own_Go p e below W T' g') : own_Go p e below W T g := by
  obtain ⟨s₂, o, h1, h2⟩ := k
  exact ⟨s₂, o, f _ h1, h2⟩
theorem own_via {G A : Prop} (h1 : A → G) (h2 : A) : G := h1 h2
section OwnSteps
variable {p : Program} {l : Launch} {e : Env} {R : Room} {s : State} {m : MethodId} {args : Array Value} {below : List Frame} {meth : Method} {c : Code} {T : State} {locs : List Loc} {cells slots : Nat} {W : State → Outcome → Prop} {pc pc' : Nat} {L : Array Slot} {S : List Value}
theorem og_iloadN (X : Stand p l e R s m args below meth c T locs cells slots) (hx : p.tables.exec = Jvm.exec) {k : Fin 4} {v : Int32} (hd : decode c.code pc = .ok (.iload_n k, 1)) (hl : L[k.val]? = some (.val (.int v))) (hp : pc + 1 = pc') (h : own_Go p e below W T (mkF m pc' L ((.int v) :: S))) : own_Go p e below W T (mkF m pc L S) := by
  subst hp; exact own_Go.of (fun t q => XS.iloadN X.here hx rfl hd hl q) h
theorem og_iload (X : Stand p l e R s m args below meth c T locs cells slots) (hx : p.tables.exec = Jvm.exec) {k : Nat} {v : Int32} (hd : decode c.code pc = .ok (.iload k, 2)) (hl : L[k]? = some (.val (.int v))) (hp : pc + 2 = pc') (h : own_Go p e below W T (mkF m pc' L ((.int v) :: S))) : own_Go p e below W T (mkF m pc L S) := by
  subst hp; exact own_Go.of (fun t q => XS.iload X.here hx rfl hd hl q) h
theorem og_istoreN (X : Stand p l e R s m args below meth c T locs cells slots) (hx : p.tables.exec = Jvm.exec) {k : Fin 4} {v : Int32} {L' : Array Slot} (hd : decode c.code pc = .ok (.istore_n k, 1)) (hl : storeLocals L k.val (.int v) = some L') (hp : pc + 1 = pc') (h : own_Go p e below W T (mkF m pc' L' S)) : own_Go p e below W T (mkF m pc L ((.int v) :: S)) := by
  subst hp; exact own_Go.of (fun t q => XS.istoreN X.here hx rfl hd rfl hl q) h
theorem og_istore (X : Stand p l e R s m args below meth c T locs cells slots) (hx : p.tables.exec = Jvm.exec) {k : Nat} {v : Int32} {L' : Array Slot} (hd : decode c.code pc = .ok (.istore k, 2)) (hl : storeLocals L k (.int v) = some L') (hp : pc + 2 = pc') (h : own_Go p e below W T (mkF m pc' L' S)) : own_Go p e below W T (mkF m pc L ((.int v) :: S)) := by
  subst hp; exact own_Go.of (fun t q => XS.istore X.here hx rfl hd rfl hl q) h
theorem og_lloadN (X : Stand p l e R s m args below meth c T locs cells slots) (hx : p.tables.exec = Jvm.exec) {k : Fin 4} {v : Int64} (hd : decode c.code pc = .ok (.lload_n k, 1)) (hl : L[k.val]? = some (.val (.long v))) (hp : pc + 1 = pc') (h : own_Go p e below W T (mkF m pc' L ((.long v) :: S))) : own_Go p e below W T (mkF m pc L S) := by
  subst hp; exact own_Go.of (fun t q => XS.lloadN X.here hx rfl hd hl q) h
theorem og_lload (X : Stand p l e R s m args below meth c T locs cells slots) (hx : p.tables.exec = Jvm.exec) {k : Nat} {v : Int64} (hd : decode c.code pc = .ok (.lload k, 2)) (hl : L[k]? = some (.val (.long v))) (hp : pc + 2 = pc') (h : own_Go p e below W T (mkF m pc' L ((.long v) :: S))) : own_Go p e below W T (mkF m pc L S) := by
  subst hp; exact own_Go.of (fun t q => XS.lload X.here hx rfl hd hl q) h
theorem og_lstoreN (X : Stand p l e R s m args below meth c T locs cells slots) (hx : p.tables.exec = Jvm.exec) {k : Fin 4} {v : Int64} {L' : Array Slot} (hd : decode c.code pc = .ok (.lstore_n k, 1)) (hl : storeLocals L k.val (.long v) = some L') (hp : pc + 1 = pc') (h : own_Go p e below W T (mkF m pc' L' S)) : own_Go p e below W T (mkF m pc L ((.long v) :: S)) := by
  subst hp; exact own_Go.of (fun t q => XS.lstoreN X.here hx rfl hd rfl hl q) h
theorem og_lstore (X : Stand p l e R s m args below meth c T locs cells slots) (hx : p.tables.exec = Jvm.exec) {k : Nat} {v : Int64} {L' : Array Slot} (hd : decode c.code pc = .ok (.lstore k, 2)) (hl : storeLocals L k (.long v) = some L') (hp : pc + 2 = pc') (h : own_Go p e below W T (mkF m pc' L' S)) : own_Go p e below W T (mkF m pc L ((.long v) :: S)) := by
  subst hp; exact own_Go.of (fun t q => XS.lstore X.here hx rfl hd rfl hl q) h
theorem og_aloadN (X : Stand p l e R s m args below meth c T locs cells slots) (hx : p.tables.exec = Jvm.exec) {k : Fin 4} {v : Value} (hd : decode c.code pc = .ok (.aload_n k, 1)) (hl : L[k.val]? = some (.val v)) (hv : v.isRef = true) (hp : pc + 1 = pc') (h : own_Go p e below W T (mkF m pc' L (v :: S))) : own_Go p e below W T (mkF m pc L S) := by
  subst hp; exact own_Go.of (fun t q => XS.aloadN X.here hx rfl hd hl hv q) h
theorem og_aload (X : Stand p l e R s m args below meth c T locs cells slots) (hx : p.tables.exec = Jvm.exec) {k : Nat} {v : Value} (hd : decode c.code pc = .ok (.aload k, 2)) (hl : L[k]? = some (.val v)) (hv : v.isRef = true) (hp : pc + 2 = pc') (h : own_Go p e below W T (mkF m pc' L (v :: S))) : own_Go p e below W T (mkF m pc L S) := by
  subst hp; exact own_Go.of (fun t q => XS.aload X.here hx rfl hd hl hv q) h
theorem og_astoreN (X : Stand p l e R s m args below meth c T locs cells slots) (hx : p.tables.exec = Jvm.exec) {k : Fin 4} {v : Value} {L' : Array Slot} (hd : decode c.code pc = .ok (.astore_n k, 1)) (hv : v.isRef = true) (hl : storeLocals L k.val v = some L') (hp : pc + 1 = pc') (h : own_Go p e below W T (mkF m pc' L' S)) : own_Go p e below W T (mkF m pc L (v :: S)) := by
  subst hp; exact own_Go.of (fun t q => XS.astoreN X.here hx rfl hd rfl hv hl q) h
theorem og_astore (X : Stand p l e R s m args below meth c T locs cells slots) (hx : p.tables.exec = Jvm.exec) {k : Nat} {v : Value} {L' : Array Slot} (hd : decode c.code pc = .ok (.astore k, 2)) (hv : v.isRef = true) (hl : storeLocals L k v = some L') (hp : pc + 2 = pc') (h : own_Go p e below W T (mkF m pc' L' S)) : own_Go p e below W T (mkF m pc L (v :: S)) := by
  subst hp; exact own_Go.of (fun t q => XS.astore X.here hx rfl hd rfl hv hl q) h
theorem og_iconst (X : Stand p l e R s m args below meth c T locs cells slots) (hx : p.tables.exec = Jvm.exec) {i : Int} {n : Int32} (hd : decode c.code pc = .ok (.iconst i, 1)) (hn : Int32.ofInt i = n) (hp : pc + 1 = pc') (h : own_Go p e below W T (mkF m pc' L (.int n :: S))) : own_Go p e below W T (mkF m pc L S) := by
  subst hp hn; exact own_Go.of (fun t q => XS.iconst X.here hx rfl hd q) h
theorem og_bipush (X : Stand p l e R s m args below meth c T locs cells slots) (hx : p.tables.exec = Jvm.exec) {i : Int} {n : Int32} (hd : decode c.code pc = .ok (.bipush i, 2)) (hn : (Int8.ofInt i).toInt32 = n) (hp : pc + 2 = pc') (h : own_Go p e below W T (mkF m pc' L (.int n :: S))) : own_Go p e below W T (mkF m pc L S) := by
  subst hp hn; exact own_Go.of (fun t q => XS.bipush X.here hx rfl hd q) h
theorem og_sipush (X : Stand p l e R s m args below meth c T locs cells slots) (hx : p.tables.exec = Jvm.exec) {i : Int} {n : Int32} (hd : decode c.code pc = .ok (.sipush i, 3)) (hn : (Int16.ofInt i).toInt32 = n) (hp : pc + 3 = pc') (h : own_Go p e below W T (mkF m pc' L (.int n :: S))) : own_Go p e below W T (mkF m pc L S) := by
  subst hp hn; exact own_Go.of (fun t q => XS.sipush X.here hx rfl hd q) h
theorem og_lconst0 (X : Stand p l e R s m args below meth c T locs cells slots) (hx : p.tables.exec = Jvm.exec) (hd : decode c.code pc = .ok (.lconst 0, 1)) (hp : pc + 1 = pc') (h : own_Go p e below W T (mkF m pc' L (.long (0 : Int64) :: S))) : own_Go p e below W T (mkF m pc L S) := by
  subst hp; exact own_Go.of (fun t q => XS.lconst X.here hx rfl hd q) h
theorem og_lconst1 (X : Stand p l e R s m args below meth c T locs cells slots) (hx : p.tables.exec = Jvm.exec) (hd : decode c.code pc = .ok (.lconst 1, 1)) (hp : pc + 1 = pc') (h : own_Go p e below W T (mkF m pc' L (.long (1 : Int64) :: S))) : own_Go p e below W T (mkF m pc L S) := by
  subst hp; exact own_Go.of (fun t q => XS.lconst X.here hx rfl hd q) h
theorem og_aconst_null (X : Stand p l e R s m args below meth c T locs cells slots) (hx : p.tables.exec = Jvm.exec)  (hd : decode c.code pc = .ok (.aconst_null, 1)) (hp : pc + 1 = pc') (h : own_Go p e below W T (mkF m pc' L (.null :: S))) : own_Go p e below W T (mkF m pc L S) := by
  subst hp; exact own_Go.of (fun t q => XS.aconstNull X.here hx rfl hd q) h
theorem og_iadd (X : Stand p l e R s m args below meth c T locs cells slots) (hx : p.tables.exec = Jvm.exec) {x y : Int32} (hd : decode c.code pc = .ok (.iadd, 1)) (hp : pc + 1 = pc') (h : own_Go p e below W T (mkF m pc' L (.int (x + y) :: S))) : own_Go p e below W T (mkF m pc L (.int y :: .int x :: S)) := by
  subst hp; exact own_Go.of (fun t q => XS.iadd X.here hx rfl hd rfl q) h
theorem og_ladd (X : Stand p l e R s m args below meth c T locs cells slots) (hx : p.tables.exec = Jvm.exec) {x y : Int64} (hd : decode c.code pc = .ok (.ladd, 1)) (hp : pc + 1 = pc') (h : own_Go p e below W T (mkF m pc' L (.long (x + y) :: S))) : own_Go p e below W T (mkF m pc L (.long y :: .long x :: S)) := by
  subst hp; exact own_Go.of (fun t q => XS.ladd X.here hx rfl hd rfl q) h
theorem og_isub (X : Stand p l e R s m args below meth c T locs cells slots) (hx : p.tables.exec = Jvm.exec) {x y : Int32} (hd : decode c.code pc = .ok (.isub, 1)) (hp : pc + 1 = pc') (h : own_Go p e below W T (mkF m pc' L (.int (x - y) :: S))) : own_Go p e below W T (mkF m pc L (.int y :: .int x :: S)) := by
  subst hp; exact own_Go.of (fun t q => XS.isub X.here hx rfl hd rfl q) h
theorem og_lsub (X : Stand p l e R s m args below meth c T locs cells slots) (hx : p.tables.exec = Jvm.exec) {x y : Int64} (hd : decode c.code pc = .ok (.lsub, 1)) (hp : pc + 1 = pc') (h : own_Go p e below W T (mkF m pc' L (.long (x - y) :: S))) : own_Go p e below W T (mkF m pc L (.long y :: .long x :: S)) := by
  subst hp; exact own_Go.of (fun t q => XS.lsub X.here hx rfl hd rfl q) h
theorem og_imul (X : Stand p l e R s m args below meth c T locs cells slots) (hx : p.tables.exec = Jvm.exec) {x y : Int32} (hd : decode c.code pc = .ok (.imul, 1)) (hp : pc + 1 = pc') (h : own_Go p e below W T (mkF m pc' L (.int (x * y) :: S))) : own_Go p e below W T (mkF m pc L (.int y :: .int x :: S)) := by
  subst hp; exact own_Go.of (fun t q => XS.imul X.here hx rfl hd rfl q) h
theorem og_lmul (X : Stand p l e R s m args below meth c T locs cells slots) (hx : p.tables.exec = Jvm.exec) {x y : Int64} (hd : decode c.code pc = .ok (.lmul, 1)) (hp : pc + 1 = pc') (h : own_Go p e below W T (mkF m pc' L (.long (x * y) :: S))) : own_Go p e below W T (mkF m pc L (.long y :: .long x :: S)) := by
  subst hp; exact own_Go.of (fun t q => XS.lmul X.here hx rfl hd rfl q) h
theorem og_iand (X : Stand p l e R s m args below meth c T locs cells slots) (hx : p.tables.exec = Jvm.exec) {x y : Int32} (hd : decode c.code pc = .ok (.iand, 1)) (hp : pc + 1 = pc') (h : own_Go p e below W T (mkF m pc' L (.int (x &&& y) :: S))) : own_Go p e below W T (mkF m pc L (.int y :: .int x :: S)) := by
  subst hp; exact own_Go.of (fun t q => XS.iand X.here hx rfl hd rfl q) h
theorem og_land (X : Stand p l e R s m args below meth c T locs cells slots) (hx : p.tables.exec = Jvm.exec) {x y : Int64} (hd : decode c.code pc = .ok (.land, 1)) (hp : pc + 1 = pc') (h : own_Go p e below W T (mkF m pc' L (.long (x &&& y) :: S))) : own_Go p e below W T (mkF m pc L (.long y :: .long x :: S)) := by
  subst hp; exact own_Go.of (fun t q => XS.land X.here hx rfl hd rfl q) h
theorem og_ior (X : Stand p l e R s m args below meth c T locs cells slots) (hx : p.tables.exec = Jvm.exec) {x y : Int32} (hd : decode c.code pc = .ok (.ior, 1)) (hp : pc + 1 = pc') (h : own_Go p e below W T (mkF m pc' L (.int (x ||| y) :: S))) : own_Go p e below W T (mkF m pc L (.int y :: .int x :: S)) := by
  subst hp; exact own_Go.of (fun t q => XS.ior X.here hx rfl hd rfl q) h
theorem og_lor (X : Stand p l e R s m args below meth c T locs cells slots) (hx : p.tables.exec = Jvm.exec) {x y : Int64} (hd : decode c.code pc = .ok (.lor, 1)) (hp : pc + 1 = pc') (h : own_Go p e below W T (mkF m pc' L (.long (x ||| y) :: S))) : own_Go p e below W T (mkF m pc L (.long y :: .long x :: S)) := by
  subst hp; exact own_Go.of (fun t q => XS.lor X.here hx rfl hd rfl q) h
theorem og_ixor (X : Stand p l e R s m args below meth c T locs cells slots) (hx : p.tables.exec = Jvm.exec) {x y : Int32} (hd : decode c.code pc = .ok (.ixor, 1)) (hp : pc + 1 = pc') (h : own_Go p e below W T (mkF m pc' L (.int (x ^^^ y) :: S))) : own_Go p e below W T (mkF m pc L (.int y :: .int x :: S)) := by
  subst hp; exact own_Go.of (fun t q => XS.ixor X.here hx rfl hd rfl q) h
theorem og_lxor (X : Stand p l e R s m args below meth c T locs cells slots) (hx : p.tables.exec = Jvm.exec) {x y : Int64} (hd : decode c.code pc = .ok (.lxor, 1)) (hp : pc + 1 = pc') (h : own_Go p e below W T (mkF m pc' L (.long (x ^^^ y) :: S))) : own_Go p e below W T (mkF m pc L (.long y :: .long x :: S)) := by
  subst hp; exact own_Go.of (fun t q => XS.lxor X.here hx rfl hd rfl q) h
theorem og_ineg (X : Stand p l e R s m args below meth c T locs cells slots) (hx : p.tables.exec = Jvm.exec) {x : Int32} (hd : decode c.code pc = .ok (.ineg, 1)) (hp : pc + 1 = pc') (h : own_Go p e below W T (mkF m pc' L (.int (-x) :: S))) : own_Go p e below W T (mkF m pc L (.int x :: S)) := by
  subst hp; exact own_Go.of (fun t q => XS.ineg X.here hx rfl hd rfl q) h
theorem og_lneg (X : Stand p l e R s m args below meth c T locs cells slots) (hx : p.tables.exec = Jvm.exec) {x : Int64} (hd : decode c.code pc = .ok (.lneg, 1)) (hp : pc + 1 = pc') (h : own_Go p e below W T (mkF m pc' L (.long (-x) :: S))) : own_Go p e below W T (mkF m pc L (.long x :: S)) := by
  subst hp; exact own_Go.of (fun t q => XS.lneg X.here hx rfl hd rfl q) h
theorem og_i2l (X : Stand p l e R s m args below meth c T locs cells slots) (hx : p.tables.exec = Jvm.exec) {x : Int32} (hd : decode c.code pc = .ok (.i2l, 1)) (hp : pc + 1 = pc') (h : own_Go p e below W T (mkF m pc' L (.long (x.toInt64) :: S))) : own_Go p e below W T (mkF m pc L (.int x :: S)) := by
  subst hp; exact own_Go.of (fun t q => XS.i2l X.here hx rfl hd rfl q) h
theorem og_l2i (X : Stand p l e R s m args below meth c T locs cells slots) (hx : p.tables.exec = Jvm.exec) {x : Int64} (hd : decode c.code pc = .ok (.l2i, 1)) (hp : pc + 1 = pc') (h : own_Go p e below W T (mkF m pc' L (.int (x.toInt32) :: S))) : own_Go p e below W T (mkF m pc L (.long x :: S)) := by
  subst hp; exact own_Go.of (fun t q => XS.l2i X.here hx rfl hd rfl q) h
theorem og_i2b (X : Stand p l e R s m args below meth c T locs cells slots) (hx : p.tables.exec = Jvm.exec) {x : Int32} (hd : decode c.code pc = .ok (.i2b, 1)) (hp : pc + 1 = pc') (h : own_Go p e below W T (mkF m pc' L (.int (x.toInt8.toInt32) :: S))) : own_Go p e below W T (mkF m pc L (.int x :: S)) := by
  subst hp; exact own_Go.of (fun t q => XS.i2b X.here hx rfl hd rfl q) h
theorem og_i2s (X : Stand p l e R s m args below meth c T locs cells slots) (hx : p.tables.exec = Jvm.exec) {x : Int32} (hd : decode c.code pc = .ok (.i2s, 1)) (hp : pc + 1 = pc') (h : own_Go p e below W T (mkF m pc' L (.int (x.toInt16.toInt32) :: S))) : own_Go p e below W T (mkF m pc L (.int x :: S)) := by
  subst hp; exact own_Go.of (fun t q => XS.i2s X.here hx rfl hd rfl q) h
theorem og_i2c (X : Stand p l e R s m args below meth c T locs cells slots) (hx : p.tables.exec = Jvm.exec) {x : Int32} (hd : decode c.code pc = .ok (.i2c, 1)) (hp : pc + 1 = pc') (h : own_Go p e below W T (mkF m pc' L (.int (x.toUInt32.toUInt16.toUInt32.toInt32) :: S))) : own_Go p e below W T (mkF m pc L (.int x :: S)) := by
  subst hp; exact own_Go.of (fun t q => XS.i2c X.here hx rfl hd rfl q) h
theorem og_ishl (X : Stand p l e R s m args below meth c T locs cells slots) (hx : p.tables.exec = Jvm.exec) {x : Int32} {y : Int32} (hd : decode c.code pc = .ok (.ishl, 1)) (hp : pc + 1 = pc') (h : own_Go p e below W T (mkF m pc' L (.int (x <<< (y &&& 31)) :: S))) : own_Go p e below W T (mkF m pc L (.int y :: .int x :: S)) := by
  subst hp; exact own_Go.of (fun t q => XS.ishl X.here hx rfl hd rfl q) h
theorem og_ishr (X : Stand p l e R s m args below meth c T locs cells slots) (hx : p.tables.exec = Jvm.exec) {x : Int32} {y : Int32} (hd : decode c.code pc = .ok (.ishr, 1)) (hp : pc + 1 = pc') (h : own_Go p e below W T (mkF m pc' L (.int (x >>> (y &&& 31)) :: S))) : own_Go p e below W T (mkF m pc L (.int y :: .int x :: S)) := by
  subst hp; exact own_Go.of (fun t q => XS.ishr X.here hx rfl hd rfl q) h
theorem og_iushr (X : Stand p l e R s m args below meth c T locs cells slots) (hx : p.tables.exec = Jvm.exec) {x : Int32} {y : Int32} (hd : decode c.code pc = .ok (.iushr, 1)) (hp : pc + 1 = pc') (h : own_Go p e below W T (mkF m pc' L (.int ((x.toUInt32 >>> (y &&& 31).toUInt32).toInt32) :: S))) : own_Go p e below W T (mkF m pc L (.int y :: .int x :: S)) := by
  subst hp; exact own_Go.of (fun t q => XS.iushr X.here hx rfl hd rfl q) h
theorem og_lshl (X : Stand p l e R s m args below meth c T locs cells slots) (hx : p.tables.exec = Jvm.exec) {x : Int64} {y : Int32} (hd : decode c.code pc = .ok (.lshl, 1)) (hp : pc + 1 = pc') (h : own_Go p e below W T (mkF m pc' L (.long (x <<< (y &&& 0x3f).toInt64) :: S))) : own_Go p e below W T (mkF m pc L (.int y :: .long x :: S)) := by
  subst hp; exact own_Go.of (fun t q => XS.lshl X.here hx rfl hd rfl q) h
theorem og_lshr (X : Stand p l e R s m args below meth c T locs cells slots) (hx : p.tables.exec = Jvm.exec) {x : Int64} {y : Int32} (hd : decode c.code pc = .ok (.lshr, 1)) (hp : pc + 1 = pc') (h : own_Go p e below W T (mkF m pc' L (.long (x >>> (y &&& 0x3f).toInt64) :: S))) : own_Go p e below W T (mkF m pc L (.int y :: .long x :: S)) := by
  subst hp; exact own_Go.of (fun t q => XS.lshr X.here hx rfl hd rfl q) h
theorem og_lushr (X : Stand p l e R s m args below meth c T locs cells slots) (hx : p.tables.exec = Jvm.exec) {x : Int64} {y : Int32} (hd : decode c.code pc = .ok (.lushr, 1)) (hp : pc + 1 = pc') (h : own_Go p e below W T (mkF m pc' L (.long ((x.toUInt64 >>> (y &&& 0x3f).toInt64.toUInt64).toInt64) :: S))) : own_Go p e below W T (mkF m pc L (.int y :: .long x :: S)) := by
  subst hp; exact own_Go.of (fun t q => XS.lushr X.here hx rfl hd rfl q) h
theorem og_lcmp (X : Stand p l e R s m args below meth c T locs cells slots) (hx : p.tables.exec = Jvm.exec) {x y : Int64} (hd : decode c.code pc = .ok (.lcmp, 1)) (hp : pc + 1 = pc') (h : own_Go p e below W T (mkF m pc' L (.int (lcmpW x y) :: S))) : own_Go p e below W T (mkF m pc L (.long y :: .long x :: S)) := by
  subst hp; exact own_Go.of (fun t q => XS.lcmp X.here hx rfl hd rfl q) h
theorem og_idiv (X : Stand p l e R s m args below meth c T locs cells slots) (hx : p.tables.exec = Jvm.exec) {x y : Int32} (hd : decode c.code pc = .ok (.idiv, 1)) (hy : y ≠ 0) (hp : pc + 1 = pc') (h : own_Go p e below W T (mkF m pc' L (.int (x / y) :: S))) : own_Go p e below W T (mkF m pc L (.int y :: .int x :: S)) := by
  subst hp; exact own_Go.of (fun t q => XS.idiv X.here hx rfl hd rfl hy q) h
theorem og_ldiv (X : Stand p l e R s m args below meth c T locs cells slots) (hx : p.tables.exec = Jvm.exec) {x y : Int64} (hd : decode c.code pc = .ok (.ldiv, 1)) (hy : y ≠ 0) (hp : pc + 1 = pc') (h : own_Go p e below W T (mkF m pc' L (.long (x / y) :: S))) : own_Go p e below W T (mkF m pc L (.long y :: .long x :: S)) := by
  subst hp; exact own_Go.of (fun t q => XS.ldiv X.here hx rfl hd rfl hy q) h
theorem og_irem (X : Stand p l e R s m args below meth c T locs cells slots) (hx : p.tables.exec = Jvm.exec) {x y : Int32} (hd : decode c.code pc = .ok (.irem, 1)) (hy : y ≠ 0) (hp : pc + 1 = pc') (h : own_Go p e below W T (mkF m pc' L (.int (x % y) :: S))) : own_Go p e below W T (mkF m pc L (.int y :: .int x :: S)) := by
  subst hp; exact own_Go.of (fun t q => iremM X hx rfl hd rfl hy q) h
theorem og_lrem (X : Stand p l e R s m args below meth c T locs cells slots) (hx : p.tables.exec = Jvm.exec) {x y : Int64} (hd : decode c.code pc = .ok (.lrem, 1)) (hy : y ≠ 0) (hp : pc + 1 = pc') (h : own_Go p e below W T (mkF m pc' L (.long (x - (x / y) * y) :: S))) : own_Go p e below W T (mkF m pc L (.long y :: .long x :: S)) := by
  subst hp; exact own_Go.of (fun t q => XS.lrem X.here hx rfl hd rfl hy q) h
theorem og_iinc (X : Stand p l e R s m args below meth c T locs cells slots) (hx : p.tables.exec = Jvm.exec) {k : Nat} {z : Int} {v : Int32} {L' : Array Slot} (hd : decode c.code pc = .ok (.iinc k z, 3)) (hl : L[k]? = some (.val (.int v))) (hs : storeLocals L k (.int (v + Int32.ofInt z)) = some L') (hp : pc + 3 = pc') (h : own_Go p e below W T (mkF m pc' L' S)) : own_Go p e below W T (mkF m pc L S) := by
  subst hp; exact own_Go.of (fun t q => XS.iinc X.here hx rfl hd hl hs q) h
theorem og_dup (X : Stand p l e R s m args below meth c T locs cells slots) (hx : p.tables.exec = Jvm.exec) {v : Value} (hd : decode c.code pc = .ok (.dup, 1)) (hc : v.category = 1) (hp : pc + 1 = pc') (h : own_Go p e below W T (mkF m pc' L (v :: v :: S))) : own_Go p e below W T (mkF m pc L (v :: S)) := by
  subst hp; exact own_Go.of (fun t q => XS.dup X.here hx rfl hd rfl hc q) h
theorem og_pop (X : Stand p l e R s m args below meth c T locs cells slots) (hx : p.tables.exec = Jvm.exec) {v : Value} (hd : decode c.code pc = .ok (.pop, 1)) (hc : v.category = 1) (hp : pc + 1 = pc') (h : own_Go p e below W T (mkF m pc' L S)) : own_Go p e below W T (mkF m pc L (v :: S)) := by
  subst hp; exact own_Go.of (fun t q => XS.pop X.here hx rfl hd rfl hc q) h
theorem og_dup_x1 (X : Stand p l e R s m args below meth c T locs cells slots) (hx : p.tables.exec = Jvm.exec) {v w : Value} (hd : decode c.code pc = .ok (.dup_x1, 1)) (hc : v.category = 1) (hc' : w.category = 1) (hp : pc + 1 = pc') (h : own_Go p e below W T (mkF m pc' L (v :: w :: v :: S))) : own_Go p e below W T (mkF m pc L (v :: w :: S)) := by
  subst hp; exact own_Go.of (fun t q => XS.dupX1 X.here hx rfl hd rfl hc hc' q) h
theorem og_goto (X : Stand p l e R s m args below meth c T locs cells slots) (hx : p.tables.exec = Jvm.exec) {o : Int} (hd : decode c.code pc = .ok (.goto o, 3)) (ho : 0 ≤ (pc : Int) + o) (hp : ((pc : Int) + o).toNat = pc') (h : own_Go p e below W T (mkF m pc' L S)) : own_Go p e below W T (mkF m pc L S) := by
  exact own_Go.of (fun t q => XS.goto X.here hx rfl rfl hd ho hp q) h
theorem og_ifYes (X : Stand p l e R s m args below meth c T locs cells slots) (hx : p.tables.exec = Jvm.exec) {cd : ClassFile.Cond} {x : Int32} {o : Int} (hd : decode c.code pc = .ok (.ifCond cd o, 3)) (hc : ifCond.holds cd x = true) (ho : 0 ≤ (pc : Int) + o) (hp : ((pc : Int) + o).toNat = pc') (h : own_Go p e below W T (mkF m pc' L S)) : own_Go p e below W T (mkF m pc L (.int x :: S)) := by
  exact own_Go.of (fun t q => XS.ifYes X.here hx rfl rfl hd rfl hc ho hp q) h
theorem og_ifNo (X : Stand p l e R s m args below meth c T locs cells slots) (hx : p.tables.exec = Jvm.exec) {cd : ClassFile.Cond} {x : Int32} {o : Int} (hd : decode c.code pc = .ok (.ifCond cd o, 3)) (hc : ifCond.holds cd x = false) (hp : pc + 3 = pc') (h : own_Go p e below W T (mkF m pc' L S)) : own_Go p e below W T (mkF m pc L (.int x :: S)) := by
  subst hp; exact own_Go.of (fun t q => XS.ifNo X.here hx rfl hd rfl hc q) h
theorem og_icmpYes (X : Stand p l e R s m args below meth c T locs cells slots) (hx : p.tables.exec = Jvm.exec) {cd : ClassFile.Cond} {x y : Int32} {o : Int} (hd : decode c.code pc = .ok (.if_icmp cd o, 3)) (hc : if_icmp.holds cd x y = true) (ho : 0 ≤ (pc : Int) + o) (hp : ((pc : Int) + o).toNat = pc') (h : own_Go p e below W T (mkF m pc' L S)) : own_Go p e below W T (mkF m pc L (.int y :: .int x :: S)) := by
  exact own_Go.of (fun t q => XS.icmpYes X.here hx rfl rfl hd rfl hc ho hp q) h
theorem og_icmpNo (X : Stand p l e R s m args below meth c T locs cells slots) (hx : p.tables.exec = Jvm.exec) {cd : ClassFile.Cond} {x y : Int32} {o : Int} (hd : decode c.code pc = .ok (.if_icmp cd o, 3)) (hc : if_icmp.holds cd x y = false) (hp : pc + 3 = pc') (h : own_Go p e below W T (mkF m pc' L S)) : own_Go p e below W T (mkF m pc L (.int y :: .int x :: S)) := by
  subst hp; exact own_Go.of (fun t q => XS.icmpNo X.here hx rfl hd rfl hc q) h
theorem og_ifnullYes (X : Stand p l e R s m args below meth c T locs cells slots) (hx : p.tables.exec = Jvm.exec) {o : Int} (hd : decode c.code pc = .ok (.ifnull o, 3)) (ho : 0 ≤ (pc : Int) + o) (hp : ((pc : Int) + o).toNat = pc') (h : own_Go p e below W T (mkF m pc' L S)) : own_Go p e below W T (mkF m pc L (.null :: S)) := by
  exact own_Go.of (fun t q => XS.ifnullYes X.here hx rfl rfl hd rfl ho hp q) h
theorem og_ifnullNo (X : Stand p l e R s m args below meth c T locs cells slots) (hx : p.tables.exec = Jvm.exec) {b : Addr} {o : Int} (hd : decode c.code pc = .ok (.ifnull o, 3)) (hp : pc + 3 = pc') (h : own_Go p e below W T (mkF m pc' L S)) : own_Go p e below W T (mkF m pc L (.ref b :: S)) := by
  subst hp; exact own_Go.of (fun t q => XS.ifnullNo X.here hx rfl hd rfl q) h
theorem og_ifnonnullYes (X : Stand p l e R s m args below meth c T locs cells slots) (hx : p.tables.exec = Jvm.exec) {b : Addr} {o : Int} (hd : decode c.code pc = .ok (.ifnonnull o, 3)) (ho : 0 ≤ (pc : Int) + o) (hp : ((pc : Int) + o).toNat = pc') (h : own_Go p e below W T (mkF m pc' L S)) : own_Go p e below W T (mkF m pc L (.ref b :: S)) := by
  exact own_Go.of (fun t q => XS.ifnonnullYes X.here hx rfl rfl hd rfl ho hp q) h
theorem og_ifnonnullNo (X : Stand p l e R s m args below meth c T locs cells slots) (hx : p.tables.exec = Jvm.exec) {o : Int} (hd : decode c.code pc = .ok (.ifnonnull o, 3)) (hp : pc + 3 = pc') (h : own_Go p e below W T (mkF m pc' L S)) : own_Go p e below W T (mkF m pc L (.null :: S)) := by
  subst hp; exact own_Go.of (fun t q => XS.ifnonnullNo X.here hx rfl hd rfl q) h
theorem og_ldc (X : Stand p l e R s m args below meth c T locs cells slots) (hx : p.tables.exec = Jvm.exec) {own : String} {index : Nat} {v : Int32} (hd : decode c.code pc = .ok (.ldc index, 2)) (hown : s.vm.findClass own = some m.cls) (w : (Jvm.Cond.constant own index v).before args s = true) (hp : pc + 2 = pc') (h : own_Go p e below W T (mkF m pc' L (.int v :: S))) : own_Go p e below W T (mkF m pc L S) := by
  subst hp; exact own_Go.of (fun t q => X.ldcInt hx hown w (g := mkF m pc L S) rfl hd _ q) h
theorem og_ldc2_w (X : Stand p l e R s m args below meth c T locs cells slots) (hx : p.tables.exec = Jvm.exec) {own : String} {index : Nat} {v : Int64} (hd : decode c.code pc = .ok (.ldc2_w index, 3)) (hown : s.vm.findClass own = some m.cls) (w : (Jvm.Cond.constantLong own index v).before args s = true) (hp : pc + 3 = pc') (h : own_Go p e below W T (mkF m pc' L (.long v :: S))) : own_Go p e below W T (mkF m pc L S) := by
  subst hp; exact own_Go.of (fun t q => X.ldc2Long hx hown w (g := mkF m pc L S) rfl hd _ q) h
end OwnSteps
def own_min (x0 : Int32) (x1 : Int32) : Int32 := (if x1 < x0 then x1 else x0)
theorem d5_0 : decode jdk_29_method_69_code 0 = .ok (.iload_n 0, 1) := by decide +kernel
theorem d5_1 : decode jdk_29_method_69_code 1 = .ok (.iload_n 1, 1) := by decide +kernel
theorem d5_2 : decode jdk_29_method_69_code 2 = .ok (.if_icmp .gt 7, 3) := by decide +kernel
theorem d5_5 : decode jdk_29_method_69_code 5 = .ok (.iload_n 0, 1) := by decide +kernel
theorem d5_6 : decode jdk_29_method_69_code 6 = .ok (.goto 4, 3) := by decide +kernel
theorem d5_9 : decode jdk_29_method_69_code 9 = .ok (.iload_n 1, 1) := by decide +kernel
theorem d5_10 : decode jdk_29_method_69_code 10 = .ok (.ireturn, 1) := by decide +kernel
theorem efmn (m : MethodId) (z0 : Int32) (z1 : Int32) : entryFrame m #[(.int z0), (.int z1)] 2 = mkF m 0 #[.val (.int z0), .val (.int z1)] [] := by first | (simp [entryFrame, mkF, argsToLocals, Value.category]; done) | rfl
def Qmn (Z : State) (x0 : Int32) (x1 : Int32) (h0 : Heap) (n0 : Nat) (v : Option Value) (h : Heap) (L : List Loc) : Prop := v = some (.int (own_min x0 x1)) ∧ Fr n0 L ∧ h = h0
set_option maxRecDepth 65536 in
set_option maxHeartbeats 40000000 in
theorem rmmn (l : Launch) (Z : State) (a0 : Array Value) (hw : ∀ d ∈ tables_1, d.before a0 Z = true) (ws : List Jvm.Cond) (x0 : Int32) (x1 : Int32) (h0 : Heap) (n0 : Nat) (Z0 : n0 ≤ h0.size) :
    MetFree l (⟨"java/lang/Math", "min", "(II)I"⟩ : MethodName) (head1 (Jvm.Cond.code (⟨"java/lang/Math", "min", "(II)I"⟩ : MethodName) jdk_29_method_69_code 2 (some .int) :: ws) ({ frames := 0, cells := 0, slots := 0, locals := 0 } : Room)) (fun a U => a = #[(.int x0), (.int x1)] ∧ Z.Warmed39 U.vm ∧ U.heap = h0) (fun _ _ _ _ _ => True) (fun _ U oc U' => ∃ v L, oc = .returned v ∧ Qmn Z x0 x1 h0 n0 v U'.heap L ∧ FrameEnd U oc U' L ({ frames := 0, cells := 0, slots := 0, locals := 0 } : Room).cells ({ frames := 0, cells := 0, slots := 0, locals := 0 } : Room).slots) := by
  refine MetFree.of_bodySF (Jvm.Free.JP.mathPlain rfl (by decide +kernel)) hisR ?_
  intro p e s m args below meth c s₁ Bd hml0 hP hK
  obtain ⟨rfl, hZ, hh⟩ := hP
  have hx := Bd.exec
  have hby := Bd.bytes
  have hml : c.maxLocals = 2 := hml0
  have hown : s.vm.findClass "java/lang/Math" = some m.cls := findClass_of_methodNamed Bd.named
  have hnm := (name_of_methodNamed Bd.named Bd.method).1
  have X0 : Stand p l e ({ frames := 0, cells := 0, slots := 0, locals := 0 } : Room) s m #[(.int x0), (.int x1)] below meth c s₁ [] 0 0 := Stand.of_body Bd
  have e0 : s₁.heap = h0 := by rw [← hh, Bd.state]; rfl
  have N0 := Fr.nil n0
  show own_Go p e below (fun s₂ oc => ∃ v L, oc = .returned v ∧ Qmn Z x0 x1 h0 n0 v s₂.heap L ∧ FrameEnd s oc s₂ L ({ frames := 0, cells := 0, slots := 0, locals := 0 } : Room).cells ({ frames := 0, cells := 0, slots := 0, locals := 0 } : Room).slots) s₁ (entryFrame m #[(.int x0), (.int x1)] 2)
  refine own_Go.of (g' := mkF m 0 #[.val (.int x0), .val (.int x1)] []) (fun t k => castTop (efmn m x0 x1) k) ?_
  have hv : own_min x0 x1 = own_min x0 x1 := rfl
  refine og_iloadN (pc' := 1) X0 hx (hb hby d5_0) rfl rfl ?_
  refine og_iloadN (pc' := 2) X0 hx (hb hby d5_1) rfl rfl ?_
  by_cases hc2_1 : x1 < x0
  · have hv := hv.trans (if_pos hc2_1)
    refine og_icmpYes (pc' := 9) X0 hx (hb hby d5_2) (tlt hc2_1).2.2.1 (by decide) (by decide) ?_
    refine og_iloadN (pc' := 10) X0 hx (hb hby d5_9) rfl rfl ?_
    obtain ⟨fs, hr, hrun, hended, hW, hsame⟩ := X0.leave (v := some (.int x1)) (fun h => by rw [Bd.returns] at h; cases h) (BodyLoose.notSynchronized Bd)
    refine ⟨_, _, retI X0 hx Bd.returns (hb hby d5_10) hr, hrun, hended, some (.int x1), _, rfl, ?_, ⟨_, rfl⟩, hW, hsame.mono (by decide) (by decide)⟩
    show Qmn Z x0 x1 h0 n0 _ s₁.heap _
    rw [e0]
    exact ⟨(congrArg (fun z => some (Value.int z)) hv.symm), N0, rfl⟩
  · have hv := hv.trans (if_neg hc2_1)
    refine og_icmpNo (pc' := 5) X0 hx (hb hby d5_2) (flt hc2_1).2.2.1 rfl ?_
    refine og_iloadN (pc' := 6) X0 hx (hb hby d5_5) rfl rfl ?_
    refine og_goto (pc' := 10) X0 hx (hb hby d5_6) (by decide) (by decide) ?_
    obtain ⟨fs, hr, hrun, hended, hW, hsame⟩ := X0.leave (v := some (.int x0)) (fun h => by rw [Bd.returns] at h; cases h) (BodyLoose.notSynchronized Bd)
    refine ⟨_, _, retI X0 hx Bd.returns (hb hby d5_10) hr, hrun, hended, some (.int x0), _, rfl, ?_, ⟨_, rfl⟩, hW, hsame.mono (by decide) (by decide)⟩
    show Qmn Z x0 x1 h0 n0 _ s₁.heap _
    rw [e0]
    exact ⟨(congrArg (fun z => some (Value.int z)) hv.symm), N0, rfl⟩

theorem d1_0 : decode prog_19_method_1_code 0 = .ok (.aload_n 0, 1) := by decide +kernel
theorem d1_1 : decode prog_19_method_1_code 1 = .ok (.invokespecial 1, 3) := by decide +kernel
theorem d1_4 : decode prog_19_method_1_code 4 = .ok (.aload_n 0, 1) := by decide +kernel
theorem d1_5 : decode prog_19_method_1_code 5 = .ok (.iconst 1, 1) := by decide +kernel
theorem d1_6 : decode prog_19_method_1_code 6 = .ok (.newarray .long, 2) := by decide +kernel
theorem d1_8 : decode prog_19_method_1_code 8 = .ok (.putfield 7, 3) := by decide +kernel
theorem d1_11 : decode prog_19_method_1_code 11 = .ok (.return_, 1) := by decide +kernel
theorem pnini : plainName "com/example/ostracon/ostracon/LastValues" = true := by first | (simp [plainName, overriddenIn]; done) | decide +kernel
theorem efini (m : MethodId) (z0 : Addr) : entryFrame m #[(.ref z0)] 1 = mkF m 0 #[.val (.ref z0)] [] := by first | (simp [entryFrame, mkF, argsToLocals, Value.category]; done) | rfl
def Qini (Z : State) (o : Addr) (u : Value) (h0 : Heap) (n0 : Nat) (v : Option Value) (h : Heap) (L : List Loc) : Prop := ∃ (b : Addr) (k : ClassId), v = none ∧ Fr n0 L ∧ Keep h0 h [o] ∧ h0.size ≤ b ∧ Exa Z h o "com/example/ostracon/ostracon/LastValues" ∧ Fld Z h o "com/example/ostracon/ostracon/LastValues" "values" "[J" (.ref b) ∧ Fld Z h o "com/example/ostracon/ostracon/LastValues" "start" "I" (.int (0 : Int32)) ∧ Fld Z h o "com/example/ostracon/ostracon/LastValues" "count" "I" (.int (0 : Int32)) ∧ Arv Z h b k .long (1 : Int32) [(.long (0 : Int64))] (.long (0 : Int64))
set_option maxRecDepth 65536 in
set_option maxHeartbeats 40000000 in
theorem rmini (l : Launch) (Z : State) (a0 : Array Value) (hw : ∀ d ∈ tables_1, d.before a0 Z = true) (ws : List Jvm.Cond) (o : Addr) (u : Value) (h0 : Heap) (n0 : Nat) (Z0 : n0 ≤ h0.size) (E_o : Exa Z h0 o "com/example/ostracon/ostracon/LastValues") (F_o : Fld Z h0 o "com/example/ostracon/ostracon/LastValues" "values" "[J" u) (F2_o : Fld Z h0 o "com/example/ostracon/ostracon/LastValues" "start" "I" (.int (0 : Int32))) (F3_o : Fld Z h0 o "com/example/ostracon/ostracon/LastValues" "count" "I" (.int (0 : Int32))) (g_o : n0 ≤ o) :
    MetFree l (⟨"com/example/ostracon/ostracon/LastValues", "<init>", "()V"⟩ : MethodName) (head1 (Jvm.Cond.code (⟨"com/example/ostracon/ostracon/LastValues", "<init>", "()V"⟩ : MethodName) prog_19_method_1_code 1 none :: ws) ({ frames := 1, cells := 1, slots := 1, locals := 12 } : Room)) (fun a U => a = #[(.ref o)] ∧ Z.Warmed39 U.vm ∧ U.heap = h0) (fun _ _ _ _ _ => True) (fun _ U oc U' => ∃ v L, oc = .returned v ∧ Qini Z o u h0 n0 v U'.heap L ∧ FrameEnd U oc U' L ({ frames := 1, cells := 1, slots := 1, locals := 12 } : Room).cells ({ frames := 1, cells := 1, slots := 1, locals := 12 } : Room).slots) := by
  refine MetFree.of_bodySF (plainFor_of_name pnini) hisR ?_
  intro p e s m args below meth c s₁ Bd hml0 hP hK
  obtain ⟨rfl, hZ, hh⟩ := hP
  have hx := Bd.exec
  have hby := Bd.bytes
  have hml : c.maxLocals = 1 := hml0
  have hown : s.vm.findClass "com/example/ostracon/ostracon/LastValues" = some m.cls := findClass_of_methodNamed Bd.named
  have hnm := (name_of_methodNamed Bd.named Bd.method).1
  have X0 : Stand p l e ({ frames := 1, cells := 1, slots := 1, locals := 12 } : Room) s m #[(.ref o)] below meth c s₁ [] 0 0 := Stand.of_body Bd
  have e0 : s₁.heap = h0 := by rw [← hh, Bd.state]; rfl
  have N0 := Fr.nil n0
  show own_Go p e below (fun s₂ oc => ∃ v L, oc = .returned v ∧ Qini Z o u h0 n0 v s₂.heap L ∧ FrameEnd s oc s₂ L ({ frames := 1, cells := 1, slots := 1, locals := 12 } : Room).cells ({ frames := 1, cells := 1, slots := 1, locals := 12 } : Room).slots) s₁ (entryFrame m #[(.ref o)] 1)
  refine own_Go.of (g' := mkF m 0 #[.val (.ref o)] []) (fun t k => castTop (efini m o) k) ?_
  refine og_aloadN (pc' := 1) X0 hx (hb hby d1_0) rfl rfl rfl ?_
  obtain ⟨T1, X1, e1, st1⟩ := initO X0 hx hZ hown (hw _ (List.mem_of_getElem? (i := 7) rfl)) (hw _ (List.mem_of_getElem? (i := 8) rfl)) (hw _ (List.mem_of_getElem? (i := 9) rfl)) e0 (g := (mkF m 1 #[.val (.ref o)] [(.ref o)])) rfl (by rw [hml]; rfl) rfl (hb hby d1_1) (by decide) (W := 0) (by show 2 * 0 + _ ≤ _; exact Nat.le_of_eq rfl) (by decide)
  refine own_Go.of (g' := (mkF m 4 #[.val (.ref o)] [])) (fun t k => st1 _ k) ?_
  refine og_aloadN (pc' := 5) X1 hx (hb hby d1_4) rfl rfl rfl ?_
  refine og_iconst (pc' := 6) (n := 1) X1 hx (hb hby d1_5) rfl rfl ?_
  obtain ⟨T2, h2, k2, X2, e2, E2, A2, st2⟩ := newP X1 hx hZ (hw _ (List.mem_of_getElem? (i := 10) rfl)) e1 (g := (mkF m 6 #[.val (.ref o)] [(.int (1 : Int32)), (.ref o)])) rfl (hb hby d1_6) rfl (by decide) (cap := 1) (by decide) (by decide) (by decide) (by decide)
  obtain ⟨b2, g2⟩ : ∃ z, z = h0.size := ⟨_, rfl⟩
  rw [← g2] at A2 st2
  have ne2_0 : o ≠ b2 := Nat.ne_of_lt (Nat.lt_of_lt_of_le E_o.lt (Nat.le_of_eq g2.symm))
  have g_b2 : n0 ≤ b2 := Nat.le_trans Z0 (Nat.le_of_eq g2.symm)
  have sz_b2 : h0.size ≤ b2 := Nat.le_trans (Keep.refl h0 [o]).1 (Nat.le_of_eq g2.symm)
  have f2_0 := E_o.ext E2
  have f2_1 := F_o.ext E2
  have f2_2 := F2_o.ext E2
  have f2_3 := F3_o.ext E2
  have V2 : Arv Z h2 b2 k2 .long (1 : Int32) [(.long (0 : Int64))] (.long (0 : Int64)) := (Arv.new A2 (by decide)).pad (pad_rep [] (.long (0 : Int64)) 1)
  have K2 : Keep h0 h2 [o] := (Keep.refl h0 [o]).ext E2
  have Z2 : n0 ≤ h2.size := Nat.le_trans Z0 K2.1
  refine own_Go.of (g' := (mkF m 8 #[.val (.ref o)] [(.ref b2), (.ref o)])) (fun t k => st2 _ k) ?_
  obtain ⟨T3, h3, X3, e3, W3, st3⟩ := putF X2 hx hZ hown (host := "") (Or.inl (hw _ (List.mem_of_getElem? (i := 11) rfl))) Via.refl e2 f2_1 f2_0 (Or.inl (hw _ (List.mem_of_getElem? (i := 12) rfl))) (hw _ (List.mem_of_getElem? (i := 2) rfl)) (ty := (.array .long)) (by decide) rfl rfl (g := (mkF m 8 #[.val (.ref o)] [(.ref b2), (.ref o)])) rfl rfl (hb hby d1_8)
  have w3 : Fld Z h3 o "com/example/ostracon/ostracon/LastValues" "values" "[J" (.ref b2) := f2_1.same W3
  have f3_0 := f2_0.wr W3
  have f3_1 := f2_2.other W3 (Or.inr (slot_ne (a0 := a0) (C := "com/example/ostracon/ostracon/LastValues") (Or.inl (hw _ (List.mem_of_getElem? (i := 21) rfl))) (Or.inl (hw _ (List.mem_of_getElem? (i := 12) rfl))) (by decide) (t := .int) (t' := (.array .long)) (by decide) (by decide)))
  have f3_2 := f2_3.other W3 (Or.inr (slot_ne (a0 := a0) (C := "com/example/ostracon/ostracon/LastValues") (Or.inl (hw _ (List.mem_of_getElem? (i := 19) rfl))) (Or.inl (hw _ (List.mem_of_getElem? (i := 12) rfl))) (by decide) (t := .int) (t' := (.array .long)) (by decide) (by decide)))
  have f3_4 := V2.other W3 (Ne.symm ne2_0)
  have K3 : Keep h0 h3 [o] := K2.wr W3 (Or.inl (List.mem_of_getElem? (i := 0) rfl))
  have Z3 : n0 ≤ h3.size := Nat.le_trans Z0 K3.1
  have N3 := Fr.snoc X3 N0 g_o
  refine own_Go.of (g' := (mkF m 11 #[.val (.ref o)] [])) (fun t k => st3 _ k) ?_
  obtain ⟨fs, hr, hrun, hended, hW, hsame⟩ := X3.leave (v := none) (fun _ => rfl) (BodyLoose.notSynchronized Bd)
  refine ⟨_, _, X3.returnOut hx Bd.returns (hb hby d1_11) hr, hrun, hended, none, _, rfl, ?_, ⟨_, rfl⟩, hW, hsame.mono (by decide) (by decide)⟩
  show Qini Z o u h0 n0 _ T3.heap _
  rw [e3]
  exact ⟨b2, k2, rfl, N3, K3, sz_b2, f3_0, w3, f3_1, f3_2, f3_4⟩

theorem d3_0 : decode prog_19_method_2_code 0 = .ok (.aload_n 0, 1) := by decide +kernel
theorem d3_1 : decode prog_19_method_2_code 1 = .ok (.getfield 13, 3) := by decide +kernel
theorem d3_4 : decode prog_19_method_2_code 4 = .ok (.iload_n 3, 1) := by decide +kernel
theorem d3_5 : decode prog_19_method_2_code 5 = .ok (.if_icmp .ge 117, 3) := by decide +kernel
theorem d3_8 : decode prog_19_method_2_code 8 = .ok (.aload_n 0, 1) := by decide +kernel
theorem d3_9 : decode prog_19_method_2_code 9 = .ok (.getfield 13, 3) := by decide +kernel
theorem d3_12 : decode prog_19_method_2_code 12 = .ok (.aload_n 0, 1) := by decide +kernel
theorem d3_13 : decode prog_19_method_2_code 13 = .ok (.getfield 7, 3) := by decide +kernel
theorem d3_16 : decode prog_19_method_2_code 16 = .ok (.arraylength, 1) := by decide +kernel
theorem d3_17 : decode prog_19_method_2_code 17 = .ok (.if_icmp .ne 70, 3) := by decide +kernel
theorem d3_87 : decode prog_19_method_2_code 87 = .ok (.aload_n 0, 1) := by decide +kernel
theorem d3_88 : decode prog_19_method_2_code 88 = .ok (.getfield 7, 3) := by decide +kernel
theorem d3_91 : decode prog_19_method_2_code 91 = .ok (.aload_n 0, 1) := by decide +kernel
theorem d3_92 : decode prog_19_method_2_code 92 = .ok (.getfield 23, 3) := by decide +kernel
theorem d3_95 : decode prog_19_method_2_code 95 = .ok (.aload_n 0, 1) := by decide +kernel
theorem d3_96 : decode prog_19_method_2_code 96 = .ok (.getfield 13, 3) := by decide +kernel
theorem d3_99 : decode prog_19_method_2_code 99 = .ok (.iadd, 1) := by decide +kernel
theorem d3_100 : decode prog_19_method_2_code 100 = .ok (.aload_n 0, 1) := by decide +kernel
theorem d3_101 : decode prog_19_method_2_code 101 = .ok (.getfield 7, 3) := by decide +kernel
theorem d3_104 : decode prog_19_method_2_code 104 = .ok (.arraylength, 1) := by decide +kernel
theorem d3_105 : decode prog_19_method_2_code 105 = .ok (.irem, 1) := by decide +kernel
theorem d3_106 : decode prog_19_method_2_code 106 = .ok (.lload_n 1, 1) := by decide +kernel
theorem d3_107 : decode prog_19_method_2_code 107 = .ok (.lastore, 1) := by decide +kernel
theorem d3_108 : decode prog_19_method_2_code 108 = .ok (.aload_n 0, 1) := by decide +kernel
theorem d3_109 : decode prog_19_method_2_code 109 = .ok (.dup, 1) := by decide +kernel
theorem d3_110 : decode prog_19_method_2_code 110 = .ok (.getfield 13, 3) := by decide +kernel
theorem d3_113 : decode prog_19_method_2_code 113 = .ok (.iconst 1, 1) := by decide +kernel
theorem d3_114 : decode prog_19_method_2_code 114 = .ok (.iadd, 1) := by decide +kernel
theorem d3_115 : decode prog_19_method_2_code 115 = .ok (.putfield 13, 3) := by decide +kernel
theorem d3_118 : decode prog_19_method_2_code 118 = .ok (.ldc2_w 26, 3) := by decide +kernel
theorem d3_121 : decode prog_19_method_2_code 121 = .ok (.lreturn, 1) := by decide +kernel
theorem pnadd1_100 : plainName "com/example/ostracon/ostracon/LastValues" = true := by first | (simp [plainName, overriddenIn]; done) | decide +kernel
theorem efadd1_100 (m : MethodId) (z0 : Addr) (z1 : Int64) : entryFrame m #[(.ref z0), (.long z1), (.int (1 : Int32))] 6 = mkF m 0 #[.val (.ref z0), .val (.long z1), .second, .val (.int (1 : Int32)), .unset, .unset] [] := by first | (simp [entryFrame, mkF, argsToLocals, Value.category]; done) | rfl
def Qadd1_100 (Z : State) (o : Addr) (x : Int64) (b : Addr) (k : ClassId) (v0 : Int64) (h0 : Heap) (n0 : Nat) (v : Option Value) (h : Heap) (L : List Loc) : Prop := v = some (.long (-1 : Int64)) ∧ Fr n0 L ∧ Keep h0 h [o, b] ∧ Exa Z h o "com/example/ostracon/ostracon/LastValues" ∧ Fld Z h o "com/example/ostracon/ostracon/LastValues" "values" "[J" (.ref b) ∧ Fld Z h o "com/example/ostracon/ostracon/LastValues" "start" "I" (.int (0 : Int32)) ∧ Fld Z h o "com/example/ostracon/ostracon/LastValues" "count" "I" (.int (1 : Int32)) ∧ Arv Z h b k .long (1 : Int32) [(.long x)] (.long (0 : Int64))
set_option maxRecDepth 65536 in
set_option maxHeartbeats 40000000 in
theorem rmadd1_100 (l : Launch) (Z : State) (a0 : Array Value) (hw : ∀ d ∈ tables_1, d.before a0 Z = true) (ws : List Jvm.Cond) (o : Addr) (x : Int64) (b : Addr) (k : ClassId) (v0 : Int64) (h0 : Heap) (n0 : Nat) (Z0 : n0 ≤ h0.size) (E_o : Exa Z h0 o "com/example/ostracon/ostracon/LastValues") (F1_o : Fld Z h0 o "com/example/ostracon/ostracon/LastValues" "values" "[J" (.ref b)) (F2_o : Fld Z h0 o "com/example/ostracon/ostracon/LastValues" "start" "I" (.int (0 : Int32))) (F3_o : Fld Z h0 o "com/example/ostracon/ostracon/LastValues" "count" "I" (.int (0 : Int32))) (V_b : Arv Z h0 b k .long (1 : Int32) [(.long v0)] (.long (0 : Int64))) (g_o : n0 ≤ o) (g_b : n0 ≤ b) (ne_ob : o ≠ b) :
    MetFree l (⟨"com/example/ostracon/ostracon/LastValues", "add", "(JI)J"⟩ : MethodName) (head1 (Jvm.Cond.code (⟨"com/example/ostracon/ostracon/LastValues", "add", "(JI)J"⟩ : MethodName) prog_19_method_2_code 6 (some .long) :: ws) ({ frames := 0, cells := 0, slots := 0, locals := 0 } : Room)) (fun a U => a = #[(.ref o), (.long x), (.int (1 : Int32))] ∧ Z.Warmed39 U.vm ∧ U.heap = h0) (fun _ _ _ _ _ => True) (fun _ U oc U' => ∃ v L, oc = .returned v ∧ Qadd1_100 Z o x b k v0 h0 n0 v U'.heap L ∧ FrameEnd U oc U' L ({ frames := 0, cells := 0, slots := 0, locals := 0 } : Room).cells ({ frames := 0, cells := 0, slots := 0, locals := 0 } : Room).slots) := by
  refine MetFree.of_bodySF (plainFor_of_name pnadd1_100) hisR ?_
  intro p e s m args below meth c s₁ Bd hml0 hP hK
  obtain ⟨rfl, hZ, hh⟩ := hP
  have hx := Bd.exec
  have hby := Bd.bytes
  have hml : c.maxLocals = 6 := hml0
  have hown : s.vm.findClass "com/example/ostracon/ostracon/LastValues" = some m.cls := findClass_of_methodNamed Bd.named
  have hnm := (name_of_methodNamed Bd.named Bd.method).1
  have X0 : Stand p l e ({ frames := 0, cells := 0, slots := 0, locals := 0 } : Room) s m #[(.ref o), (.long x), (.int (1 : Int32))] below meth c s₁ [] 0 0 := Stand.of_body Bd
  have e0 : s₁.heap = h0 := by rw [← hh, Bd.state]; rfl
  have N0 := Fr.nil n0
  show own_Go p e below (fun s₂ oc => ∃ v L, oc = .returned v ∧ Qadd1_100 Z o x b k v0 h0 n0 v s₂.heap L ∧ FrameEnd s oc s₂ L ({ frames := 0, cells := 0, slots := 0, locals := 0 } : Room).cells ({ frames := 0, cells := 0, slots := 0, locals := 0 } : Room).slots) s₁ (entryFrame m #[(.ref o), (.long x), (.int (1 : Int32))] 6)
  refine own_Go.of (g' := mkF m 0 #[.val (.ref o), .val (.long x), .second, .val (.int (1 : Int32)), .unset, .unset] []) (fun t k => castTop (efadd1_100 m o x) k) ?_
  refine og_aloadN (pc' := 1) X0 hx (hb hby d3_0) rfl rfl rfl ?_
  obtain ⟨T1, X1, e1, st1⟩ := getF X0 hx hZ hown (host := "") (Or.inl (hw _ (List.mem_of_getElem? (i := 18) rfl))) Via.refl e0 F3_o (g := (mkF m 1 #[.val (.ref o), .val (.long x), .second, .val (.int (1 : Int32)), .unset, .unset] [(.ref o)])) rfl rfl (hb hby d3_1)
  refine own_Go.of (g' := (mkF m 4 #[.val (.ref o), .val (.long x), .second, .val (.int (1 : Int32)), .unset, .unset] [(.int (0 : Int32))])) (fun t k => st1 _ k) ?_
  refine og_iloadN (pc' := 5) X1 hx (hb hby d3_4) rfl rfl ?_
  refine og_icmpNo (pc' := 8) X1 hx (hb hby d3_5) (tlt (by decide)).2.1 rfl ?_
  refine og_aloadN (pc' := 9) X1 hx (hb hby d3_8) rfl rfl rfl ?_
  obtain ⟨T2, X2, e2, st2⟩ := getF X1 hx hZ hown (host := "") (Or.inl (hw _ (List.mem_of_getElem? (i := 18) rfl))) Via.refl e1 F3_o (g := (mkF m 9 #[.val (.ref o), .val (.long x), .second, .val (.int (1 : Int32)), .unset, .unset] [(.ref o)])) rfl rfl (hb hby d3_9)
  refine own_Go.of (g' := (mkF m 12 #[.val (.ref o), .val (.long x), .second, .val (.int (1 : Int32)), .unset, .unset] [(.int (0 : Int32))])) (fun t k => st2 _ k) ?_
  refine og_aloadN (pc' := 13) X2 hx (hb hby d3_12) rfl rfl rfl ?_
  obtain ⟨T3, X3, e3, st3⟩ := getF X2 hx hZ hown (host := "") (Or.inl (hw _ (List.mem_of_getElem? (i := 11) rfl))) Via.refl e2 F1_o (g := (mkF m 13 #[.val (.ref o), .val (.long x), .second, .val (.int (1 : Int32)), .unset, .unset] [(.ref o), (.int (0 : Int32))])) rfl rfl (hb hby d3_13)
  refine own_Go.of (g' := (mkF m 16 #[.val (.ref o), .val (.long x), .second, .val (.int (1 : Int32)), .unset, .unset] [(.ref b), (.int (0 : Int32))])) (fun t k => st3 _ k) ?_
  obtain ⟨cl4, Ar4, q4, S4, M4, H4, G4⟩ := id V_b
  refine own_Go.of (g' := (mkF m 17 #[.val (.ref o), .val (.long x), .second, .val (.int (1 : Int32)), .unset, .unset] [(.int (1 : Int32)), (.int (0 : Int32))])) (fun t k => X3.arraylength hx (by rw [e3]; exact Ar4.1) (State.isArrayOf_alike hZ.alike Ar4.2.1) (g := (mkF m 16 #[.val (.ref o), .val (.long x), .second, .val (.int (1 : Int32)), .unset, .unset] [(.ref b), (.int (0 : Int32))])) rfl rfl (hb hby d3_16) _ (by rw [len_of S4 M4]; exact k)) ?_
  refine og_icmpYes (pc' := 87) X3 hx (hb hby d3_17) (feq (by decide)).2 (by decide) (by decide) ?_
  refine og_aloadN (pc' := 88) X3 hx (hb hby d3_87) rfl rfl rfl ?_
  obtain ⟨T5, X5, e5, st5⟩ := getF X3 hx hZ hown (host := "") (Or.inl (hw _ (List.mem_of_getElem? (i := 11) rfl))) Via.refl e3 F1_o (g := (mkF m 88 #[.val (.ref o), .val (.long x), .second, .val (.int (1 : Int32)), .unset, .unset] [(.ref o)])) rfl rfl (hb hby d3_88)
  refine own_Go.of (g' := (mkF m 91 #[.val (.ref o), .val (.long x), .second, .val (.int (1 : Int32)), .unset, .unset] [(.ref b)])) (fun t k => st5 _ k) ?_
  refine og_aloadN (pc' := 92) X5 hx (hb hby d3_91) rfl rfl rfl ?_
  obtain ⟨T6, X6, e6, st6⟩ := getF X5 hx hZ hown (host := "") (Or.inl (hw _ (List.mem_of_getElem? (i := 20) rfl))) Via.refl e5 F2_o (g := (mkF m 92 #[.val (.ref o), .val (.long x), .second, .val (.int (1 : Int32)), .unset, .unset] [(.ref o), (.ref b)])) rfl rfl (hb hby d3_92)
  refine own_Go.of (g' := (mkF m 95 #[.val (.ref o), .val (.long x), .second, .val (.int (1 : Int32)), .unset, .unset] [(.int (0 : Int32)), (.ref b)])) (fun t k => st6 _ k) ?_
  refine og_aloadN (pc' := 96) X6 hx (hb hby d3_95) rfl rfl rfl ?_
  obtain ⟨T7, X7, e7, st7⟩ := getF X6 hx hZ hown (host := "") (Or.inl (hw _ (List.mem_of_getElem? (i := 18) rfl))) Via.refl e6 F3_o (g := (mkF m 96 #[.val (.ref o), .val (.long x), .second, .val (.int (1 : Int32)), .unset, .unset] [(.ref o), (.int (0 : Int32)), (.ref b)])) rfl rfl (hb hby d3_96)
  refine own_Go.of (g' := (mkF m 99 #[.val (.ref o), .val (.long x), .second, .val (.int (1 : Int32)), .unset, .unset] [(.int (0 : Int32)), (.int (0 : Int32)), (.ref b)])) (fun t k => st7 _ k) ?_
  refine og_iadd (pc' := 100) X7 hx (hb hby d3_99) rfl ?_
  rw [show ((0 : Int32) + (0 : Int32)) = (0 : Int32) from by decide]
  refine og_aloadN (pc' := 101) X7 hx (hb hby d3_100) rfl rfl rfl ?_
  obtain ⟨T8, X8, e8, st8⟩ := getF X7 hx hZ hown (host := "") (Or.inl (hw _ (List.mem_of_getElem? (i := 11) rfl))) Via.refl e7 F1_o (g := (mkF m 101 #[.val (.ref o), .val (.long x), .second, .val (.int (1 : Int32)), .unset, .unset] [(.ref o), (.int (0 : Int32)), (.ref b)])) rfl rfl (hb hby d3_101)
  refine own_Go.of (g' := (mkF m 104 #[.val (.ref o), .val (.long x), .second, .val (.int (1 : Int32)), .unset, .unset] [(.ref b), (.int (0 : Int32)), (.ref b)])) (fun t k => st8 _ k) ?_
  obtain ⟨cl9, Ar9, q9, S9, M9, H9, G9⟩ := id V_b
  refine own_Go.of (g' := (mkF m 105 #[.val (.ref o), .val (.long x), .second, .val (.int (1 : Int32)), .unset, .unset] [(.int (1 : Int32)), (.int (0 : Int32)), (.ref b)])) (fun t k => X8.arraylength hx (by rw [e8]; exact Ar9.1) (State.isArrayOf_alike hZ.alike Ar9.2.1) (g := (mkF m 104 #[.val (.ref o), .val (.long x), .second, .val (.int (1 : Int32)), .unset, .unset] [(.ref b), (.int (0 : Int32)), (.ref b)])) rfl rfl (hb hby d3_104) _ (by rw [len_of S9 M9]; exact k)) ?_
  refine og_irem (pc' := 106) X8 hx (hb hby d3_105) (by decide) rfl ?_
  rw [show ((0 : Int32) % (1 : Int32)) = (0 : Int32) from by decide]
  refine og_lloadN (pc' := 107) X8 hx (hb hby d3_106) rfl rfl ?_
  obtain ⟨cl10, Ar10, q10, S10, M10, H10, G10⟩ := id V_b
  have hin10 : ¬ ((0 : Int32) < 0 ∨ cl10.slots.size ≤ ((0 : Int32)).toNatClampNeg) := inb_of S10 ⟨by decide, by decide⟩
  obtain ⟨T10, h10, X10, e10, W10, st10⟩ := stJ X8 hx hZ e8 Ar10 (j := (0 : Int32)) hin10 (g := (mkF m 107 #[.val (.ref o), .val (.long x), .second, .val (.int (1 : Int32)), .unset, .unset] [(.long x), (.int (0 : Int32)), (.ref b)])) rfl rfl (hb hby d3_107)
  have V10 : Arv Z h10 b k .long (1 : Int32) [(.long x)] (.long (0 : Int64)) := Arv.set Ar10 q10 S10 M10 H10 G10 rfl W10 0 rfl (Nat.le_of_ble_eq_true rfl)
  have f10_0 := E_o.wr W10
  have f10_1 := F1_o.other W10 (Or.inl ne_ob)
  have f10_2 := F2_o.other W10 (Or.inl ne_ob)
  have f10_3 := F3_o.other W10 (Or.inl ne_ob)
  have K10 : Keep h0 h10 [o, b] := (Keep.refl h0 [o, b]).wr W10 (Or.inl (List.mem_of_getElem? (i := 1) rfl))
  have Z10 : n0 ≤ h10.size := Nat.le_trans Z0 K10.1
  have N10 := Fr.snoc X10 N0 g_b
  refine own_Go.of (g' := (mkF m 108 #[.val (.ref o), .val (.long x), .second, .val (.int (1 : Int32)), .unset, .unset] [])) (fun t k => st10 _ k) ?_
  refine og_aloadN (pc' := 109) X10 hx (hb hby d3_108) rfl rfl rfl ?_
  refine og_dup (pc' := 110) X10 hx (hb hby d3_109) rfl rfl ?_
  obtain ⟨T11, X11, e11, st11⟩ := getF X10 hx hZ hown (host := "") (Or.inl (hw _ (List.mem_of_getElem? (i := 18) rfl))) Via.refl e10 f10_3 (g := (mkF m 110 #[.val (.ref o), .val (.long x), .second, .val (.int (1 : Int32)), .unset, .unset] [(.ref o), (.ref o)])) rfl rfl (hb hby d3_110)
  refine own_Go.of (g' := (mkF m 113 #[.val (.ref o), .val (.long x), .second, .val (.int (1 : Int32)), .unset, .unset] [(.int (0 : Int32)), (.ref o)])) (fun t k => st11 _ k) ?_
  refine og_iconst (pc' := 114) (n := 1) X11 hx (hb hby d3_113) rfl rfl ?_
  refine og_iadd (pc' := 115) X11 hx (hb hby d3_114) rfl ?_
  rw [show ((0 : Int32) + (1 : Int32)) = (1 : Int32) from by decide]
  obtain ⟨T12, h12, X12, e12, W12, st12⟩ := putF X11 hx hZ hown (host := "") (Or.inl (hw _ (List.mem_of_getElem? (i := 18) rfl))) Via.refl e11 f10_3 f10_0 (Or.inl (hw _ (List.mem_of_getElem? (i := 19) rfl))) (hw _ (List.mem_of_getElem? (i := 2) rfl)) (ty := .int) (by decide) rfl rfl (g := (mkF m 115 #[.val (.ref o), .val (.long x), .second, .val (.int (1 : Int32)), .unset, .unset] [(.int (1 : Int32)), (.ref o)])) rfl rfl (hb hby d3_115)
  have w12 : Fld Z h12 o "com/example/ostracon/ostracon/LastValues" "count" "I" (.int (1 : Int32)) := f10_3.same W12
  have f12_0 := f10_0.wr W12
  have f12_1 := f10_1.other W12 (Or.inr (slot_ne (a0 := a0) (C := "com/example/ostracon/ostracon/LastValues") (Or.inl (hw _ (List.mem_of_getElem? (i := 12) rfl))) (Or.inl (hw _ (List.mem_of_getElem? (i := 19) rfl))) (by decide) (t := (.array .long)) (t' := .int) (by decide) (by decide)))
  have f12_2 := f10_2.other W12 (Or.inr (slot_ne (a0 := a0) (C := "com/example/ostracon/ostracon/LastValues") (Or.inl (hw _ (List.mem_of_getElem? (i := 21) rfl))) (Or.inl (hw _ (List.mem_of_getElem? (i := 19) rfl))) (by decide) (t := .int) (t' := .int) (by decide) (by decide)))
  have f12_6 := V10.other W12 (Ne.symm ne_ob)
  have K12 : Keep h0 h12 [o, b] := K10.wr W12 (Or.inl (List.mem_of_getElem? (i := 0) rfl))
  have Z12 : n0 ≤ h12.size := Nat.le_trans Z0 K12.1
  have N12 := Fr.snoc X12 N10 g_o
  refine own_Go.of (g' := (mkF m 118 #[.val (.ref o), .val (.long x), .second, .val (.int (1 : Int32)), .unset, .unset] [])) (fun t k => st12 _ k) ?_
  refine og_ldc2_w (pc' := 121) X12 hx (hb hby d3_118) hown (mvT hZ (hw _ (List.mem_of_getElem? (i := 22) rfl))) rfl ?_
  obtain ⟨fs, hr, hrun, hended, hW, hsame⟩ := X12.leave (v := some (.long (-1 : Int64))) (fun h => by rw [Bd.returns] at h; cases h) (BodyLoose.notSynchronized Bd)
  refine ⟨_, _, retL X12 hx Bd.returns (hb hby d3_121) hr, hrun, hended, some (.long (-1 : Int64)), _, rfl, ?_, ⟨_, rfl⟩, hW, hsame.mono (by decide) (by decide)⟩
  show Qadd1_100 Z o x b k v0 h0 n0 _ T12.heap _
  rw [e12]
  exact ⟨rfl, N12, K12, f12_0, f12_1, f12_2, w12, f12_6⟩

theorem d4_0 : decode prog_19_method_5_code 0 = .ok (.aload_n 0, 1) := by decide +kernel
theorem d4_1 : decode prog_19_method_5_code 1 = .ok (.getfield 7, 3) := by decide +kernel
theorem d4_4 : decode prog_19_method_5_code 4 = .ok (.aload_n 0, 1) := by decide +kernel
theorem d4_5 : decode prog_19_method_5_code 5 = .ok (.getfield 23, 3) := by decide +kernel
theorem d4_8 : decode prog_19_method_5_code 8 = .ok (.aload_n 0, 1) := by decide +kernel
theorem d4_9 : decode prog_19_method_5_code 9 = .ok (.getfield 13, 3) := by decide +kernel
theorem d4_12 : decode prog_19_method_5_code 12 = .ok (.iadd, 1) := by decide +kernel
theorem d4_13 : decode prog_19_method_5_code 13 = .ok (.iconst 1, 1) := by decide +kernel
theorem d4_14 : decode prog_19_method_5_code 14 = .ok (.isub, 1) := by decide +kernel
theorem d4_15 : decode prog_19_method_5_code 15 = .ok (.aload_n 0, 1) := by decide +kernel
theorem d4_16 : decode prog_19_method_5_code 16 = .ok (.getfield 7, 3) := by decide +kernel
theorem d4_19 : decode prog_19_method_5_code 19 = .ok (.arraylength, 1) := by decide +kernel
theorem d4_20 : decode prog_19_method_5_code 20 = .ok (.irem, 1) := by decide +kernel
theorem d4_21 : decode prog_19_method_5_code 21 = .ok (.laload, 1) := by decide +kernel
theorem d4_22 : decode prog_19_method_5_code 22 = .ok (.lreturn, 1) := by decide +kernel
theorem pnnew101 : plainName "com/example/ostracon/ostracon/LastValues" = true := by first | (simp [plainName, overriddenIn]; done) | decide +kernel
theorem efnew101 (m : MethodId) (z0 : Addr) : entryFrame m #[(.ref z0)] 1 = mkF m 0 #[.val (.ref z0)] [] := by first | (simp [entryFrame, mkF, argsToLocals, Value.category]; done) | rfl
def Qnew101 (Z : State) (o : Addr) (b : Addr) (k : ClassId) (v0 : Int64) (h0 : Heap) (n0 : Nat) (v : Option Value) (h : Heap) (L : List Loc) : Prop := v = some (.long v0) ∧ Fr n0 L ∧ h = h0
set_option maxRecDepth 65536 in
set_option maxHeartbeats 40000000 in
theorem rmnew101 (l : Launch) (Z : State) (a0 : Array Value) (hw : ∀ d ∈ tables_1, d.before a0 Z = true) (ws : List Jvm.Cond) (o : Addr) (b : Addr) (k : ClassId) (v0 : Int64) (h0 : Heap) (n0 : Nat) (Z0 : n0 ≤ h0.size) (E_o : Exa Z h0 o "com/example/ostracon/ostracon/LastValues") (F1_o : Fld Z h0 o "com/example/ostracon/ostracon/LastValues" "values" "[J" (.ref b)) (F2_o : Fld Z h0 o "com/example/ostracon/ostracon/LastValues" "start" "I" (.int (0 : Int32))) (F3_o : Fld Z h0 o "com/example/ostracon/ostracon/LastValues" "count" "I" (.int (1 : Int32))) (V_b : Arv Z h0 b k .long (1 : Int32) [(.long v0)] (.long (0 : Int64))) :
    MetFree l (⟨"com/example/ostracon/ostracon/LastValues", "newest", "()J"⟩ : MethodName) (head1 (Jvm.Cond.code (⟨"com/example/ostracon/ostracon/LastValues", "newest", "()J"⟩ : MethodName) prog_19_method_5_code 1 (some .long) :: ws) ({ frames := 0, cells := 0, slots := 0, locals := 0 } : Room)) (fun a U => a = #[(.ref o)] ∧ Z.Warmed39 U.vm ∧ U.heap = h0) (fun _ _ _ _ _ => True) (fun _ U oc U' => ∃ v L, oc = .returned v ∧ Qnew101 Z o b k v0 h0 n0 v U'.heap L ∧ FrameEnd U oc U' L ({ frames := 0, cells := 0, slots := 0, locals := 0 } : Room).cells ({ frames := 0, cells := 0, slots := 0, locals := 0 } : Room).slots) := by
  refine MetFree.of_bodySF (plainFor_of_name pnnew101) hisR ?_
  intro p e s m args below meth c s₁ Bd hml0 hP hK
  obtain ⟨rfl, hZ, hh⟩ := hP
  have hx := Bd.exec
  have hby := Bd.bytes
  have hml : c.maxLocals = 1 := hml0
  have hown : s.vm.findClass "com/example/ostracon/ostracon/LastValues" = some m.cls := findClass_of_methodNamed Bd.named
  have hnm := (name_of_methodNamed Bd.named Bd.method).1
  have X0 : Stand p l e ({ frames := 0, cells := 0, slots := 0, locals := 0 } : Room) s m #[(.ref o)] below meth c s₁ [] 0 0 := Stand.of_body Bd
  have e0 : s₁.heap = h0 := by rw [← hh, Bd.state]; rfl
  have N0 := Fr.nil n0
  show own_Go p e below (fun s₂ oc => ∃ v L, oc = .returned v ∧ Qnew101 Z o b k v0 h0 n0 v s₂.heap L ∧ FrameEnd s oc s₂ L ({ frames := 0, cells := 0, slots := 0, locals := 0 } : Room).cells ({ frames := 0, cells := 0, slots := 0, locals := 0 } : Room).slots) s₁ (entryFrame m #[(.ref o)] 1)
  refine own_Go.of (g' := mkF m 0 #[.val (.ref o)] []) (fun t k => castTop (efnew101 m o) k) ?_
  refine og_aloadN (pc' := 1) X0 hx (hb hby d4_0) rfl rfl rfl ?_
  obtain ⟨T1, X1, e1, st1⟩ := getF X0 hx hZ hown (host := "") (Or.inl (hw _ (List.mem_of_getElem? (i := 11) rfl))) Via.refl e0 F1_o (g := (mkF m 1 #[.val (.ref o)] [(.ref o)])) rfl rfl (hb hby d4_1)
  refine own_Go.of (g' := (mkF m 4 #[.val (.ref o)] [(.ref b)])) (fun t k => st1 _ k) ?_
  refine og_aloadN (pc' := 5) X1 hx (hb hby d4_4) rfl rfl rfl ?_
  obtain ⟨T2, X2, e2, st2⟩ := getF X1 hx hZ hown (host := "") (Or.inl (hw _ (List.mem_of_getElem? (i := 20) rfl))) Via.refl e1 F2_o (g := (mkF m 5 #[.val (.ref o)] [(.ref o), (.ref b)])) rfl rfl (hb hby d4_5)
  refine own_Go.of (g' := (mkF m 8 #[.val (.ref o)] [(.int (0 : Int32)), (.ref b)])) (fun t k => st2 _ k) ?_
  refine og_aloadN (pc' := 9) X2 hx (hb hby d4_8) rfl rfl rfl ?_
  obtain ⟨T3, X3, e3, st3⟩ := getF X2 hx hZ hown (host := "") (Or.inl (hw _ (List.mem_of_getElem? (i := 18) rfl))) Via.refl e2 F3_o (g := (mkF m 9 #[.val (.ref o)] [(.ref o), (.int (0 : Int32)), (.ref b)])) rfl rfl (hb hby d4_9)
  refine own_Go.of (g' := (mkF m 12 #[.val (.ref o)] [(.int (1 : Int32)), (.int (0 : Int32)), (.ref b)])) (fun t k => st3 _ k) ?_
  refine og_iadd (pc' := 13) X3 hx (hb hby d4_12) rfl ?_
  rw [show ((0 : Int32) + (1 : Int32)) = (1 : Int32) from by decide]
  refine og_iconst (pc' := 14) (n := 1) X3 hx (hb hby d4_13) rfl rfl ?_
  refine og_isub (pc' := 15) X3 hx (hb hby d4_14) rfl ?_
  rw [show ((1 : Int32) - (1 : Int32)) = (0 : Int32) from by decide]
  refine og_aloadN (pc' := 16) X3 hx (hb hby d4_15) rfl rfl rfl ?_
  obtain ⟨T4, X4, e4, st4⟩ := getF X3 hx hZ hown (host := "") (Or.inl (hw _ (List.mem_of_getElem? (i := 11) rfl))) Via.refl e3 F1_o (g := (mkF m 16 #[.val (.ref o)] [(.ref o), (.int (0 : Int32)), (.ref b)])) rfl rfl (hb hby d4_16)
  refine own_Go.of (g' := (mkF m 19 #[.val (.ref o)] [(.ref b), (.int (0 : Int32)), (.ref b)])) (fun t k => st4 _ k) ?_
  obtain ⟨cl5, Ar5, q5, S5, M5, H5, G5⟩ := id V_b
  refine own_Go.of (g' := (mkF m 20 #[.val (.ref o)] [(.int (1 : Int32)), (.int (0 : Int32)), (.ref b)])) (fun t k => X4.arraylength hx (by rw [e4]; exact Ar5.1) (State.isArrayOf_alike hZ.alike Ar5.2.1) (g := (mkF m 19 #[.val (.ref o)] [(.ref b), (.int (0 : Int32)), (.ref b)])) rfl rfl (hb hby d4_19) _ (by rw [len_of S5 M5]; exact k)) ?_
  refine og_irem (pc' := 21) X4 hx (hb hby d4_20) (by decide) rfl ?_
  rw [show ((0 : Int32) % (1 : Int32)) = (0 : Int32) from by decide]
  obtain ⟨cl6, Ar6, q6, S6, M6, H6, G6⟩ := id V_b
  have hin6 : ¬ ((0 : Int32) < 0 ∨ cl6.slots.size ≤ ((0 : Int32)).toNatClampNeg) := inb_of S6 ⟨by decide, by decide⟩
  have hat6 : cl6.slots[((0 : Int32)).toNatClampNeg]? = some (.long v0) := Has.at H6 hin6 rfl
  refine own_Go.of (g' := (mkF m 22 #[.val (.ref o)] [(.long v0)])) (fun t k => X4.laload hx (j := (0 : Int32)) (v := (.long v0)) (by rw [e4]; exact Ar6.1) (State.isArrayOf_alike hZ.alike Ar6.2.1) Ar6.2.2 hin6 hat6 (g := (mkF m 21 #[.val (.ref o)] [(.int (0 : Int32)), (.ref b)])) rfl rfl (hb hby d4_21) _ k) ?_
  obtain ⟨fs, hr, hrun, hended, hW, hsame⟩ := X4.leave (v := some (.long v0)) (fun h => by rw [Bd.returns] at h; cases h) (BodyLoose.notSynchronized Bd)
  refine ⟨_, _, retL X4 hx Bd.returns (hb hby d4_22) hr, hrun, hended, some (.long v0), _, rfl, ?_, ⟨_, rfl⟩, hW, hsame.mono (by decide) (by decide)⟩
  show Qnew101 Z o b k v0 h0 n0 _ T4.heap _
  rw [e4]
  exact ⟨rfl, N0, rfl⟩

theorem d3_122 : decode prog_19_method_2_code 122 = .ok (.aload_n 0, 1) := by decide +kernel
theorem d3_123 : decode prog_19_method_2_code 123 = .ok (.getfield 7, 3) := by decide +kernel
theorem d3_126 : decode prog_19_method_2_code 126 = .ok (.aload_n 0, 1) := by decide +kernel
theorem d3_127 : decode prog_19_method_2_code 127 = .ok (.getfield 23, 3) := by decide +kernel
theorem d3_130 : decode prog_19_method_2_code 130 = .ok (.laload, 1) := by decide +kernel
theorem d3_131 : decode prog_19_method_2_code 131 = .ok (.lstore 4, 2) := by decide +kernel
theorem d3_133 : decode prog_19_method_2_code 133 = .ok (.aload_n 0, 1) := by decide +kernel
theorem d3_134 : decode prog_19_method_2_code 134 = .ok (.getfield 7, 3) := by decide +kernel
theorem d3_137 : decode prog_19_method_2_code 137 = .ok (.aload_n 0, 1) := by decide +kernel
theorem d3_138 : decode prog_19_method_2_code 138 = .ok (.getfield 23, 3) := by decide +kernel
theorem d3_141 : decode prog_19_method_2_code 141 = .ok (.lload_n 1, 1) := by decide +kernel
theorem d3_142 : decode prog_19_method_2_code 142 = .ok (.lastore, 1) := by decide +kernel
theorem d3_143 : decode prog_19_method_2_code 143 = .ok (.aload_n 0, 1) := by decide +kernel
theorem d3_144 : decode prog_19_method_2_code 144 = .ok (.aload_n 0, 1) := by decide +kernel
theorem d3_145 : decode prog_19_method_2_code 145 = .ok (.getfield 23, 3) := by decide +kernel
theorem d3_148 : decode prog_19_method_2_code 148 = .ok (.iconst 1, 1) := by decide +kernel
theorem d3_149 : decode prog_19_method_2_code 149 = .ok (.iadd, 1) := by decide +kernel
theorem d3_150 : decode prog_19_method_2_code 150 = .ok (.aload_n 0, 1) := by decide +kernel
theorem d3_151 : decode prog_19_method_2_code 151 = .ok (.getfield 7, 3) := by decide +kernel
theorem d3_154 : decode prog_19_method_2_code 154 = .ok (.arraylength, 1) := by decide +kernel
theorem d3_155 : decode prog_19_method_2_code 155 = .ok (.irem, 1) := by decide +kernel
theorem d3_156 : decode prog_19_method_2_code 156 = .ok (.putfield 23, 3) := by decide +kernel
theorem d3_159 : decode prog_19_method_2_code 159 = .ok (.lload 4, 2) := by decide +kernel
theorem d3_161 : decode prog_19_method_2_code 161 = .ok (.lreturn, 1) := by decide +kernel
theorem pnadd1_101 : plainName "com/example/ostracon/ostracon/LastValues" = true := by first | (simp [plainName, overriddenIn]; done) | decide +kernel
theorem efadd1_101 (m : MethodId) (z0 : Addr) (z1 : Int64) : entryFrame m #[(.ref z0), (.long z1), (.int (1 : Int32))] 6 = mkF m 0 #[.val (.ref z0), .val (.long z1), .second, .val (.int (1 : Int32)), .unset, .unset] [] := by first | (simp [entryFrame, mkF, argsToLocals, Value.category]; done) | rfl
def Qadd1_101 (Z : State) (o : Addr) (x : Int64) (b : Addr) (k : ClassId) (v0 : Int64) (h0 : Heap) (n0 : Nat) (v : Option Value) (h : Heap) (L : List Loc) : Prop := v = some (.long v0) ∧ Fr n0 L ∧ Keep h0 h [o, b] ∧ Exa Z h o "com/example/ostracon/ostracon/LastValues" ∧ Fld Z h o "com/example/ostracon/ostracon/LastValues" "values" "[J" (.ref b) ∧ Fld Z h o "com/example/ostracon/ostracon/LastValues" "start" "I" (.int (0 : Int32)) ∧ Fld Z h o "com/example/ostracon/ostracon/LastValues" "count" "I" (.int (1 : Int32)) ∧ Arv Z h b k .long (1 : Int32) [(.long x)] (.long (0 : Int64))
set_option maxRecDepth 65536 in
set_option maxHeartbeats 40000000 in
theorem rmadd1_101 (l : Launch) (Z : State) (a0 : Array Value) (hw : ∀ d ∈ tables_1, d.before a0 Z = true) (ws : List Jvm.Cond) (o : Addr) (x : Int64) (b : Addr) (k : ClassId) (v0 : Int64) (h0 : Heap) (n0 : Nat) (Z0 : n0 ≤ h0.size) (E_o : Exa Z h0 o "com/example/ostracon/ostracon/LastValues") (F1_o : Fld Z h0 o "com/example/ostracon/ostracon/LastValues" "values" "[J" (.ref b)) (F2_o : Fld Z h0 o "com/example/ostracon/ostracon/LastValues" "start" "I" (.int (0 : Int32))) (F3_o : Fld Z h0 o "com/example/ostracon/ostracon/LastValues" "count" "I" (.int (1 : Int32))) (V_b : Arv Z h0 b k .long (1 : Int32) [(.long v0)] (.long (0 : Int64))) (g_o : n0 ≤ o) (g_b : n0 ≤ b) (ne_ob : o ≠ b) :
    MetFree l (⟨"com/example/ostracon/ostracon/LastValues", "add", "(JI)J"⟩ : MethodName) (head1 (Jvm.Cond.code (⟨"com/example/ostracon/ostracon/LastValues", "add", "(JI)J"⟩ : MethodName) prog_19_method_2_code 6 (some .long) :: ws) ({ frames := 0, cells := 0, slots := 0, locals := 0 } : Room)) (fun a U => a = #[(.ref o), (.long x), (.int (1 : Int32))] ∧ Z.Warmed39 U.vm ∧ U.heap = h0) (fun _ _ _ _ _ => True) (fun _ U oc U' => ∃ v L, oc = .returned v ∧ Qadd1_101 Z o x b k v0 h0 n0 v U'.heap L ∧ FrameEnd U oc U' L ({ frames := 0, cells := 0, slots := 0, locals := 0 } : Room).cells ({ frames := 0, cells := 0, slots := 0, locals := 0 } : Room).slots) := by
  refine MetFree.of_bodySF (plainFor_of_name pnadd1_101) hisR ?_
  intro p e s m args below meth c s₁ Bd hml0 hP hK
  obtain ⟨rfl, hZ, hh⟩ := hP
  have hx := Bd.exec
  have hby := Bd.bytes
  have hml : c.maxLocals = 6 := hml0
  have hown : s.vm.findClass "com/example/ostracon/ostracon/LastValues" = some m.cls := findClass_of_methodNamed Bd.named
  have hnm := (name_of_methodNamed Bd.named Bd.method).1
  have X0 : Stand p l e ({ frames := 0, cells := 0, slots := 0, locals := 0 } : Room) s m #[(.ref o), (.long x), (.int (1 : Int32))] below meth c s₁ [] 0 0 := Stand.of_body Bd
  have e0 : s₁.heap = h0 := by rw [← hh, Bd.state]; rfl
  have N0 := Fr.nil n0
  show own_Go p e below (fun s₂ oc => ∃ v L, oc = .returned v ∧ Qadd1_101 Z o x b k v0 h0 n0 v s₂.heap L ∧ FrameEnd s oc s₂ L ({ frames := 0, cells := 0, slots := 0, locals := 0 } : Room).cells ({ frames := 0, cells := 0, slots := 0, locals := 0 } : Room).slots) s₁ (entryFrame m #[(.ref o), (.long x), (.int (1 : Int32))] 6)
  refine own_Go.of (g' := mkF m 0 #[.val (.ref o), .val (.long x), .second, .val (.int (1 : Int32)), .unset, .unset] []) (fun t k => castTop (efadd1_101 m o x) k) ?_
  refine og_aloadN (pc' := 1) X0 hx (hb hby d3_0) rfl rfl rfl ?_
  obtain ⟨T1, X1, e1, st1⟩ := getF X0 hx hZ hown (host := "") (Or.inl (hw _ (List.mem_of_getElem? (i := 18) rfl))) Via.refl e0 F3_o (g := (mkF m 1 #[.val (.ref o), .val (.long x), .second, .val (.int (1 : Int32)), .unset, .unset] [(.ref o)])) rfl rfl (hb hby d3_1)
  refine own_Go.of (g' := (mkF m 4 #[.val (.ref o), .val (.long x), .second, .val (.int (1 : Int32)), .unset, .unset] [(.int (1 : Int32))])) (fun t k => st1 _ k) ?_
  refine og_iloadN (pc' := 5) X1 hx (hb hby d3_4) rfl rfl ?_
  refine og_icmpYes (pc' := 122) X1 hx (hb hby d3_5) (flt (by decide)).2.1 (by decide) (by decide) ?_
  refine og_aloadN (pc' := 123) X1 hx (hb hby d3_122) rfl rfl rfl ?_
  obtain ⟨T2, X2, e2, st2⟩ := getF X1 hx hZ hown (host := "") (Or.inl (hw _ (List.mem_of_getElem? (i := 11) rfl))) Via.refl e1 F1_o (g := (mkF m 123 #[.val (.ref o), .val (.long x), .second, .val (.int (1 : Int32)), .unset, .unset] [(.ref o)])) rfl rfl (hb hby d3_123)
  refine own_Go.of (g' := (mkF m 126 #[.val (.ref o), .val (.long x), .second, .val (.int (1 : Int32)), .unset, .unset] [(.ref b)])) (fun t k => st2 _ k) ?_
  refine og_aloadN (pc' := 127) X2 hx (hb hby d3_126) rfl rfl rfl ?_
  obtain ⟨T3, X3, e3, st3⟩ := getF X2 hx hZ hown (host := "") (Or.inl (hw _ (List.mem_of_getElem? (i := 20) rfl))) Via.refl e2 F2_o (g := (mkF m 127 #[.val (.ref o), .val (.long x), .second, .val (.int (1 : Int32)), .unset, .unset] [(.ref o), (.ref b)])) rfl rfl (hb hby d3_127)
  refine own_Go.of (g' := (mkF m 130 #[.val (.ref o), .val (.long x), .second, .val (.int (1 : Int32)), .unset, .unset] [(.int (0 : Int32)), (.ref b)])) (fun t k => st3 _ k) ?_
  obtain ⟨cl4, Ar4, q4, S4, M4, H4, G4⟩ := id V_b
  have hin4 : ¬ ((0 : Int32) < 0 ∨ cl4.slots.size ≤ ((0 : Int32)).toNatClampNeg) := inb_of S4 ⟨by decide, by decide⟩
  have hat4 : cl4.slots[((0 : Int32)).toNatClampNeg]? = some (.long v0) := Has.at H4 hin4 rfl
  refine own_Go.of (g' := (mkF m 131 #[.val (.ref o), .val (.long x), .second, .val (.int (1 : Int32)), .unset, .unset] [(.long v0)])) (fun t k => X3.laload hx (j := (0 : Int32)) (v := (.long v0)) (by rw [e3]; exact Ar4.1) (State.isArrayOf_alike hZ.alike Ar4.2.1) Ar4.2.2 hin4 hat4 (g := (mkF m 130 #[.val (.ref o), .val (.long x), .second, .val (.int (1 : Int32)), .unset, .unset] [(.int (0 : Int32)), (.ref b)])) rfl rfl (hb hby d3_130) _ k) ?_
  refine og_lstore (pc' := 133) (L' := #[.val (.ref o), .val (.long x), .second, .val (.int (1 : Int32)), .val (.long v0), .second]) X3 hx (hb hby d3_131) rfl rfl ?_
  refine og_aloadN (pc' := 134) X3 hx (hb hby d3_133) rfl rfl rfl ?_
  obtain ⟨T5, X5, e5, st5⟩ := getF X3 hx hZ hown (host := "") (Or.inl (hw _ (List.mem_of_getElem? (i := 11) rfl))) Via.refl e3 F1_o (g := (mkF m 134 #[.val (.ref o), .val (.long x), .second, .val (.int (1 : Int32)), .val (.long v0), .second] [(.ref o)])) rfl rfl (hb hby d3_134)
  refine own_Go.of (g' := (mkF m 137 #[.val (.ref o), .val (.long x), .second, .val (.int (1 : Int32)), .val (.long v0), .second] [(.ref b)])) (fun t k => st5 _ k) ?_
  refine og_aloadN (pc' := 138) X5 hx (hb hby d3_137) rfl rfl rfl ?_
  obtain ⟨T6, X6, e6, st6⟩ := getF X5 hx hZ hown (host := "") (Or.inl (hw _ (List.mem_of_getElem? (i := 20) rfl))) Via.refl e5 F2_o (g := (mkF m 138 #[.val (.ref o), .val (.long x), .second, .val (.int (1 : Int32)), .val (.long v0), .second] [(.ref o), (.ref b)])) rfl rfl (hb hby d3_138)
  refine own_Go.of (g' := (mkF m 141 #[.val (.ref o), .val (.long x), .second, .val (.int (1 : Int32)), .val (.long v0), .second] [(.int (0 : Int32)), (.ref b)])) (fun t k => st6 _ k) ?_
  refine og_lloadN (pc' := 142) X6 hx (hb hby d3_141) rfl rfl ?_
  obtain ⟨cl7, Ar7, q7, S7, M7, H7, G7⟩ := id V_b
  have hin7 : ¬ ((0 : Int32) < 0 ∨ cl7.slots.size ≤ ((0 : Int32)).toNatClampNeg) := inb_of S7 ⟨by decide, by decide⟩
  obtain ⟨T7, h7, X7, e7, W7, st7⟩ := stJ X6 hx hZ e6 Ar7 (j := (0 : Int32)) hin7 (g := (mkF m 142 #[.val (.ref o), .val (.long x), .second, .val (.int (1 : Int32)), .val (.long v0), .second] [(.long x), (.int (0 : Int32)), (.ref b)])) rfl rfl (hb hby d3_142)
  have V7 : Arv Z h7 b k .long (1 : Int32) [(.long x)] (.long (0 : Int64)) := Arv.set Ar7 q7 S7 M7 H7 G7 rfl W7 0 rfl (Nat.le_of_ble_eq_true rfl)
  have f7_0 := E_o.wr W7
  have f7_1 := F1_o.other W7 (Or.inl ne_ob)
  have f7_2 := F2_o.other W7 (Or.inl ne_ob)
  have f7_3 := F3_o.other W7 (Or.inl ne_ob)
  have K7 : Keep h0 h7 [o, b] := (Keep.refl h0 [o, b]).wr W7 (Or.inl (List.mem_of_getElem? (i := 1) rfl))
  have Z7 : n0 ≤ h7.size := Nat.le_trans Z0 K7.1
  have N7 := Fr.snoc X7 N0 g_b
  refine own_Go.of (g' := (mkF m 143 #[.val (.ref o), .val (.long x), .second, .val (.int (1 : Int32)), .val (.long v0), .second] [])) (fun t k => st7 _ k) ?_
  refine og_aloadN (pc' := 144) X7 hx (hb hby d3_143) rfl rfl rfl ?_
  refine og_aloadN (pc' := 145) X7 hx (hb hby d3_144) rfl rfl rfl ?_
  obtain ⟨T8, X8, e8, st8⟩ := getF X7 hx hZ hown (host := "") (Or.inl (hw _ (List.mem_of_getElem? (i := 20) rfl))) Via.refl e7 f7_2 (g := (mkF m 145 #[.val (.ref o), .val (.long x), .second, .val (.int (1 : Int32)), .val (.long v0), .second] [(.ref o), (.ref o)])) rfl rfl (hb hby d3_145)
  refine own_Go.of (g' := (mkF m 148 #[.val (.ref o), .val (.long x), .second, .val (.int (1 : Int32)), .val (.long v0), .second] [(.int (0 : Int32)), (.ref o)])) (fun t k => st8 _ k) ?_
  refine og_iconst (pc' := 149) (n := 1) X8 hx (hb hby d3_148) rfl rfl ?_
  refine og_iadd (pc' := 150) X8 hx (hb hby d3_149) rfl ?_
  rw [show ((0 : Int32) + (1 : Int32)) = (1 : Int32) from by decide]
  refine og_aloadN (pc' := 151) X8 hx (hb hby d3_150) rfl rfl rfl ?_
  obtain ⟨T9, X9, e9, st9⟩ := getF X8 hx hZ hown (host := "") (Or.inl (hw _ (List.mem_of_getElem? (i := 11) rfl))) Via.refl e8 f7_1 (g := (mkF m 151 #[.val (.ref o), .val (.long x), .second, .val (.int (1 : Int32)), .val (.long v0), .second] [(.ref o), (.int (1 : Int32)), (.ref o)])) rfl rfl (hb hby d3_151)
  refine own_Go.of (g' := (mkF m 154 #[.val (.ref o), .val (.long x), .second, .val (.int (1 : Int32)), .val (.long v0), .second] [(.ref b), (.int (1 : Int32)), (.ref o)])) (fun t k => st9 _ k) ?_
  obtain ⟨cl10, Ar10, q10, S10, M10, H10, G10⟩ := id V7
  refine own_Go.of (g' := (mkF m 155 #[.val (.ref o), .val (.long x), .second, .val (.int (1 : Int32)), .val (.long v0), .second] [(.int (1 : Int32)), (.int (1 : Int32)), (.ref o)])) (fun t k => X9.arraylength hx (by rw [e9]; exact Ar10.1) (State.isArrayOf_alike hZ.alike Ar10.2.1) (g := (mkF m 154 #[.val (.ref o), .val (.long x), .second, .val (.int (1 : Int32)), .val (.long v0), .second] [(.ref b), (.int (1 : Int32)), (.ref o)])) rfl rfl (hb hby d3_154) _ (by rw [len_of S10 M10]; exact k)) ?_
  refine og_irem (pc' := 156) X9 hx (hb hby d3_155) (by decide) rfl ?_
  rw [show ((1 : Int32) % (1 : Int32)) = (0 : Int32) from by decide]
  obtain ⟨T11, h11, X11, e11, W11, st11⟩ := putF X9 hx hZ hown (host := "") (Or.inl (hw _ (List.mem_of_getElem? (i := 20) rfl))) Via.refl e9 f7_2 f7_0 (Or.inl (hw _ (List.mem_of_getElem? (i := 21) rfl))) (hw _ (List.mem_of_getElem? (i := 2) rfl)) (ty := .int) (by decide) rfl rfl (g := (mkF m 156 #[.val (.ref o), .val (.long x), .second, .val (.int (1 : Int32)), .val (.long v0), .second] [(.int (0 : Int32)), (.ref o)])) rfl rfl (hb hby d3_156)
  have w11 : Fld Z h11 o "com/example/ostracon/ostracon/LastValues" "start" "I" (.int (0 : Int32)) := f7_2.same W11
  have f11_0 := f7_0.wr W11
  have f11_1 := f7_1.other W11 (Or.inr (slot_ne (a0 := a0) (C := "com/example/ostracon/ostracon/LastValues") (Or.inl (hw _ (List.mem_of_getElem? (i := 12) rfl))) (Or.inl (hw _ (List.mem_of_getElem? (i := 21) rfl))) (by decide) (t := (.array .long)) (t' := .int) (by decide) (by decide)))
  have f11_2 := f7_3.other W11 (Or.inr (slot_ne (a0 := a0) (C := "com/example/ostracon/ostracon/LastValues") (Or.inl (hw _ (List.mem_of_getElem? (i := 19) rfl))) (Or.inl (hw _ (List.mem_of_getElem? (i := 21) rfl))) (by decide) (t := .int) (t' := .int) (by decide) (by decide)))
  have f11_6 := V7.other W11 (Ne.symm ne_ob)
  have K11 : Keep h0 h11 [o, b] := K7.wr W11 (Or.inl (List.mem_of_getElem? (i := 0) rfl))
  have Z11 : n0 ≤ h11.size := Nat.le_trans Z0 K11.1
  have N11 := Fr.snoc X11 N7 g_o
  refine own_Go.of (g' := (mkF m 159 #[.val (.ref o), .val (.long x), .second, .val (.int (1 : Int32)), .val (.long v0), .second] [])) (fun t k => st11 _ k) ?_
  refine og_lload (pc' := 161) X11 hx (hb hby d3_159) rfl rfl ?_
  obtain ⟨fs, hr, hrun, hended, hW, hsame⟩ := X11.leave (v := some (.long v0)) (fun h => by rw [Bd.returns] at h; cases h) (BodyLoose.notSynchronized Bd)
  refine ⟨_, _, retL X11 hx Bd.returns (hb hby d3_161) hr, hrun, hended, some (.long v0), _, rfl, ?_, ⟨_, rfl⟩, hW, hsame.mono (by decide) (by decide)⟩
  show Qadd1_101 Z o x b k v0 h0 n0 _ T11.heap _
  rw [e11]
  exact ⟨rfl, N11, K11, f11_0, f11_1, w11, f11_2, f11_6⟩

theorem pnadd2_100 : plainName "com/example/ostracon/ostracon/LastValues" = true := by first | (simp [plainName, overriddenIn]; done) | decide +kernel
theorem efadd2_100 (m : MethodId) (z0 : Addr) (z1 : Int64) : entryFrame m #[(.ref z0), (.long z1), (.int (2 : Int32))] 6 = mkF m 0 #[.val (.ref z0), .val (.long z1), .second, .val (.int (2 : Int32)), .unset, .unset] [] := by first | (simp [entryFrame, mkF, argsToLocals, Value.category]; done) | rfl
def Qadd2_100 (Z : State) (o : Addr) (x : Int64) (b : Addr) (k : ClassId) (v0 : Int64) (h0 : Heap) (n0 : Nat) (v : Option Value) (h : Heap) (L : List Loc) : Prop := v = some (.long (-1 : Int64)) ∧ Fr n0 L ∧ Keep h0 h [o, b] ∧ Exa Z h o "com/example/ostracon/ostracon/LastValues" ∧ Fld Z h o "com/example/ostracon/ostracon/LastValues" "values" "[J" (.ref b) ∧ Fld Z h o "com/example/ostracon/ostracon/LastValues" "start" "I" (.int (0 : Int32)) ∧ Fld Z h o "com/example/ostracon/ostracon/LastValues" "count" "I" (.int (1 : Int32)) ∧ Arv Z h b k .long (1 : Int32) [(.long x)] (.long (0 : Int64))
set_option maxRecDepth 65536 in
set_option maxHeartbeats 40000000 in
theorem rmadd2_100 (l : Launch) (Z : State) (a0 : Array Value) (hw : ∀ d ∈ tables_1, d.before a0 Z = true) (ws : List Jvm.Cond) (o : Addr) (x : Int64) (b : Addr) (k : ClassId) (v0 : Int64) (h0 : Heap) (n0 : Nat) (Z0 : n0 ≤ h0.size) (E_o : Exa Z h0 o "com/example/ostracon/ostracon/LastValues") (F1_o : Fld Z h0 o "com/example/ostracon/ostracon/LastValues" "values" "[J" (.ref b)) (F2_o : Fld Z h0 o "com/example/ostracon/ostracon/LastValues" "start" "I" (.int (0 : Int32))) (F3_o : Fld Z h0 o "com/example/ostracon/ostracon/LastValues" "count" "I" (.int (0 : Int32))) (V_b : Arv Z h0 b k .long (1 : Int32) [(.long v0)] (.long (0 : Int64))) (g_o : n0 ≤ o) (g_b : n0 ≤ b) (ne_ob : o ≠ b) :
    MetFree l (⟨"com/example/ostracon/ostracon/LastValues", "add", "(JI)J"⟩ : MethodName) (head1 (Jvm.Cond.code (⟨"com/example/ostracon/ostracon/LastValues", "add", "(JI)J"⟩ : MethodName) prog_19_method_2_code 6 (some .long) :: ws) ({ frames := 0, cells := 0, slots := 0, locals := 0 } : Room)) (fun a U => a = #[(.ref o), (.long x), (.int (2 : Int32))] ∧ Z.Warmed39 U.vm ∧ U.heap = h0) (fun _ _ _ _ _ => True) (fun _ U oc U' => ∃ v L, oc = .returned v ∧ Qadd2_100 Z o x b k v0 h0 n0 v U'.heap L ∧ FrameEnd U oc U' L ({ frames := 0, cells := 0, slots := 0, locals := 0 } : Room).cells ({ frames := 0, cells := 0, slots := 0, locals := 0 } : Room).slots) := by
  refine MetFree.of_bodySF (plainFor_of_name pnadd2_100) hisR ?_
  intro p e s m args below meth c s₁ Bd hml0 hP hK
  obtain ⟨rfl, hZ, hh⟩ := hP
  have hx := Bd.exec
  have hby := Bd.bytes
  have hml : c.maxLocals = 6 := hml0
  have hown : s.vm.findClass "com/example/ostracon/ostracon/LastValues" = some m.cls := findClass_of_methodNamed Bd.named
  have hnm := (name_of_methodNamed Bd.named Bd.method).1
  have X0 : Stand p l e ({ frames := 0, cells := 0, slots := 0, locals := 0 } : Room) s m #[(.ref o), (.long x), (.int (2 : Int32))] below meth c s₁ [] 0 0 := Stand.of_body Bd
  have e0 : s₁.heap = h0 := by rw [← hh, Bd.state]; rfl
  have N0 := Fr.nil n0
  show own_Go p e below (fun s₂ oc => ∃ v L, oc = .returned v ∧ Qadd2_100 Z o x b k v0 h0 n0 v s₂.heap L ∧ FrameEnd s oc s₂ L ({ frames := 0, cells := 0, slots := 0, locals := 0 } : Room).cells ({ frames := 0, cells := 0, slots := 0, locals := 0 } : Room).slots) s₁ (entryFrame m #[(.ref o), (.long x), (.int (2 : Int32))] 6)
  refine own_Go.of (g' := mkF m 0 #[.val (.ref o), .val (.long x), .second, .val (.int (2 : Int32)), .unset, .unset] []) (fun t k => castTop (efadd2_100 m o x) k) ?_
  refine og_aloadN (pc' := 1) X0 hx (hb hby d3_0) rfl rfl rfl ?_
  obtain ⟨T1, X1, e1, st1⟩ := getF X0 hx hZ hown (host := "") (Or.inl (hw _ (List.mem_of_getElem? (i := 18) rfl))) Via.refl e0 F3_o (g := (mkF m 1 #[.val (.ref o), .val (.long x), .second, .val (.int (2 : Int32)), .unset, .unset] [(.ref o)])) rfl rfl (hb hby d3_1)
  refine own_Go.of (g' := (mkF m 4 #[.val (.ref o), .val (.long x), .second, .val (.int (2 : Int32)), .unset, .unset] [(.int (0 : Int32))])) (fun t k => st1 _ k) ?_
  refine og_iloadN (pc' := 5) X1 hx (hb hby d3_4) rfl rfl ?_
  refine og_icmpNo (pc' := 8) X1 hx (hb hby d3_5) (tlt (by decide)).2.1 rfl ?_
  refine og_aloadN (pc' := 9) X1 hx (hb hby d3_8) rfl rfl rfl ?_
  obtain ⟨T2, X2, e2, st2⟩ := getF X1 hx hZ hown (host := "") (Or.inl (hw _ (List.mem_of_getElem? (i := 18) rfl))) Via.refl e1 F3_o (g := (mkF m 9 #[.val (.ref o), .val (.long x), .second, .val (.int (2 : Int32)), .unset, .unset] [(.ref o)])) rfl rfl (hb hby d3_9)
  refine own_Go.of (g' := (mkF m 12 #[.val (.ref o), .val (.long x), .second, .val (.int (2 : Int32)), .unset, .unset] [(.int (0 : Int32))])) (fun t k => st2 _ k) ?_
  refine og_aloadN (pc' := 13) X2 hx (hb hby d3_12) rfl rfl rfl ?_
  obtain ⟨T3, X3, e3, st3⟩ := getF X2 hx hZ hown (host := "") (Or.inl (hw _ (List.mem_of_getElem? (i := 11) rfl))) Via.refl e2 F1_o (g := (mkF m 13 #[.val (.ref o), .val (.long x), .second, .val (.int (2 : Int32)), .unset, .unset] [(.ref o), (.int (0 : Int32))])) rfl rfl (hb hby d3_13)
  refine own_Go.of (g' := (mkF m 16 #[.val (.ref o), .val (.long x), .second, .val (.int (2 : Int32)), .unset, .unset] [(.ref b), (.int (0 : Int32))])) (fun t k => st3 _ k) ?_
  obtain ⟨cl4, Ar4, q4, S4, M4, H4, G4⟩ := id V_b
  refine own_Go.of (g' := (mkF m 17 #[.val (.ref o), .val (.long x), .second, .val (.int (2 : Int32)), .unset, .unset] [(.int (1 : Int32)), (.int (0 : Int32))])) (fun t k => X3.arraylength hx (by rw [e3]; exact Ar4.1) (State.isArrayOf_alike hZ.alike Ar4.2.1) (g := (mkF m 16 #[.val (.ref o), .val (.long x), .second, .val (.int (2 : Int32)), .unset, .unset] [(.ref b), (.int (0 : Int32))])) rfl rfl (hb hby d3_16) _ (by rw [len_of S4 M4]; exact k)) ?_
  refine og_icmpYes (pc' := 87) X3 hx (hb hby d3_17) (feq (by decide)).2 (by decide) (by decide) ?_
  refine og_aloadN (pc' := 88) X3 hx (hb hby d3_87) rfl rfl rfl ?_
  obtain ⟨T5, X5, e5, st5⟩ := getF X3 hx hZ hown (host := "") (Or.inl (hw _ (List.mem_of_getElem? (i := 11) rfl))) Via.refl e3 F1_o (g := (mkF m 88 #[.val (.ref o), .val (.long x), .second, .val (.int (2 : Int32)), .unset, .unset] [(.ref o)])) rfl rfl (hb hby d3_88)
  refine own_Go.of (g' := (mkF m 91 #[.val (.ref o), .val (.long x), .second, .val (.int (2 : Int32)), .unset, .unset] [(.ref b)])) (fun t k => st5 _ k) ?_
  refine og_aloadN (pc' := 92) X5 hx (hb hby d3_91) rfl rfl rfl ?_
  obtain ⟨T6, X6, e6, st6⟩ := getF X5 hx hZ hown (host := "") (Or.inl (hw _ (List.mem_of_getElem? (i := 20) rfl))) Via.refl e5 F2_o (g := (mkF m 92 #[.val (.ref o), .val (.long x), .second, .val (.int (2 : Int32)), .unset, .unset] [(.ref o), (.ref b)])) rfl rfl (hb hby d3_92)
  refine own_Go.of (g' := (mkF m 95 #[.val (.ref o), .val (.long x), .second, .val (.int (2 : Int32)), .unset, .unset] [(.int (0 : Int32)), (.ref b)])) (fun t k => st6 _ k) ?_
  refine og_aloadN (pc' := 96) X6 hx (hb hby d3_95) rfl rfl rfl ?_
  obtain ⟨T7, X7, e7, st7⟩ := getF X6 hx hZ hown (host := "") (Or.inl (hw _ (List.mem_of_getElem? (i := 18) rfl))) Via.refl e6 F3_o (g := (mkF m 96 #[.val (.ref o), .val (.long x), .second, .val (.int (2 : Int32)), .unset, .unset] [(.ref o), (.int (0 : Int32)), (.ref b)])) rfl rfl (hb hby d3_96)
  refine own_Go.of (g' := (mkF m 99 #[.val (.ref o), .val (.long x), .second, .val (.int (2 : Int32)), .unset, .unset] [(.int (0 : Int32)), (.int (0 : Int32)), (.ref b)])) (fun t k => st7 _ k) ?_
  refine og_iadd (pc' := 100) X7 hx (hb hby d3_99) rfl ?_
  rw [show ((0 : Int32) + (0 : Int32)) = (0 : Int32) from by decide]
  refine og_aloadN (pc' := 101) X7 hx (hb hby d3_100) rfl rfl rfl ?_
  obtain ⟨T8, X8, e8, st8⟩ := getF X7 hx hZ hown (host := "") (Or.inl (hw _ (List.mem_of_getElem? (i := 11) rfl))) Via.refl e7 F1_o (g := (mkF m 101 #[.val (.ref o), .val (.long x), .second, .val (.int (2 : Int32)), .unset, .unset] [(.ref o), (.int (0 : Int32)), (.ref b)])) rfl rfl (hb hby d3_101)
  refine own_Go.of (g' := (mkF m 104 #[.val (.ref o), .val (.long x), .second, .val (.int (2 : Int32)), .unset, .unset] [(.ref b), (.int (0 : Int32)), (.ref b)])) (fun t k => st8 _ k) ?_
  obtain ⟨cl9, Ar9, q9, S9, M9, H9, G9⟩ := id V_b
  refine own_Go.of (g' := (mkF m 105 #[.val (.ref o), .val (.long x), .second, .val (.int (2 : Int32)), .unset, .unset] [(.int (1 : Int32)), (.int (0 : Int32)), (.ref b)])) (fun t k => X8.arraylength hx (by rw [e8]; exact Ar9.1) (State.isArrayOf_alike hZ.alike Ar9.2.1) (g := (mkF m 104 #[.val (.ref o), .val (.long x), .second, .val (.int (2 : Int32)), .unset, .unset] [(.ref b), (.int (0 : Int32)), (.ref b)])) rfl rfl (hb hby d3_104) _ (by rw [len_of S9 M9]; exact k)) ?_
  refine og_irem (pc' := 106) X8 hx (hb hby d3_105) (by decide) rfl ?_
  rw [show ((0 : Int32) % (1 : Int32)) = (0 : Int32) from by decide]
  refine og_lloadN (pc' := 107) X8 hx (hb hby d3_106) rfl rfl ?_
  obtain ⟨cl10, Ar10, q10, S10, M10, H10, G10⟩ := id V_b
  have hin10 : ¬ ((0 : Int32) < 0 ∨ cl10.slots.size ≤ ((0 : Int32)).toNatClampNeg) := inb_of S10 ⟨by decide, by decide⟩
  obtain ⟨T10, h10, X10, e10, W10, st10⟩ := stJ X8 hx hZ e8 Ar10 (j := (0 : Int32)) hin10 (g := (mkF m 107 #[.val (.ref o), .val (.long x), .second, .val (.int (2 : Int32)), .unset, .unset] [(.long x), (.int (0 : Int32)), (.ref b)])) rfl rfl (hb hby d3_107)
  have V10 : Arv Z h10 b k .long (1 : Int32) [(.long x)] (.long (0 : Int64)) := Arv.set Ar10 q10 S10 M10 H10 G10 rfl W10 0 rfl (Nat.le_of_ble_eq_true rfl)
  have f10_0 := E_o.wr W10
  have f10_1 := F1_o.other W10 (Or.inl ne_ob)
  have f10_2 := F2_o.other W10 (Or.inl ne_ob)
  have f10_3 := F3_o.other W10 (Or.inl ne_ob)
  have K10 : Keep h0 h10 [o, b] := (Keep.refl h0 [o, b]).wr W10 (Or.inl (List.mem_of_getElem? (i := 1) rfl))
  have Z10 : n0 ≤ h10.size := Nat.le_trans Z0 K10.1
  have N10 := Fr.snoc X10 N0 g_b
  refine own_Go.of (g' := (mkF m 108 #[.val (.ref o), .val (.long x), .second, .val (.int (2 : Int32)), .unset, .unset] [])) (fun t k => st10 _ k) ?_
  refine og_aloadN (pc' := 109) X10 hx (hb hby d3_108) rfl rfl rfl ?_
  refine og_dup (pc' := 110) X10 hx (hb hby d3_109) rfl rfl ?_
  obtain ⟨T11, X11, e11, st11⟩ := getF X10 hx hZ hown (host := "") (Or.inl (hw _ (List.mem_of_getElem? (i := 18) rfl))) Via.refl e10 f10_3 (g := (mkF m 110 #[.val (.ref o), .val (.long x), .second, .val (.int (2 : Int32)), .unset, .unset] [(.ref o), (.ref o)])) rfl rfl (hb hby d3_110)
  refine own_Go.of (g' := (mkF m 113 #[.val (.ref o), .val (.long x), .second, .val (.int (2 : Int32)), .unset, .unset] [(.int (0 : Int32)), (.ref o)])) (fun t k => st11 _ k) ?_
  refine og_iconst (pc' := 114) (n := 1) X11 hx (hb hby d3_113) rfl rfl ?_
  refine og_iadd (pc' := 115) X11 hx (hb hby d3_114) rfl ?_
  rw [show ((0 : Int32) + (1 : Int32)) = (1 : Int32) from by decide]
  obtain ⟨T12, h12, X12, e12, W12, st12⟩ := putF X11 hx hZ hown (host := "") (Or.inl (hw _ (List.mem_of_getElem? (i := 18) rfl))) Via.refl e11 f10_3 f10_0 (Or.inl (hw _ (List.mem_of_getElem? (i := 19) rfl))) (hw _ (List.mem_of_getElem? (i := 2) rfl)) (ty := .int) (by decide) rfl rfl (g := (mkF m 115 #[.val (.ref o), .val (.long x), .second, .val (.int (2 : Int32)), .unset, .unset] [(.int (1 : Int32)), (.ref o)])) rfl rfl (hb hby d3_115)
  have w12 : Fld Z h12 o "com/example/ostracon/ostracon/LastValues" "count" "I" (.int (1 : Int32)) := f10_3.same W12
  have f12_0 := f10_0.wr W12
  have f12_1 := f10_1.other W12 (Or.inr (slot_ne (a0 := a0) (C := "com/example/ostracon/ostracon/LastValues") (Or.inl (hw _ (List.mem_of_getElem? (i := 12) rfl))) (Or.inl (hw _ (List.mem_of_getElem? (i := 19) rfl))) (by decide) (t := (.array .long)) (t' := .int) (by decide) (by decide)))
  have f12_2 := f10_2.other W12 (Or.inr (slot_ne (a0 := a0) (C := "com/example/ostracon/ostracon/LastValues") (Or.inl (hw _ (List.mem_of_getElem? (i := 21) rfl))) (Or.inl (hw _ (List.mem_of_getElem? (i := 19) rfl))) (by decide) (t := .int) (t' := .int) (by decide) (by decide)))
  have f12_6 := V10.other W12 (Ne.symm ne_ob)
  have K12 : Keep h0 h12 [o, b] := K10.wr W12 (Or.inl (List.mem_of_getElem? (i := 0) rfl))
  have Z12 : n0 ≤ h12.size := Nat.le_trans Z0 K12.1
  have N12 := Fr.snoc X12 N10 g_o
  refine own_Go.of (g' := (mkF m 118 #[.val (.ref o), .val (.long x), .second, .val (.int (2 : Int32)), .unset, .unset] [])) (fun t k => st12 _ k) ?_
  refine og_ldc2_w (pc' := 121) X12 hx (hb hby d3_118) hown (mvT hZ (hw _ (List.mem_of_getElem? (i := 22) rfl))) rfl ?_
  obtain ⟨fs, hr, hrun, hended, hW, hsame⟩ := X12.leave (v := some (.long (-1 : Int64))) (fun h => by rw [Bd.returns] at h; cases h) (BodyLoose.notSynchronized Bd)
  refine ⟨_, _, retL X12 hx Bd.returns (hb hby d3_121) hr, hrun, hended, some (.long (-1 : Int64)), _, rfl, ?_, ⟨_, rfl⟩, hW, hsame.mono (by decide) (by decide)⟩
  show Qadd2_100 Z o x b k v0 h0 n0 _ T12.heap _
  rw [e12]
  exact ⟨rfl, N12, K12, f12_0, f12_1, f12_2, w12, f12_6⟩

theorem d3_20 : decode prog_19_method_2_code 20 = .ok (.iconst 2, 1) := by decide +kernel
theorem d3_21 : decode prog_19_method_2_code 21 = .ok (.aload_n 0, 1) := by decide +kernel
theorem d3_22 : decode prog_19_method_2_code 22 = .ok (.getfield 7, 3) := by decide +kernel
theorem d3_25 : decode prog_19_method_2_code 25 = .ok (.arraylength, 1) := by decide +kernel
theorem d3_26 : decode prog_19_method_2_code 26 = .ok (.imul, 1) := by decide +kernel
theorem d3_27 : decode prog_19_method_2_code 27 = .ok (.iload_n 3, 1) := by decide +kernel
theorem d3_28 : decode prog_19_method_2_code 28 = .ok (.invokestatic 17, 3) := by decide +kernel
theorem d3_31 : decode prog_19_method_2_code 31 = .ok (.newarray .long, 2) := by decide +kernel
theorem d3_33 : decode prog_19_method_2_code 33 = .ok (.astore 4, 2) := by decide +kernel
theorem d3_35 : decode prog_19_method_2_code 35 = .ok (.iconst 0, 1) := by decide +kernel
theorem d3_36 : decode prog_19_method_2_code 36 = .ok (.istore 5, 2) := by decide +kernel
theorem d3_38 : decode prog_19_method_2_code 38 = .ok (.iload 5, 2) := by decide +kernel
theorem d3_40 : decode prog_19_method_2_code 40 = .ok (.aload_n 0, 1) := by decide +kernel
theorem d3_41 : decode prog_19_method_2_code 41 = .ok (.getfield 13, 3) := by decide +kernel
theorem d3_44 : decode prog_19_method_2_code 44 = .ok (.if_icmp .ge 32, 3) := by decide +kernel
theorem d3_47 : decode prog_19_method_2_code 47 = .ok (.aload 4, 2) := by decide +kernel
theorem d3_49 : decode prog_19_method_2_code 49 = .ok (.iload 5, 2) := by decide +kernel
theorem d3_51 : decode prog_19_method_2_code 51 = .ok (.aload_n 0, 1) := by decide +kernel
theorem d3_52 : decode prog_19_method_2_code 52 = .ok (.getfield 7, 3) := by decide +kernel
theorem d3_55 : decode prog_19_method_2_code 55 = .ok (.aload_n 0, 1) := by decide +kernel
theorem d3_56 : decode prog_19_method_2_code 56 = .ok (.getfield 23, 3) := by decide +kernel
theorem d3_59 : decode prog_19_method_2_code 59 = .ok (.iload 5, 2) := by decide +kernel
theorem d3_61 : decode prog_19_method_2_code 61 = .ok (.iadd, 1) := by decide +kernel
theorem d3_62 : decode prog_19_method_2_code 62 = .ok (.aload_n 0, 1) := by decide +kernel
theorem d3_63 : decode prog_19_method_2_code 63 = .ok (.getfield 7, 3) := by decide +kernel
theorem d3_66 : decode prog_19_method_2_code 66 = .ok (.arraylength, 1) := by decide +kernel
theorem d3_67 : decode prog_19_method_2_code 67 = .ok (.irem, 1) := by decide +kernel
theorem d3_68 : decode prog_19_method_2_code 68 = .ok (.laload, 1) := by decide +kernel
theorem d3_69 : decode prog_19_method_2_code 69 = .ok (.lastore, 1) := by decide +kernel
theorem d3_70 : decode prog_19_method_2_code 70 = .ok (.iinc 5 1, 3) := by decide +kernel
theorem d3_73 : decode prog_19_method_2_code 73 = .ok (.goto (-35), 3) := by decide +kernel
theorem d3_76 : decode prog_19_method_2_code 76 = .ok (.aload_n 0, 1) := by decide +kernel
theorem d3_77 : decode prog_19_method_2_code 77 = .ok (.aload 4, 2) := by decide +kernel
theorem d3_79 : decode prog_19_method_2_code 79 = .ok (.putfield 7, 3) := by decide +kernel
theorem d3_82 : decode prog_19_method_2_code 82 = .ok (.aload_n 0, 1) := by decide +kernel
theorem d3_83 : decode prog_19_method_2_code 83 = .ok (.iconst 0, 1) := by decide +kernel
theorem d3_84 : decode prog_19_method_2_code 84 = .ok (.putfield 23, 3) := by decide +kernel
theorem pnadd2_101 : plainName "com/example/ostracon/ostracon/LastValues" = true := by first | (simp [plainName, overriddenIn]; done) | decide +kernel
theorem pd_0 : parseMethodDescriptor "(II)I" = some ⟨[.int, .int], some .int⟩ := by decide +kernel
theorem efadd2_101 (m : MethodId) (z0 : Addr) (z1 : Int64) : entryFrame m #[(.ref z0), (.long z1), (.int (2 : Int32))] 6 = mkF m 0 #[.val (.ref z0), .val (.long z1), .second, .val (.int (2 : Int32)), .unset, .unset] [] := by first | (simp [entryFrame, mkF, argsToLocals, Value.category]; done) | rfl
def Qadd2_101 (Z : State) (o : Addr) (x : Int64) (b : Addr) (k : ClassId) (v0 : Int64) (h0 : Heap) (n0 : Nat) (v : Option Value) (h : Heap) (L : List Loc) : Prop := ∃ (b2 : Addr) (k2 : ClassId), v = some (.long (-1 : Int64)) ∧ Fr n0 L ∧ Keep h0 h [o] ∧ h0.size ≤ b2 ∧ Exa Z h o "com/example/ostracon/ostracon/LastValues" ∧ Fld Z h o "com/example/ostracon/ostracon/LastValues" "values" "[J" (.ref b2) ∧ Fld Z h o "com/example/ostracon/ostracon/LastValues" "start" "I" (.int (0 : Int32)) ∧ Fld Z h o "com/example/ostracon/ostracon/LastValues" "count" "I" (.int (2 : Int32)) ∧ Arv Z h b2 k2 .long (2 : Int32) [(.long v0), (.long x)] (.long (0 : Int64))
set_option maxRecDepth 65536 in
set_option maxHeartbeats 40000000 in
theorem rmadd2_101 (l : Launch) (Z : State) (a0 : Array Value) (hw : ∀ d ∈ tables_1, d.before a0 Z = true) (ws : List Jvm.Cond) (o : Addr) (x : Int64) (b : Addr) (k : ClassId) (v0 : Int64) (h0 : Heap) (n0 : Nat) (Z0 : n0 ≤ h0.size) (E_o : Exa Z h0 o "com/example/ostracon/ostracon/LastValues") (F1_o : Fld Z h0 o "com/example/ostracon/ostracon/LastValues" "values" "[J" (.ref b)) (F2_o : Fld Z h0 o "com/example/ostracon/ostracon/LastValues" "start" "I" (.int (0 : Int32))) (F3_o : Fld Z h0 o "com/example/ostracon/ostracon/LastValues" "count" "I" (.int (1 : Int32))) (V_b : Arv Z h0 b k .long (1 : Int32) [(.long v0)] (.long (0 : Int64))) (g_o : n0 ≤ o) (g_b : n0 ≤ b) (ne_ob : o ≠ b) :
    MetFree l (⟨"com/example/ostracon/ostracon/LastValues", "add", "(JI)J"⟩ : MethodName) (head1 (Jvm.Cond.code (⟨"com/example/ostracon/ostracon/LastValues", "add", "(JI)J"⟩ : MethodName) prog_19_method_2_code 6 (some .long) :: ws) ({ frames := 1, cells := 1, slots := 2, locals := 13 } : Room)) (fun a U => a = #[(.ref o), (.long x), (.int (2 : Int32))] ∧ Z.Warmed39 U.vm ∧ U.heap = h0) (fun _ _ _ _ _ => True) (fun _ U oc U' => ∃ v L, oc = .returned v ∧ Qadd2_101 Z o x b k v0 h0 n0 v U'.heap L ∧ FrameEnd U oc U' L ({ frames := 1, cells := 1, slots := 2, locals := 13 } : Room).cells ({ frames := 1, cells := 1, slots := 2, locals := 13 } : Room).slots) := by
  refine MetFree.of_bodySF (plainFor_of_name pnadd2_101) hisR ?_
  intro p e s m args below meth c s₁ Bd hml0 hP hK
  obtain ⟨rfl, hZ, hh⟩ := hP
  have hx := Bd.exec
  have hby := Bd.bytes
  have hml : c.maxLocals = 6 := hml0
  have hown : s.vm.findClass "com/example/ostracon/ostracon/LastValues" = some m.cls := findClass_of_methodNamed Bd.named
  have hnm := (name_of_methodNamed Bd.named Bd.method).1
  have X0 : Stand p l e ({ frames := 1, cells := 1, slots := 2, locals := 13 } : Room) s m #[(.ref o), (.long x), (.int (2 : Int32))] below meth c s₁ [] 0 0 := Stand.of_body Bd
  have e0 : s₁.heap = h0 := by rw [← hh, Bd.state]; rfl
  have N0 := Fr.nil n0
  show own_Go p e below (fun s₂ oc => ∃ v L, oc = .returned v ∧ Qadd2_101 Z o x b k v0 h0 n0 v s₂.heap L ∧ FrameEnd s oc s₂ L ({ frames := 1, cells := 1, slots := 2, locals := 13 } : Room).cells ({ frames := 1, cells := 1, slots := 2, locals := 13 } : Room).slots) s₁ (entryFrame m #[(.ref o), (.long x), (.int (2 : Int32))] 6)
  refine own_Go.of (g' := mkF m 0 #[.val (.ref o), .val (.long x), .second, .val (.int (2 : Int32)), .unset, .unset] []) (fun t k => castTop (efadd2_101 m o x) k) ?_
  refine og_aloadN (pc' := 1) X0 hx (hb hby d3_0) rfl rfl rfl ?_
  obtain ⟨T1, X1, e1, st1⟩ := getF X0 hx hZ hown (host := "") (Or.inl (hw _ (List.mem_of_getElem? (i := 18) rfl))) Via.refl e0 F3_o (g := (mkF m 1 #[.val (.ref o), .val (.long x), .second, .val (.int (2 : Int32)), .unset, .unset] [(.ref o)])) rfl rfl (hb hby d3_1)
  refine own_Go.of (g' := (mkF m 4 #[.val (.ref o), .val (.long x), .second, .val (.int (2 : Int32)), .unset, .unset] [(.int (1 : Int32))])) (fun t k => st1 _ k) ?_
  refine og_iloadN (pc' := 5) X1 hx (hb hby d3_4) rfl rfl ?_
  refine og_icmpNo (pc' := 8) X1 hx (hb hby d3_5) (tlt (by decide)).2.1 rfl ?_
  refine og_aloadN (pc' := 9) X1 hx (hb hby d3_8) rfl rfl rfl ?_
  obtain ⟨T2, X2, e2, st2⟩ := getF X1 hx hZ hown (host := "") (Or.inl (hw _ (List.mem_of_getElem? (i := 18) rfl))) Via.refl e1 F3_o (g := (mkF m 9 #[.val (.ref o), .val (.long x), .second, .val (.int (2 : Int32)), .unset, .unset] [(.ref o)])) rfl rfl (hb hby d3_9)
  refine own_Go.of (g' := (mkF m 12 #[.val (.ref o), .val (.long x), .second, .val (.int (2 : Int32)), .unset, .unset] [(.int (1 : Int32))])) (fun t k => st2 _ k) ?_
  refine og_aloadN (pc' := 13) X2 hx (hb hby d3_12) rfl rfl rfl ?_
  obtain ⟨T3, X3, e3, st3⟩ := getF X2 hx hZ hown (host := "") (Or.inl (hw _ (List.mem_of_getElem? (i := 11) rfl))) Via.refl e2 F1_o (g := (mkF m 13 #[.val (.ref o), .val (.long x), .second, .val (.int (2 : Int32)), .unset, .unset] [(.ref o), (.int (1 : Int32))])) rfl rfl (hb hby d3_13)
  refine own_Go.of (g' := (mkF m 16 #[.val (.ref o), .val (.long x), .second, .val (.int (2 : Int32)), .unset, .unset] [(.ref b), (.int (1 : Int32))])) (fun t k => st3 _ k) ?_
  obtain ⟨cl4, Ar4, q4, S4, M4, H4, G4⟩ := id V_b
  refine own_Go.of (g' := (mkF m 17 #[.val (.ref o), .val (.long x), .second, .val (.int (2 : Int32)), .unset, .unset] [(.int (1 : Int32)), (.int (1 : Int32))])) (fun t k => X3.arraylength hx (by rw [e3]; exact Ar4.1) (State.isArrayOf_alike hZ.alike Ar4.2.1) (g := (mkF m 16 #[.val (.ref o), .val (.long x), .second, .val (.int (2 : Int32)), .unset, .unset] [(.ref b), (.int (1 : Int32))])) rfl rfl (hb hby d3_16) _ (by rw [len_of S4 M4]; exact k)) ?_
  refine og_icmpNo (pc' := 20) X3 hx (hb hby d3_17) (teq (by decide)).2 rfl ?_
  refine og_iconst (pc' := 21) (n := 2) X3 hx (hb hby d3_20) rfl rfl ?_
  refine og_aloadN (pc' := 22) X3 hx (hb hby d3_21) rfl rfl rfl ?_
  obtain ⟨T5, X5, e5, st5⟩ := getF X3 hx hZ hown (host := "") (Or.inl (hw _ (List.mem_of_getElem? (i := 11) rfl))) Via.refl e3 F1_o (g := (mkF m 22 #[.val (.ref o), .val (.long x), .second, .val (.int (2 : Int32)), .unset, .unset] [(.ref o), (.int (2 : Int32))])) rfl rfl (hb hby d3_22)
  refine own_Go.of (g' := (mkF m 25 #[.val (.ref o), .val (.long x), .second, .val (.int (2 : Int32)), .unset, .unset] [(.ref b), (.int (2 : Int32))])) (fun t k => st5 _ k) ?_
  obtain ⟨cl6, Ar6, q6, S6, M6, H6, G6⟩ := id V_b
  refine own_Go.of (g' := (mkF m 26 #[.val (.ref o), .val (.long x), .second, .val (.int (2 : Int32)), .unset, .unset] [(.int (1 : Int32)), (.int (2 : Int32))])) (fun t k => X5.arraylength hx (by rw [e5]; exact Ar6.1) (State.isArrayOf_alike hZ.alike Ar6.2.1) (g := (mkF m 25 #[.val (.ref o), .val (.long x), .second, .val (.int (2 : Int32)), .unset, .unset] [(.ref b), (.int (2 : Int32))])) rfl rfl (hb hby d3_25) _ (by rw [len_of S6 M6]; exact k)) ?_
  refine og_imul (pc' := 27) X5 hx (hb hby d3_26) rfl ?_
  rw [show ((2 : Int32) * (1 : Int32)) = (2 : Int32) from by decide]
  refine og_iloadN (pc' := 28) X5 hx (hb hby d3_27) rfl rfl ?_
  obtain ⟨_, _, ⟨T7, L7, k7, n7⟩, -, X7, ⟨Lc7, hQ7, l7, y7, z7⟩, st7⟩ := Jvm.LawKit.callS X5 hx (y := (⟨"java/lang/Math", "min", "(II)I"⟩ : MethodName)) hown (mvT hZ (hw _ (List.mem_of_getElem? (i := 28) rfl))) (mvT hZ (hw _ (List.mem_of_getElem? (i := 29) rfl))) (mvT hZ (hw _ (List.mem_of_getElem? (i := 30) rfl))) (mvT hZ (hw _ (List.mem_of_getElem? (i := 31) rfl))) (by decide) (backOf (W := 0) (rmmn l Z a0 hw [] (2 : Int32) (2 : Int32) h0 n0 Z0 ) hZ (hw _ (List.mem_of_getElem? (i := 31) rfl)) (hw _ (List.mem_of_getElem? (i := 30) rfl)) (by decide) (by decide)) (g := (mkF m 28 #[.val (.ref o), .val (.long x), .second, .val (.int (2 : Int32)), .unset, .unset] [(.int (2 : Int32)), (.int (2 : Int32))])) rfl (by rw [hml]; rfl) (argsL := [(.int (2 : Int32)), (.int (2 : Int32))]) (rest := []) (lenOf pd_0 rfl) rfl (by show 2 * 0 + _ ≤ _; exact Nat.le_of_eq rfl) (hb hby d3_28) (fun _ _ => ⟨rfl, e5, (by decide : 0 + 0 ≤ _), (by decide : 0 + 0 ≤ _)⟩)
  dsimp only [Pt.U, Pt.locs, Pt.cells, Pt.slots] at X7 l7 y7 z7 st7 hQ7
  subst l7 y7 z7
  obtain ⟨rfl, N7q, e7⟩ := hQ7
  have N7 := Fr.app N0 N7q
  refine own_Go.of (g' := (mkF m 31 #[.val (.ref o), .val (.long x), .second, .val (.int (2 : Int32)), .unset, .unset] [(.int (own_min (2 : Int32) (2 : Int32)))])) (fun t k => st7 _ k) ?_
  rw [show (own_min (2 : Int32) (2 : Int32)) = (2 : Int32) from by decide]
  obtain ⟨T8, h8, k8, X8, e8, E8, A8, st8⟩ := newP X7 hx hZ (hw _ (List.mem_of_getElem? (i := 10) rfl)) e7 (g := (mkF m 31 #[.val (.ref o), .val (.long x), .second, .val (.int (2 : Int32)), .unset, .unset] [(.int (2 : Int32))])) rfl (hb hby d3_31) rfl (by decide) (cap := 2) (by decide) (by decide) (by decide) (by decide)
  obtain ⟨b8, g8⟩ : ∃ z, z = h0.size := ⟨_, rfl⟩
  rw [← g8] at A8 st8
  have ne8_1 : o ≠ b8 := Nat.ne_of_lt (Nat.lt_of_lt_of_le E_o.lt (Nat.le_of_eq g8.symm))
  have ne8_2 : b ≠ b8 := Nat.ne_of_lt (Nat.lt_of_lt_of_le V_b.lt (Nat.le_of_eq g8.symm))
  have g_b8 : n0 ≤ b8 := Nat.le_trans Z0 (Nat.le_of_eq g8.symm)
  have sz_b8 : h0.size ≤ b8 := Nat.le_trans (Keep.refl h0 [o]).1 (Nat.le_of_eq g8.symm)
  have f8_0 := E_o.ext E8
  have f8_1 := F1_o.ext E8
  have f8_2 := F2_o.ext E8
  have f8_3 := F3_o.ext E8
  have f8_4 := V_b.ext E8
  have V8 : Arv Z h8 b8 k8 .long (2 : Int32) [(.long (0 : Int64)), (.long (0 : Int64))] (.long (0 : Int64)) := (Arv.new A8 (by decide)).pad (pad_rep [] (.long (0 : Int64)) 2)
  have K8 : Keep h0 h8 [o] := (Keep.refl h0 [o]).ext E8
  have Z8 : n0 ≤ h8.size := Nat.le_trans Z0 K8.1
  refine own_Go.of (g' := (mkF m 33 #[.val (.ref o), .val (.long x), .second, .val (.int (2 : Int32)), .unset, .unset] [(.ref b8)])) (fun t k => st8 _ k) ?_
  refine og_astore (pc' := 35) (L' := #[.val (.ref o), .val (.long x), .second, .val (.int (2 : Int32)), .val (.ref b8), .unset]) X8 hx (hb hby d3_33) rfl rfl rfl ?_
  refine og_iconst (pc' := 36) (n := 0) X8 hx (hb hby d3_35) rfl rfl ?_
  refine og_istore (pc' := 38) (L' := #[.val (.ref o), .val (.long x), .second, .val (.int (2 : Int32)), .val (.ref b8), .val (.int (0 : Int32))]) X8 hx (hb hby d3_36) rfl rfl ?_
  refine og_iload (pc' := 40) X8 hx (hb hby d3_38) rfl rfl ?_
  refine og_aloadN (pc' := 41) X8 hx (hb hby d3_40) rfl rfl rfl ?_
  obtain ⟨T9, X9, e9, st9⟩ := getF X8 hx hZ hown (host := "") (Or.inl (hw _ (List.mem_of_getElem? (i := 18) rfl))) Via.refl e8 f8_3 (g := (mkF m 41 #[.val (.ref o), .val (.long x), .second, .val (.int (2 : Int32)), .val (.ref b8), .val (.int (0 : Int32))] [(.ref o), (.int (0 : Int32))])) rfl rfl (hb hby d3_41)
  refine own_Go.of (g' := (mkF m 44 #[.val (.ref o), .val (.long x), .second, .val (.int (2 : Int32)), .val (.ref b8), .val (.int (0 : Int32))] [(.int (1 : Int32)), (.int (0 : Int32))])) (fun t k => st9 _ k) ?_
  refine og_icmpNo (pc' := 47) X9 hx (hb hby d3_44) (tlt (by decide)).2.1 rfl ?_
  refine og_aload (pc' := 49) X9 hx (hb hby d3_47) rfl rfl rfl ?_
  refine og_iload (pc' := 51) X9 hx (hb hby d3_49) rfl rfl ?_
  refine og_aloadN (pc' := 52) X9 hx (hb hby d3_51) rfl rfl rfl ?_
  obtain ⟨T10, X10, e10, st10⟩ := getF X9 hx hZ hown (host := "") (Or.inl (hw _ (List.mem_of_getElem? (i := 11) rfl))) Via.refl e9 f8_1 (g := (mkF m 52 #[.val (.ref o), .val (.long x), .second, .val (.int (2 : Int32)), .val (.ref b8), .val (.int (0 : Int32))] [(.ref o), (.int (0 : Int32)), (.ref b8)])) rfl rfl (hb hby d3_52)
  refine own_Go.of (g' := (mkF m 55 #[.val (.ref o), .val (.long x), .second, .val (.int (2 : Int32)), .val (.ref b8), .val (.int (0 : Int32))] [(.ref b), (.int (0 : Int32)), (.ref b8)])) (fun t k => st10 _ k) ?_
  refine og_aloadN (pc' := 56) X10 hx (hb hby d3_55) rfl rfl rfl ?_
  obtain ⟨T11, X11, e11, st11⟩ := getF X10 hx hZ hown (host := "") (Or.inl (hw _ (List.mem_of_getElem? (i := 20) rfl))) Via.refl e10 f8_2 (g := (mkF m 56 #[.val (.ref o), .val (.long x), .second, .val (.int (2 : Int32)), .val (.ref b8), .val (.int (0 : Int32))] [(.ref o), (.ref b), (.int (0 : Int32)), (.ref b8)])) rfl rfl (hb hby d3_56)
  refine own_Go.of (g' := (mkF m 59 #[.val (.ref o), .val (.long x), .second, .val (.int (2 : Int32)), .val (.ref b8), .val (.int (0 : Int32))] [(.int (0 : Int32)), (.ref b), (.int (0 : Int32)), (.ref b8)])) (fun t k => st11 _ k) ?_
  refine og_iload (pc' := 61) X11 hx (hb hby d3_59) rfl rfl ?_
  refine og_iadd (pc' := 62) X11 hx (hb hby d3_61) rfl ?_
  rw [show ((0 : Int32) + (0 : Int32)) = (0 : Int32) from by decide]
  refine og_aloadN (pc' := 63) X11 hx (hb hby d3_62) rfl rfl rfl ?_
  obtain ⟨T12, X12, e12, st12⟩ := getF X11 hx hZ hown (host := "") (Or.inl (hw _ (List.mem_of_getElem? (i := 11) rfl))) Via.refl e11 f8_1 (g := (mkF m 63 #[.val (.ref o), .val (.long x), .second, .val (.int (2 : Int32)), .val (.ref b8), .val (.int (0 : Int32))] [(.ref o), (.int (0 : Int32)), (.ref b), (.int (0 : Int32)), (.ref b8)])) rfl rfl (hb hby d3_63)
  refine own_Go.of (g' := (mkF m 66 #[.val (.ref o), .val (.long x), .second, .val (.int (2 : Int32)), .val (.ref b8), .val (.int (0 : Int32))] [(.ref b), (.int (0 : Int32)), (.ref b), (.int (0 : Int32)), (.ref b8)])) (fun t k => st12 _ k) ?_
  obtain ⟨cl13, Ar13, q13, S13, M13, H13, G13⟩ := id f8_4
  refine own_Go.of (g' := (mkF m 67 #[.val (.ref o), .val (.long x), .second, .val (.int (2 : Int32)), .val (.ref b8), .val (.int (0 : Int32))] [(.int (1 : Int32)), (.int (0 : Int32)), (.ref b), (.int (0 : Int32)), (.ref b8)])) (fun t k => X12.arraylength hx (by rw [e12]; exact Ar13.1) (State.isArrayOf_alike hZ.alike Ar13.2.1) (g := (mkF m 66 #[.val (.ref o), .val (.long x), .second, .val (.int (2 : Int32)), .val (.ref b8), .val (.int (0 : Int32))] [(.ref b), (.int (0 : Int32)), (.ref b), (.int (0 : Int32)), (.ref b8)])) rfl rfl (hb hby d3_66) _ (by rw [len_of S13 M13]; exact k)) ?_
  refine og_irem (pc' := 68) X12 hx (hb hby d3_67) (by decide) rfl ?_
  rw [show ((0 : Int32) % (1 : Int32)) = (0 : Int32) from by decide]
  obtain ⟨cl14, Ar14, q14, S14, M14, H14, G14⟩ := id f8_4
  have hin14 : ¬ ((0 : Int32) < 0 ∨ cl14.slots.size ≤ ((0 : Int32)).toNatClampNeg) := inb_of S14 ⟨by decide, by decide⟩
  have hat14 : cl14.slots[((0 : Int32)).toNatClampNeg]? = some (.long v0) := Has.at H14 hin14 rfl
  refine own_Go.of (g' := (mkF m 69 #[.val (.ref o), .val (.long x), .second, .val (.int (2 : Int32)), .val (.ref b8), .val (.int (0 : Int32))] [(.long v0), (.int (0 : Int32)), (.ref b8)])) (fun t k => X12.laload hx (j := (0 : Int32)) (v := (.long v0)) (by rw [e12]; exact Ar14.1) (State.isArrayOf_alike hZ.alike Ar14.2.1) Ar14.2.2 hin14 hat14 (g := (mkF m 68 #[.val (.ref o), .val (.long x), .second, .val (.int (2 : Int32)), .val (.ref b8), .val (.int (0 : Int32))] [(.int (0 : Int32)), (.ref b), (.int (0 : Int32)), (.ref b8)])) rfl rfl (hb hby d3_68) _ k) ?_
  obtain ⟨cl15, Ar15, q15, S15, M15, H15, G15⟩ := id V8
  have hin15 : ¬ ((0 : Int32) < 0 ∨ cl15.slots.size ≤ ((0 : Int32)).toNatClampNeg) := inb_of S15 ⟨by decide, by decide⟩
  obtain ⟨T15, h15, X15, e15, W15, st15⟩ := stJ X12 hx hZ e12 Ar15 (j := (0 : Int32)) hin15 (g := (mkF m 69 #[.val (.ref o), .val (.long x), .second, .val (.int (2 : Int32)), .val (.ref b8), .val (.int (0 : Int32))] [(.long v0), (.int (0 : Int32)), (.ref b8)])) rfl rfl (hb hby d3_69)
  have V15 : Arv Z h15 b8 k8 .long (2 : Int32) [(.long v0), (.long (0 : Int64))] (.long (0 : Int64)) := Arv.set Ar15 q15 S15 M15 H15 G15 rfl W15 0 rfl (Nat.le_of_ble_eq_true rfl)
  have f15_0 := f8_0.wr W15
  have f15_1 := f8_1.other W15 (Or.inl ne8_1)
  have f15_2 := f8_2.other W15 (Or.inl ne8_1)
  have f15_3 := f8_3.other W15 (Or.inl ne8_1)
  have f15_4 := f8_4.other W15 ne8_2
  have K15 : Keep h0 h15 [o] := K8.wr W15 (Or.inr sz_b8)
  have Z15 : n0 ≤ h15.size := Nat.le_trans Z0 K15.1
  have N15 := Fr.snoc X15 N7 g_b8
  refine own_Go.of (g' := (mkF m 70 #[.val (.ref o), .val (.long x), .second, .val (.int (2 : Int32)), .val (.ref b8), .val (.int (0 : Int32))] [])) (fun t k => st15 _ k) ?_
  refine og_iinc (pc' := 73) (L' := #[.val (.ref o), .val (.long x), .second, .val (.int (2 : Int32)), .val (.ref b8), .val (.int ((0 : Int32) + (1 : Int32)))]) X15 hx (hb hby d3_70) rfl rfl rfl ?_
  rw [show ((0 : Int32) + (1 : Int32)) = (1 : Int32) from by decide]
  refine og_goto (pc' := 38) X15 hx (hb hby d3_73) (by decide) (by decide) ?_
  refine og_iload (pc' := 40) X15 hx (hb hby d3_38) rfl rfl ?_
  refine og_aloadN (pc' := 41) X15 hx (hb hby d3_40) rfl rfl rfl ?_
  obtain ⟨T16, X16, e16, st16⟩ := getF X15 hx hZ hown (host := "") (Or.inl (hw _ (List.mem_of_getElem? (i := 18) rfl))) Via.refl e15 f15_3 (g := (mkF m 41 #[.val (.ref o), .val (.long x), .second, .val (.int (2 : Int32)), .val (.ref b8), .val (.int (1 : Int32))] [(.ref o), (.int (1 : Int32))])) rfl rfl (hb hby d3_41)
  refine own_Go.of (g' := (mkF m 44 #[.val (.ref o), .val (.long x), .second, .val (.int (2 : Int32)), .val (.ref b8), .val (.int (1 : Int32))] [(.int (1 : Int32)), (.int (1 : Int32))])) (fun t k => st16 _ k) ?_
  refine og_icmpYes (pc' := 76) X16 hx (hb hby d3_44) (flt (by decide)).2.1 (by decide) (by decide) ?_
  refine og_aloadN (pc' := 77) X16 hx (hb hby d3_76) rfl rfl rfl ?_
  refine og_aload (pc' := 79) X16 hx (hb hby d3_77) rfl rfl rfl ?_
  obtain ⟨T17, h17, X17, e17, W17, st17⟩ := putF X16 hx hZ hown (host := "") (Or.inl (hw _ (List.mem_of_getElem? (i := 11) rfl))) Via.refl e16 f15_1 f15_0 (Or.inl (hw _ (List.mem_of_getElem? (i := 12) rfl))) (hw _ (List.mem_of_getElem? (i := 2) rfl)) (ty := (.array .long)) (by decide) rfl rfl (g := (mkF m 79 #[.val (.ref o), .val (.long x), .second, .val (.int (2 : Int32)), .val (.ref b8), .val (.int (1 : Int32))] [(.ref b8), (.ref o)])) rfl rfl (hb hby d3_79)
  have w17 : Fld Z h17 o "com/example/ostracon/ostracon/LastValues" "values" "[J" (.ref b8) := f15_1.same W17
  have f17_0 := f15_0.wr W17
  have f17_1 := f15_2.other W17 (Or.inr (slot_ne (a0 := a0) (C := "com/example/ostracon/ostracon/LastValues") (Or.inl (hw _ (List.mem_of_getElem? (i := 21) rfl))) (Or.inl (hw _ (List.mem_of_getElem? (i := 12) rfl))) (by decide) (t := .int) (t' := (.array .long)) (by decide) (by decide)))
  have f17_2 := f15_3.other W17 (Or.inr (slot_ne (a0 := a0) (C := "com/example/ostracon/ostracon/LastValues") (Or.inl (hw _ (List.mem_of_getElem? (i := 19) rfl))) (Or.inl (hw _ (List.mem_of_getElem? (i := 12) rfl))) (by decide) (t := .int) (t' := (.array .long)) (by decide) (by decide)))
  have f17_3 := f15_4.other W17 (Ne.symm ne_ob)
  have f17_7 := V15.other W17 (Ne.symm ne8_1)
  have K17 : Keep h0 h17 [o] := K15.wr W17 (Or.inl (List.mem_of_getElem? (i := 0) rfl))
  have Z17 : n0 ≤ h17.size := Nat.le_trans Z0 K17.1
  have N17 := Fr.snoc X17 N15 g_o
  refine own_Go.of (g' := (mkF m 82 #[.val (.ref o), .val (.long x), .second, .val (.int (2 : Int32)), .val (.ref b8), .val (.int (1 : Int32))] [])) (fun t k => st17 _ k) ?_
  refine og_aloadN (pc' := 83) X17 hx (hb hby d3_82) rfl rfl rfl ?_
  refine og_iconst (pc' := 84) (n := 0) X17 hx (hb hby d3_83) rfl rfl ?_
  obtain ⟨T18, h18, X18, e18, W18, st18⟩ := putF X17 hx hZ hown (host := "") (Or.inl (hw _ (List.mem_of_getElem? (i := 20) rfl))) Via.refl e17 f17_1 f17_0 (Or.inl (hw _ (List.mem_of_getElem? (i := 21) rfl))) (hw _ (List.mem_of_getElem? (i := 2) rfl)) (ty := .int) (by decide) rfl rfl (g := (mkF m 84 #[.val (.ref o), .val (.long x), .second, .val (.int (2 : Int32)), .val (.ref b8), .val (.int (1 : Int32))] [(.int (0 : Int32)), (.ref o)])) rfl rfl (hb hby d3_84)
  have w18 : Fld Z h18 o "com/example/ostracon/ostracon/LastValues" "start" "I" (.int (0 : Int32)) := f17_1.same W18
  have f18_0 := f17_0.wr W18
  have f18_1 := f17_2.other W18 (Or.inr (slot_ne (a0 := a0) (C := "com/example/ostracon/ostracon/LastValues") (Or.inl (hw _ (List.mem_of_getElem? (i := 19) rfl))) (Or.inl (hw _ (List.mem_of_getElem? (i := 21) rfl))) (by decide) (t := .int) (t' := .int) (by decide) (by decide)))
  have f18_2 := f17_3.other W18 (Ne.symm ne_ob)
  have f18_6 := f17_7.other W18 (Ne.symm ne8_1)
  have f18_7 := w17.other W18 (Or.inr (slot_ne (a0 := a0) (C := "com/example/ostracon/ostracon/LastValues") (Or.inl (hw _ (List.mem_of_getElem? (i := 12) rfl))) (Or.inl (hw _ (List.mem_of_getElem? (i := 21) rfl))) (by decide) (t := (.array .long)) (t' := .int) (by decide) (by decide)))
  have K18 : Keep h0 h18 [o] := K17.wr W18 (Or.inl (List.mem_of_getElem? (i := 0) rfl))
  have Z18 : n0 ≤ h18.size := Nat.le_trans Z0 K18.1
  have N18 := Fr.snoc X18 N17 g_o
  refine own_Go.of (g' := (mkF m 87 #[.val (.ref o), .val (.long x), .second, .val (.int (2 : Int32)), .val (.ref b8), .val (.int (1 : Int32))] [])) (fun t k => st18 _ k) ?_
  refine og_aloadN (pc' := 88) X18 hx (hb hby d3_87) rfl rfl rfl ?_
  obtain ⟨T19, X19, e19, st19⟩ := getF X18 hx hZ hown (host := "") (Or.inl (hw _ (List.mem_of_getElem? (i := 11) rfl))) Via.refl e18 f18_7 (g := (mkF m 88 #[.val (.ref o), .val (.long x), .second, .val (.int (2 : Int32)), .val (.ref b8), .val (.int (1 : Int32))] [(.ref o)])) rfl rfl (hb hby d3_88)
  refine own_Go.of (g' := (mkF m 91 #[.val (.ref o), .val (.long x), .second, .val (.int (2 : Int32)), .val (.ref b8), .val (.int (1 : Int32))] [(.ref b8)])) (fun t k => st19 _ k) ?_
  refine og_aloadN (pc' := 92) X19 hx (hb hby d3_91) rfl rfl rfl ?_
  obtain ⟨T20, X20, e20, st20⟩ := getF X19 hx hZ hown (host := "") (Or.inl (hw _ (List.mem_of_getElem? (i := 20) rfl))) Via.refl e19 w18 (g := (mkF m 92 #[.val (.ref o), .val (.long x), .second, .val (.int (2 : Int32)), .val (.ref b8), .val (.int (1 : Int32))] [(.ref o), (.ref b8)])) rfl rfl (hb hby d3_92)
  refine own_Go.of (g' := (mkF m 95 #[.val (.ref o), .val (.long x), .second, .val (.int (2 : Int32)), .val (.ref b8), .val (.int (1 : Int32))] [(.int (0 : Int32)), (.ref b8)])) (fun t k => st20 _ k) ?_
  refine og_aloadN (pc' := 96) X20 hx (hb hby d3_95) rfl rfl rfl ?_
  obtain ⟨T21, X21, e21, st21⟩ := getF X20 hx hZ hown (host := "") (Or.inl (hw _ (List.mem_of_getElem? (i := 18) rfl))) Via.refl e20 f18_1 (g := (mkF m 96 #[.val (.ref o), .val (.long x), .second, .val (.int (2 : Int32)), .val (.ref b8), .val (.int (1 : Int32))] [(.ref o), (.int (0 : Int32)), (.ref b8)])) rfl rfl (hb hby d3_96)
  refine own_Go.of (g' := (mkF m 99 #[.val (.ref o), .val (.long x), .second, .val (.int (2 : Int32)), .val (.ref b8), .val (.int (1 : Int32))] [(.int (1 : Int32)), (.int (0 : Int32)), (.ref b8)])) (fun t k => st21 _ k) ?_
  refine og_iadd (pc' := 100) X21 hx (hb hby d3_99) rfl ?_
  rw [show ((0 : Int32) + (1 : Int32)) = (1 : Int32) from by decide]
  refine og_aloadN (pc' := 101) X21 hx (hb hby d3_100) rfl rfl rfl ?_
  obtain ⟨T22, X22, e22, st22⟩ := getF X21 hx hZ hown (host := "") (Or.inl (hw _ (List.mem_of_getElem? (i := 11) rfl))) Via.refl e21 f18_7 (g := (mkF m 101 #[.val (.ref o), .val (.long x), .second, .val (.int (2 : Int32)), .val (.ref b8), .val (.int (1 : Int32))] [(.ref o), (.int (1 : Int32)), (.ref b8)])) rfl rfl (hb hby d3_101)
  refine own_Go.of (g' := (mkF m 104 #[.val (.ref o), .val (.long x), .second, .val (.int (2 : Int32)), .val (.ref b8), .val (.int (1 : Int32))] [(.ref b8), (.int (1 : Int32)), (.ref b8)])) (fun t k => st22 _ k) ?_
  obtain ⟨cl23, Ar23, q23, S23, M23, H23, G23⟩ := id f18_6
  refine own_Go.of (g' := (mkF m 105 #[.val (.ref o), .val (.long x), .second, .val (.int (2 : Int32)), .val (.ref b8), .val (.int (1 : Int32))] [(.int (2 : Int32)), (.int (1 : Int32)), (.ref b8)])) (fun t k => X22.arraylength hx (by rw [e22]; exact Ar23.1) (State.isArrayOf_alike hZ.alike Ar23.2.1) (g := (mkF m 104 #[.val (.ref o), .val (.long x), .second, .val (.int (2 : Int32)), .val (.ref b8), .val (.int (1 : Int32))] [(.ref b8), (.int (1 : Int32)), (.ref b8)])) rfl rfl (hb hby d3_104) _ (by rw [len_of S23 M23]; exact k)) ?_
  refine og_irem (pc' := 106) X22 hx (hb hby d3_105) (by decide) rfl ?_
  rw [show ((1 : Int32) % (2 : Int32)) = (1 : Int32) from by decide]
  refine og_lloadN (pc' := 107) X22 hx (hb hby d3_106) rfl rfl ?_
  obtain ⟨cl24, Ar24, q24, S24, M24, H24, G24⟩ := id f18_6
  have hin24 : ¬ ((1 : Int32) < 0 ∨ cl24.slots.size ≤ ((1 : Int32)).toNatClampNeg) := inb_of S24 ⟨by decide, by decide⟩
  obtain ⟨T24, h24, X24, e24, W24, st24⟩ := stJ X22 hx hZ e22 Ar24 (j := (1 : Int32)) hin24 (g := (mkF m 107 #[.val (.ref o), .val (.long x), .second, .val (.int (2 : Int32)), .val (.ref b8), .val (.int (1 : Int32))] [(.long x), (.int (1 : Int32)), (.ref b8)])) rfl rfl (hb hby d3_107)
  have V24 : Arv Z h24 b8 k8 .long (2 : Int32) [(.long v0), (.long x)] (.long (0 : Int64)) := Arv.set Ar24 q24 S24 M24 H24 G24 rfl W24 1 rfl (Nat.le_of_ble_eq_true rfl)
  have f24_0 := f18_0.wr W24
  have f24_1 := f18_1.other W24 (Or.inl ne8_1)
  have f24_2 := f18_2.other W24 ne8_2
  have f24_6 := f18_7.other W24 (Or.inl ne8_1)
  have f24_7 := w18.other W24 (Or.inl ne8_1)
  have K24 : Keep h0 h24 [o] := K18.wr W24 (Or.inr sz_b8)
  have Z24 : n0 ≤ h24.size := Nat.le_trans Z0 K24.1
  have N24 := Fr.snoc X24 N18 g_b8
  refine own_Go.of (g' := (mkF m 108 #[.val (.ref o), .val (.long x), .second, .val (.int (2 : Int32)), .val (.ref b8), .val (.int (1 : Int32))] [])) (fun t k => st24 _ k) ?_
  refine og_aloadN (pc' := 109) X24 hx (hb hby d3_108) rfl rfl rfl ?_
  refine og_dup (pc' := 110) X24 hx (hb hby d3_109) rfl rfl ?_
  obtain ⟨T25, X25, e25, st25⟩ := getF X24 hx hZ hown (host := "") (Or.inl (hw _ (List.mem_of_getElem? (i := 18) rfl))) Via.refl e24 f24_1 (g := (mkF m 110 #[.val (.ref o), .val (.long x), .second, .val (.int (2 : Int32)), .val (.ref b8), .val (.int (1 : Int32))] [(.ref o), (.ref o)])) rfl rfl (hb hby d3_110)
  refine own_Go.of (g' := (mkF m 113 #[.val (.ref o), .val (.long x), .second, .val (.int (2 : Int32)), .val (.ref b8), .val (.int (1 : Int32))] [(.int (1 : Int32)), (.ref o)])) (fun t k => st25 _ k) ?_
  refine og_iconst (pc' := 114) (n := 1) X25 hx (hb hby d3_113) rfl rfl ?_
  refine og_iadd (pc' := 115) X25 hx (hb hby d3_114) rfl ?_
  rw [show ((1 : Int32) + (1 : Int32)) = (2 : Int32) from by decide]
  obtain ⟨T26, h26, X26, e26, W26, st26⟩ := putF X25 hx hZ hown (host := "") (Or.inl (hw _ (List.mem_of_getElem? (i := 18) rfl))) Via.refl e25 f24_1 f24_0 (Or.inl (hw _ (List.mem_of_getElem? (i := 19) rfl))) (hw _ (List.mem_of_getElem? (i := 2) rfl)) (ty := .int) (by decide) rfl rfl (g := (mkF m 115 #[.val (.ref o), .val (.long x), .second, .val (.int (2 : Int32)), .val (.ref b8), .val (.int (1 : Int32))] [(.int (2 : Int32)), (.ref o)])) rfl rfl (hb hby d3_115)
  have w26 : Fld Z h26 o "com/example/ostracon/ostracon/LastValues" "count" "I" (.int (2 : Int32)) := f24_1.same W26
  have f26_0 := f24_0.wr W26
  have f26_1 := f24_2.other W26 (Ne.symm ne_ob)
  have f26_5 := f24_6.other W26 (Or.inr (slot_ne (a0 := a0) (C := "com/example/ostracon/ostracon/LastValues") (Or.inl (hw _ (List.mem_of_getElem? (i := 12) rfl))) (Or.inl (hw _ (List.mem_of_getElem? (i := 19) rfl))) (by decide) (t := (.array .long)) (t' := .int) (by decide) (by decide)))
  have f26_6 := f24_7.other W26 (Or.inr (slot_ne (a0 := a0) (C := "com/example/ostracon/ostracon/LastValues") (Or.inl (hw _ (List.mem_of_getElem? (i := 21) rfl))) (Or.inl (hw _ (List.mem_of_getElem? (i := 19) rfl))) (by decide) (t := .int) (t' := .int) (by decide) (by decide)))
  have f26_7 := V24.other W26 (Ne.symm ne8_1)
  have K26 : Keep h0 h26 [o] := K24.wr W26 (Or.inl (List.mem_of_getElem? (i := 0) rfl))
  have Z26 : n0 ≤ h26.size := Nat.le_trans Z0 K26.1
  have N26 := Fr.snoc X26 N24 g_o
  refine own_Go.of (g' := (mkF m 118 #[.val (.ref o), .val (.long x), .second, .val (.int (2 : Int32)), .val (.ref b8), .val (.int (1 : Int32))] [])) (fun t k => st26 _ k) ?_
  refine og_ldc2_w (pc' := 121) X26 hx (hb hby d3_118) hown (mvT hZ (hw _ (List.mem_of_getElem? (i := 22) rfl))) rfl ?_
  obtain ⟨fs, hr, hrun, hended, hW, hsame⟩ := X26.leave (v := some (.long (-1 : Int64))) (fun h => by rw [Bd.returns] at h; cases h) (BodyLoose.notSynchronized Bd)
  refine ⟨_, _, retL X26 hx Bd.returns (hb hby d3_121) hr, hrun, hended, some (.long (-1 : Int64)), _, rfl, ?_, ⟨_, rfl⟩, hW, hsame.mono (by decide) (by decide)⟩
  show Qadd2_101 Z o x b k v0 h0 n0 _ T26.heap _
  rw [e26]
  exact ⟨b8, k8, rfl, N26, K26, sz_b8, f26_0, f26_5, f26_6, w26, f26_7⟩

theorem pnnew202 : plainName "com/example/ostracon/ostracon/LastValues" = true := by first | (simp [plainName, overriddenIn]; done) | decide +kernel
theorem efnew202 (m : MethodId) (z0 : Addr) : entryFrame m #[(.ref z0)] 1 = mkF m 0 #[.val (.ref z0)] [] := by first | (simp [entryFrame, mkF, argsToLocals, Value.category]; done) | rfl
def Qnew202 (Z : State) (o : Addr) (b : Addr) (k : ClassId) (v0 : Int64) (v1 : Int64) (h0 : Heap) (n0 : Nat) (v : Option Value) (h : Heap) (L : List Loc) : Prop := v = some (.long v1) ∧ Fr n0 L ∧ h = h0
set_option maxRecDepth 65536 in
set_option maxHeartbeats 40000000 in
theorem rmnew202 (l : Launch) (Z : State) (a0 : Array Value) (hw : ∀ d ∈ tables_1, d.before a0 Z = true) (ws : List Jvm.Cond) (o : Addr) (b : Addr) (k : ClassId) (v0 : Int64) (v1 : Int64) (h0 : Heap) (n0 : Nat) (Z0 : n0 ≤ h0.size) (E_o : Exa Z h0 o "com/example/ostracon/ostracon/LastValues") (F1_o : Fld Z h0 o "com/example/ostracon/ostracon/LastValues" "values" "[J" (.ref b)) (F2_o : Fld Z h0 o "com/example/ostracon/ostracon/LastValues" "start" "I" (.int (0 : Int32))) (F3_o : Fld Z h0 o "com/example/ostracon/ostracon/LastValues" "count" "I" (.int (2 : Int32))) (V_b : Arv Z h0 b k .long (2 : Int32) [(.long v0), (.long v1)] (.long (0 : Int64))) :
    MetFree l (⟨"com/example/ostracon/ostracon/LastValues", "newest", "()J"⟩ : MethodName) (head1 (Jvm.Cond.code (⟨"com/example/ostracon/ostracon/LastValues", "newest", "()J"⟩ : MethodName) prog_19_method_5_code 1 (some .long) :: ws) ({ frames := 0, cells := 0, slots := 0, locals := 0 } : Room)) (fun a U => a = #[(.ref o)] ∧ Z.Warmed39 U.vm ∧ U.heap = h0) (fun _ _ _ _ _ => True) (fun _ U oc U' => ∃ v L, oc = .returned v ∧ Qnew202 Z o b k v0 v1 h0 n0 v U'.heap L ∧ FrameEnd U oc U' L ({ frames := 0, cells := 0, slots := 0, locals := 0 } : Room).cells ({ frames := 0, cells := 0, slots := 0, locals := 0 } : Room).slots) := by
  refine MetFree.of_bodySF (plainFor_of_name pnnew202) hisR ?_
  intro p e s m args below meth c s₁ Bd hml0 hP hK
  obtain ⟨rfl, hZ, hh⟩ := hP
  have hx := Bd.exec
  have hby := Bd.bytes
  have hml : c.maxLocals = 1 := hml0
  have hown : s.vm.findClass "com/example/ostracon/ostracon/LastValues" = some m.cls := findClass_of_methodNamed Bd.named
  have hnm := (name_of_methodNamed Bd.named Bd.method).1
  have X0 : Stand p l e ({ frames := 0, cells := 0, slots := 0, locals := 0 } : Room) s m #[(.ref o)] below meth c s₁ [] 0 0 := Stand.of_body Bd
  have e0 : s₁.heap = h0 := by rw [← hh, Bd.state]; rfl
  have N0 := Fr.nil n0
  show own_Go p e below (fun s₂ oc => ∃ v L, oc = .returned v ∧ Qnew202 Z o b k v0 v1 h0 n0 v s₂.heap L ∧ FrameEnd s oc s₂ L ({ frames := 0, cells := 0, slots := 0, locals := 0 } : Room).cells ({ frames := 0, cells := 0, slots := 0, locals := 0 } : Room).slots) s₁ (entryFrame m #[(.ref o)] 1)
  refine own_Go.of (g' := mkF m 0 #[.val (.ref o)] []) (fun t k => castTop (efnew202 m o) k) ?_
  refine og_aloadN (pc' := 1) X0 hx (hb hby d4_0) rfl rfl rfl ?_
  obtain ⟨T1, X1, e1, st1⟩ := getF X0 hx hZ hown (host := "") (Or.inl (hw _ (List.mem_of_getElem? (i := 11) rfl))) Via.refl e0 F1_o (g := (mkF m 1 #[.val (.ref o)] [(.ref o)])) rfl rfl (hb hby d4_1)
  refine own_Go.of (g' := (mkF m 4 #[.val (.ref o)] [(.ref b)])) (fun t k => st1 _ k) ?_
  refine og_aloadN (pc' := 5) X1 hx (hb hby d4_4) rfl rfl rfl ?_
  obtain ⟨T2, X2, e2, st2⟩ := getF X1 hx hZ hown (host := "") (Or.inl (hw _ (List.mem_of_getElem? (i := 20) rfl))) Via.refl e1 F2_o (g := (mkF m 5 #[.val (.ref o)] [(.ref o), (.ref b)])) rfl rfl (hb hby d4_5)
  refine own_Go.of (g' := (mkF m 8 #[.val (.ref o)] [(.int (0 : Int32)), (.ref b)])) (fun t k => st2 _ k) ?_
  refine og_aloadN (pc' := 9) X2 hx (hb hby d4_8) rfl rfl rfl ?_
  obtain ⟨T3, X3, e3, st3⟩ := getF X2 hx hZ hown (host := "") (Or.inl (hw _ (List.mem_of_getElem? (i := 18) rfl))) Via.refl e2 F3_o (g := (mkF m 9 #[.val (.ref o)] [(.ref o), (.int (0 : Int32)), (.ref b)])) rfl rfl (hb hby d4_9)
  refine own_Go.of (g' := (mkF m 12 #[.val (.ref o)] [(.int (2 : Int32)), (.int (0 : Int32)), (.ref b)])) (fun t k => st3 _ k) ?_
  refine og_iadd (pc' := 13) X3 hx (hb hby d4_12) rfl ?_
  rw [show ((0 : Int32) + (2 : Int32)) = (2 : Int32) from by decide]
  refine og_iconst (pc' := 14) (n := 1) X3 hx (hb hby d4_13) rfl rfl ?_
  refine og_isub (pc' := 15) X3 hx (hb hby d4_14) rfl ?_
  rw [show ((2 : Int32) - (1 : Int32)) = (1 : Int32) from by decide]
  refine og_aloadN (pc' := 16) X3 hx (hb hby d4_15) rfl rfl rfl ?_
  obtain ⟨T4, X4, e4, st4⟩ := getF X3 hx hZ hown (host := "") (Or.inl (hw _ (List.mem_of_getElem? (i := 11) rfl))) Via.refl e3 F1_o (g := (mkF m 16 #[.val (.ref o)] [(.ref o), (.int (1 : Int32)), (.ref b)])) rfl rfl (hb hby d4_16)
  refine own_Go.of (g' := (mkF m 19 #[.val (.ref o)] [(.ref b), (.int (1 : Int32)), (.ref b)])) (fun t k => st4 _ k) ?_
  obtain ⟨cl5, Ar5, q5, S5, M5, H5, G5⟩ := id V_b
  refine own_Go.of (g' := (mkF m 20 #[.val (.ref o)] [(.int (2 : Int32)), (.int (1 : Int32)), (.ref b)])) (fun t k => X4.arraylength hx (by rw [e4]; exact Ar5.1) (State.isArrayOf_alike hZ.alike Ar5.2.1) (g := (mkF m 19 #[.val (.ref o)] [(.ref b), (.int (1 : Int32)), (.ref b)])) rfl rfl (hb hby d4_19) _ (by rw [len_of S5 M5]; exact k)) ?_
  refine og_irem (pc' := 21) X4 hx (hb hby d4_20) (by decide) rfl ?_
  rw [show ((1 : Int32) % (2 : Int32)) = (1 : Int32) from by decide]
  obtain ⟨cl6, Ar6, q6, S6, M6, H6, G6⟩ := id V_b
  have hin6 : ¬ ((1 : Int32) < 0 ∨ cl6.slots.size ≤ ((1 : Int32)).toNatClampNeg) := inb_of S6 ⟨by decide, by decide⟩
  have hat6 : cl6.slots[((1 : Int32)).toNatClampNeg]? = some (.long v1) := Has.at H6 hin6 rfl
  refine own_Go.of (g' := (mkF m 22 #[.val (.ref o)] [(.long v1)])) (fun t k => X4.laload hx (j := (1 : Int32)) (v := (.long v1)) (by rw [e4]; exact Ar6.1) (State.isArrayOf_alike hZ.alike Ar6.2.1) Ar6.2.2 hin6 hat6 (g := (mkF m 21 #[.val (.ref o)] [(.int (1 : Int32)), (.ref b)])) rfl rfl (hb hby d4_21) _ k) ?_
  obtain ⟨fs, hr, hrun, hended, hW, hsame⟩ := X4.leave (v := some (.long v1)) (fun h => by rw [Bd.returns] at h; cases h) (BodyLoose.notSynchronized Bd)
  refine ⟨_, _, retL X4 hx Bd.returns (hb hby d4_22) hr, hrun, hended, some (.long v1), _, rfl, ?_, ⟨_, rfl⟩, hW, hsame.mono (by decide) (by decide)⟩
  show Qnew202 Z o b k v0 v1 h0 n0 _ T4.heap _
  rw [e4]
  exact ⟨rfl, N0, rfl⟩

theorem pnadd2_202 : plainName "com/example/ostracon/ostracon/LastValues" = true := by first | (simp [plainName, overriddenIn]; done) | decide +kernel
theorem efadd2_202 (m : MethodId) (z0 : Addr) (z1 : Int64) : entryFrame m #[(.ref z0), (.long z1), (.int (2 : Int32))] 6 = mkF m 0 #[.val (.ref z0), .val (.long z1), .second, .val (.int (2 : Int32)), .unset, .unset] [] := by first | (simp [entryFrame, mkF, argsToLocals, Value.category]; done) | rfl
def Qadd2_202 (Z : State) (o : Addr) (x : Int64) (b : Addr) (k : ClassId) (v0 : Int64) (v1 : Int64) (h0 : Heap) (n0 : Nat) (v : Option Value) (h : Heap) (L : List Loc) : Prop := v = some (.long v0) ∧ Fr n0 L ∧ Keep h0 h [o, b] ∧ Exa Z h o "com/example/ostracon/ostracon/LastValues" ∧ Fld Z h o "com/example/ostracon/ostracon/LastValues" "values" "[J" (.ref b) ∧ Fld Z h o "com/example/ostracon/ostracon/LastValues" "start" "I" (.int (1 : Int32)) ∧ Fld Z h o "com/example/ostracon/ostracon/LastValues" "count" "I" (.int (2 : Int32)) ∧ Arv Z h b k .long (2 : Int32) [(.long x), (.long v1)] (.long (0 : Int64))
set_option maxRecDepth 65536 in
set_option maxHeartbeats 40000000 in
theorem rmadd2_202 (l : Launch) (Z : State) (a0 : Array Value) (hw : ∀ d ∈ tables_1, d.before a0 Z = true) (ws : List Jvm.Cond) (o : Addr) (x : Int64) (b : Addr) (k : ClassId) (v0 : Int64) (v1 : Int64) (h0 : Heap) (n0 : Nat) (Z0 : n0 ≤ h0.size) (E_o : Exa Z h0 o "com/example/ostracon/ostracon/LastValues") (F1_o : Fld Z h0 o "com/example/ostracon/ostracon/LastValues" "values" "[J" (.ref b)) (F2_o : Fld Z h0 o "com/example/ostracon/ostracon/LastValues" "start" "I" (.int (0 : Int32))) (F3_o : Fld Z h0 o "com/example/ostracon/ostracon/LastValues" "count" "I" (.int (2 : Int32))) (V_b : Arv Z h0 b k .long (2 : Int32) [(.long v0), (.long v1)] (.long (0 : Int64))) (g_o : n0 ≤ o) (g_b : n0 ≤ b) (ne_ob : o ≠ b) :
    MetFree l (⟨"com/example/ostracon/ostracon/LastValues", "add", "(JI)J"⟩ : MethodName) (head1 (Jvm.Cond.code (⟨"com/example/ostracon/ostracon/LastValues", "add", "(JI)J"⟩ : MethodName) prog_19_method_2_code 6 (some .long) :: ws) ({ frames := 0, cells := 0, slots := 0, locals := 0 } : Room)) (fun a U => a = #[(.ref o), (.long x), (.int (2 : Int32))] ∧ Z.Warmed39 U.vm ∧ U.heap = h0) (fun _ _ _ _ _ => True) (fun _ U oc U' => ∃ v L, oc = .returned v ∧ Qadd2_202 Z o x b k v0 v1 h0 n0 v U'.heap L ∧ FrameEnd U oc U' L ({ frames := 0, cells := 0, slots := 0, locals := 0 } : Room).cells ({ frames := 0, cells := 0, slots := 0, locals := 0 } : Room).slots) := by
  refine MetFree.of_bodySF (plainFor_of_name pnadd2_202) hisR ?_
  intro p e s m args below meth c s₁ Bd hml0 hP hK
  obtain ⟨rfl, hZ, hh⟩ := hP
  have hx := Bd.exec
  have hby := Bd.bytes
  have hml : c.maxLocals = 6 := hml0
  have hown : s.vm.findClass "com/example/ostracon/ostracon/LastValues" = some m.cls := findClass_of_methodNamed Bd.named
  have hnm := (name_of_methodNamed Bd.named Bd.method).1
  have X0 : Stand p l e ({ frames := 0, cells := 0, slots := 0, locals := 0 } : Room) s m #[(.ref o), (.long x), (.int (2 : Int32))] below meth c s₁ [] 0 0 := Stand.of_body Bd
  have e0 : s₁.heap = h0 := by rw [← hh, Bd.state]; rfl
  have N0 := Fr.nil n0
  show own_Go p e below (fun s₂ oc => ∃ v L, oc = .returned v ∧ Qadd2_202 Z o x b k v0 v1 h0 n0 v s₂.heap L ∧ FrameEnd s oc s₂ L ({ frames := 0, cells := 0, slots := 0, locals := 0 } : Room).cells ({ frames := 0, cells := 0, slots := 0, locals := 0 } : Room).slots) s₁ (entryFrame m #[(.ref o), (.long x), (.int (2 : Int32))] 6)
  refine own_Go.of (g' := mkF m 0 #[.val (.ref o), .val (.long x), .second, .val (.int (2 : Int32)), .unset, .unset] []) (fun t k => castTop (efadd2_202 m o x) k) ?_
  refine og_aloadN (pc' := 1) X0 hx (hb hby d3_0) rfl rfl rfl ?_
  obtain ⟨T1, X1, e1, st1⟩ := getF X0 hx hZ hown (host := "") (Or.inl (hw _ (List.mem_of_getElem? (i := 18) rfl))) Via.refl e0 F3_o (g := (mkF m 1 #[.val (.ref o), .val (.long x), .second, .val (.int (2 : Int32)), .unset, .unset] [(.ref o)])) rfl rfl (hb hby d3_1)
  refine own_Go.of (g' := (mkF m 4 #[.val (.ref o), .val (.long x), .second, .val (.int (2 : Int32)), .unset, .unset] [(.int (2 : Int32))])) (fun t k => st1 _ k) ?_
  refine og_iloadN (pc' := 5) X1 hx (hb hby d3_4) rfl rfl ?_
  refine og_icmpYes (pc' := 122) X1 hx (hb hby d3_5) (flt (by decide)).2.1 (by decide) (by decide) ?_
  refine og_aloadN (pc' := 123) X1 hx (hb hby d3_122) rfl rfl rfl ?_
  obtain ⟨T2, X2, e2, st2⟩ := getF X1 hx hZ hown (host := "") (Or.inl (hw _ (List.mem_of_getElem? (i := 11) rfl))) Via.refl e1 F1_o (g := (mkF m 123 #[.val (.ref o), .val (.long x), .second, .val (.int (2 : Int32)), .unset, .unset] [(.ref o)])) rfl rfl (hb hby d3_123)
  refine own_Go.of (g' := (mkF m 126 #[.val (.ref o), .val (.long x), .second, .val (.int (2 : Int32)), .unset, .unset] [(.ref b)])) (fun t k => st2 _ k) ?_
  refine og_aloadN (pc' := 127) X2 hx (hb hby d3_126) rfl rfl rfl ?_
  obtain ⟨T3, X3, e3, st3⟩ := getF X2 hx hZ hown (host := "") (Or.inl (hw _ (List.mem_of_getElem? (i := 20) rfl))) Via.refl e2 F2_o (g := (mkF m 127 #[.val (.ref o), .val (.long x), .second, .val (.int (2 : Int32)), .unset, .unset] [(.ref o), (.ref b)])) rfl rfl (hb hby d3_127)
  refine own_Go.of (g' := (mkF m 130 #[.val (.ref o), .val (.long x), .second, .val (.int (2 : Int32)), .unset, .unset] [(.int (0 : Int32)), (.ref b)])) (fun t k => st3 _ k) ?_
  obtain ⟨cl4, Ar4, q4, S4, M4, H4, G4⟩ := id V_b
  have hin4 : ¬ ((0 : Int32) < 0 ∨ cl4.slots.size ≤ ((0 : Int32)).toNatClampNeg) := inb_of S4 ⟨by decide, by decide⟩
  have hat4 : cl4.slots[((0 : Int32)).toNatClampNeg]? = some (.long v0) := Has.at H4 hin4 rfl
  refine own_Go.of (g' := (mkF m 131 #[.val (.ref o), .val (.long x), .second, .val (.int (2 : Int32)), .unset, .unset] [(.long v0)])) (fun t k => X3.laload hx (j := (0 : Int32)) (v := (.long v0)) (by rw [e3]; exact Ar4.1) (State.isArrayOf_alike hZ.alike Ar4.2.1) Ar4.2.2 hin4 hat4 (g := (mkF m 130 #[.val (.ref o), .val (.long x), .second, .val (.int (2 : Int32)), .unset, .unset] [(.int (0 : Int32)), (.ref b)])) rfl rfl (hb hby d3_130) _ k) ?_
  refine og_lstore (pc' := 133) (L' := #[.val (.ref o), .val (.long x), .second, .val (.int (2 : Int32)), .val (.long v0), .second]) X3 hx (hb hby d3_131) rfl rfl ?_
  refine og_aloadN (pc' := 134) X3 hx (hb hby d3_133) rfl rfl rfl ?_
  obtain ⟨T5, X5, e5, st5⟩ := getF X3 hx hZ hown (host := "") (Or.inl (hw _ (List.mem_of_getElem? (i := 11) rfl))) Via.refl e3 F1_o (g := (mkF m 134 #[.val (.ref o), .val (.long x), .second, .val (.int (2 : Int32)), .val (.long v0), .second] [(.ref o)])) rfl rfl (hb hby d3_134)
  refine own_Go.of (g' := (mkF m 137 #[.val (.ref o), .val (.long x), .second, .val (.int (2 : Int32)), .val (.long v0), .second] [(.ref b)])) (fun t k => st5 _ k) ?_
  refine og_aloadN (pc' := 138) X5 hx (hb hby d3_137) rfl rfl rfl ?_
  obtain ⟨T6, X6, e6, st6⟩ := getF X5 hx hZ hown (host := "") (Or.inl (hw _ (List.mem_of_getElem? (i := 20) rfl))) Via.refl e5 F2_o (g := (mkF m 138 #[.val (.ref o), .val (.long x), .second, .val (.int (2 : Int32)), .val (.long v0), .second] [(.ref o), (.ref b)])) rfl rfl (hb hby d3_138)
  refine own_Go.of (g' := (mkF m 141 #[.val (.ref o), .val (.long x), .second, .val (.int (2 : Int32)), .val (.long v0), .second] [(.int (0 : Int32)), (.ref b)])) (fun t k => st6 _ k) ?_
  refine og_lloadN (pc' := 142) X6 hx (hb hby d3_141) rfl rfl ?_
  obtain ⟨cl7, Ar7, q7, S7, M7, H7, G7⟩ := id V_b
  have hin7 : ¬ ((0 : Int32) < 0 ∨ cl7.slots.size ≤ ((0 : Int32)).toNatClampNeg) := inb_of S7 ⟨by decide, by decide⟩
  obtain ⟨T7, h7, X7, e7, W7, st7⟩ := stJ X6 hx hZ e6 Ar7 (j := (0 : Int32)) hin7 (g := (mkF m 142 #[.val (.ref o), .val (.long x), .second, .val (.int (2 : Int32)), .val (.long v0), .second] [(.long x), (.int (0 : Int32)), (.ref b)])) rfl rfl (hb hby d3_142)
  have V7 : Arv Z h7 b k .long (2 : Int32) [(.long x), (.long v1)] (.long (0 : Int64)) := Arv.set Ar7 q7 S7 M7 H7 G7 rfl W7 0 rfl (Nat.le_of_ble_eq_true rfl)
  have f7_0 := E_o.wr W7
  have f7_1 := F1_o.other W7 (Or.inl ne_ob)
  have f7_2 := F2_o.other W7 (Or.inl ne_ob)
  have f7_3 := F3_o.other W7 (Or.inl ne_ob)
  have K7 : Keep h0 h7 [o, b] := (Keep.refl h0 [o, b]).wr W7 (Or.inl (List.mem_of_getElem? (i := 1) rfl))
  have Z7 : n0 ≤ h7.size := Nat.le_trans Z0 K7.1
  have N7 := Fr.snoc X7 N0 g_b
  refine own_Go.of (g' := (mkF m 143 #[.val (.ref o), .val (.long x), .second, .val (.int (2 : Int32)), .val (.long v0), .second] [])) (fun t k => st7 _ k) ?_
  refine og_aloadN (pc' := 144) X7 hx (hb hby d3_143) rfl rfl rfl ?_
  refine og_aloadN (pc' := 145) X7 hx (hb hby d3_144) rfl rfl rfl ?_
  obtain ⟨T8, X8, e8, st8⟩ := getF X7 hx hZ hown (host := "") (Or.inl (hw _ (List.mem_of_getElem? (i := 20) rfl))) Via.refl e7 f7_2 (g := (mkF m 145 #[.val (.ref o), .val (.long x), .second, .val (.int (2 : Int32)), .val (.long v0), .second] [(.ref o), (.ref o)])) rfl rfl (hb hby d3_145)
  refine own_Go.of (g' := (mkF m 148 #[.val (.ref o), .val (.long x), .second, .val (.int (2 : Int32)), .val (.long v0), .second] [(.int (0 : Int32)), (.ref o)])) (fun t k => st8 _ k) ?_
  refine og_iconst (pc' := 149) (n := 1) X8 hx (hb hby d3_148) rfl rfl ?_
  refine og_iadd (pc' := 150) X8 hx (hb hby d3_149) rfl ?_
  rw [show ((0 : Int32) + (1 : Int32)) = (1 : Int32) from by decide]
  refine og_aloadN (pc' := 151) X8 hx (hb hby d3_150) rfl rfl rfl ?_
  obtain ⟨T9, X9, e9, st9⟩ := getF X8 hx hZ hown (host := "") (Or.inl (hw _ (List.mem_of_getElem? (i := 11) rfl))) Via.refl e8 f7_1 (g := (mkF m 151 #[.val (.ref o), .val (.long x), .second, .val (.int (2 : Int32)), .val (.long v0), .second] [(.ref o), (.int (1 : Int32)), (.ref o)])) rfl rfl (hb hby d3_151)
  refine own_Go.of (g' := (mkF m 154 #[.val (.ref o), .val (.long x), .second, .val (.int (2 : Int32)), .val (.long v0), .second] [(.ref b), (.int (1 : Int32)), (.ref o)])) (fun t k => st9 _ k) ?_
  obtain ⟨cl10, Ar10, q10, S10, M10, H10, G10⟩ := id V7
  refine own_Go.of (g' := (mkF m 155 #[.val (.ref o), .val (.long x), .second, .val (.int (2 : Int32)), .val (.long v0), .second] [(.int (2 : Int32)), (.int (1 : Int32)), (.ref o)])) (fun t k => X9.arraylength hx (by rw [e9]; exact Ar10.1) (State.isArrayOf_alike hZ.alike Ar10.2.1) (g := (mkF m 154 #[.val (.ref o), .val (.long x), .second, .val (.int (2 : Int32)), .val (.long v0), .second] [(.ref b), (.int (1 : Int32)), (.ref o)])) rfl rfl (hb hby d3_154) _ (by rw [len_of S10 M10]; exact k)) ?_
  refine og_irem (pc' := 156) X9 hx (hb hby d3_155) (by decide) rfl ?_
  rw [show ((1 : Int32) % (2 : Int32)) = (1 : Int32) from by decide]
  obtain ⟨T11, h11, X11, e11, W11, st11⟩ := putF X9 hx hZ hown (host := "") (Or.inl (hw _ (List.mem_of_getElem? (i := 20) rfl))) Via.refl e9 f7_2 f7_0 (Or.inl (hw _ (List.mem_of_getElem? (i := 21) rfl))) (hw _ (List.mem_of_getElem? (i := 2) rfl)) (ty := .int) (by decide) rfl rfl (g := (mkF m 156 #[.val (.ref o), .val (.long x), .second, .val (.int (2 : Int32)), .val (.long v0), .second] [(.int (1 : Int32)), (.ref o)])) rfl rfl (hb hby d3_156)
  have w11 : Fld Z h11 o "com/example/ostracon/ostracon/LastValues" "start" "I" (.int (1 : Int32)) := f7_2.same W11
  have f11_0 := f7_0.wr W11
  have f11_1 := f7_1.other W11 (Or.inr (slot_ne (a0 := a0) (C := "com/example/ostracon/ostracon/LastValues") (Or.inl (hw _ (List.mem_of_getElem? (i := 12) rfl))) (Or.inl (hw _ (List.mem_of_getElem? (i := 21) rfl))) (by decide) (t := (.array .long)) (t' := .int) (by decide) (by decide)))
  have f11_2 := f7_3.other W11 (Or.inr (slot_ne (a0 := a0) (C := "com/example/ostracon/ostracon/LastValues") (Or.inl (hw _ (List.mem_of_getElem? (i := 19) rfl))) (Or.inl (hw _ (List.mem_of_getElem? (i := 21) rfl))) (by decide) (t := .int) (t' := .int) (by decide) (by decide)))
  have f11_6 := V7.other W11 (Ne.symm ne_ob)
  have K11 : Keep h0 h11 [o, b] := K7.wr W11 (Or.inl (List.mem_of_getElem? (i := 0) rfl))
  have Z11 : n0 ≤ h11.size := Nat.le_trans Z0 K11.1
  have N11 := Fr.snoc X11 N7 g_o
  refine own_Go.of (g' := (mkF m 159 #[.val (.ref o), .val (.long x), .second, .val (.int (2 : Int32)), .val (.long v0), .second] [])) (fun t k => st11 _ k) ?_
  refine og_lload (pc' := 161) X11 hx (hb hby d3_159) rfl rfl ?_
  obtain ⟨fs, hr, hrun, hended, hW, hsame⟩ := X11.leave (v := some (.long v0)) (fun h => by rw [Bd.returns] at h; cases h) (BodyLoose.notSynchronized Bd)
  refine ⟨_, _, retL X11 hx Bd.returns (hb hby d3_161) hr, hrun, hended, some (.long v0), _, rfl, ?_, ⟨_, rfl⟩, hW, hsame.mono (by decide) (by decide)⟩
  show Qadd2_202 Z o x b k v0 v1 h0 n0 _ T11.heap _
  rw [e11]
  exact ⟨rfl, N11, K11, f11_0, f11_1, w11, f11_2, f11_6⟩

theorem pnnew212 : plainName "com/example/ostracon/ostracon/LastValues" = true := by first | (simp [plainName, overriddenIn]; done) | decide +kernel
theorem efnew212 (m : MethodId) (z0 : Addr) : entryFrame m #[(.ref z0)] 1 = mkF m 0 #[.val (.ref z0)] [] := by first | (simp [entryFrame, mkF, argsToLocals, Value.category]; done) | rfl
def Qnew212 (Z : State) (o : Addr) (b : Addr) (k : ClassId) (v0 : Int64) (v1 : Int64) (h0 : Heap) (n0 : Nat) (v : Option Value) (h : Heap) (L : List Loc) : Prop := v = some (.long v0) ∧ Fr n0 L ∧ h = h0
set_option maxRecDepth 65536 in
set_option maxHeartbeats 40000000 in
theorem rmnew212 (l : Launch) (Z : State) (a0 : Array Value) (hw : ∀ d ∈ tables_1, d.before a0 Z = true) (ws : List Jvm.Cond) (o : Addr) (b : Addr) (k : ClassId) (v0 : Int64) (v1 : Int64) (h0 : Heap) (n0 : Nat) (Z0 : n0 ≤ h0.size) (E_o : Exa Z h0 o "com/example/ostracon/ostracon/LastValues") (F1_o : Fld Z h0 o "com/example/ostracon/ostracon/LastValues" "values" "[J" (.ref b)) (F2_o : Fld Z h0 o "com/example/ostracon/ostracon/LastValues" "start" "I" (.int (1 : Int32))) (F3_o : Fld Z h0 o "com/example/ostracon/ostracon/LastValues" "count" "I" (.int (2 : Int32))) (V_b : Arv Z h0 b k .long (2 : Int32) [(.long v0), (.long v1)] (.long (0 : Int64))) :
    MetFree l (⟨"com/example/ostracon/ostracon/LastValues", "newest", "()J"⟩ : MethodName) (head1 (Jvm.Cond.code (⟨"com/example/ostracon/ostracon/LastValues", "newest", "()J"⟩ : MethodName) prog_19_method_5_code 1 (some .long) :: ws) ({ frames := 0, cells := 0, slots := 0, locals := 0 } : Room)) (fun a U => a = #[(.ref o)] ∧ Z.Warmed39 U.vm ∧ U.heap = h0) (fun _ _ _ _ _ => True) (fun _ U oc U' => ∃ v L, oc = .returned v ∧ Qnew212 Z o b k v0 v1 h0 n0 v U'.heap L ∧ FrameEnd U oc U' L ({ frames := 0, cells := 0, slots := 0, locals := 0 } : Room).cells ({ frames := 0, cells := 0, slots := 0, locals := 0 } : Room).slots) := by
  refine MetFree.of_bodySF (plainFor_of_name pnnew212) hisR ?_
  intro p e s m args below meth c s₁ Bd hml0 hP hK
  obtain ⟨rfl, hZ, hh⟩ := hP
  have hx := Bd.exec
  have hby := Bd.bytes
  have hml : c.maxLocals = 1 := hml0
  have hown : s.vm.findClass "com/example/ostracon/ostracon/LastValues" = some m.cls := findClass_of_methodNamed Bd.named
  have hnm := (name_of_methodNamed Bd.named Bd.method).1
  have X0 : Stand p l e ({ frames := 0, cells := 0, slots := 0, locals := 0 } : Room) s m #[(.ref o)] below meth c s₁ [] 0 0 := Stand.of_body Bd
  have e0 : s₁.heap = h0 := by rw [← hh, Bd.state]; rfl
  have N0 := Fr.nil n0
  show own_Go p e below (fun s₂ oc => ∃ v L, oc = .returned v ∧ Qnew212 Z o b k v0 v1 h0 n0 v s₂.heap L ∧ FrameEnd s oc s₂ L ({ frames := 0, cells := 0, slots := 0, locals := 0 } : Room).cells ({ frames := 0, cells := 0, slots := 0, locals := 0 } : Room).slots) s₁ (entryFrame m #[(.ref o)] 1)
  refine own_Go.of (g' := mkF m 0 #[.val (.ref o)] []) (fun t k => castTop (efnew212 m o) k) ?_
  refine og_aloadN (pc' := 1) X0 hx (hb hby d4_0) rfl rfl rfl ?_
  obtain ⟨T1, X1, e1, st1⟩ := getF X0 hx hZ hown (host := "") (Or.inl (hw _ (List.mem_of_getElem? (i := 11) rfl))) Via.refl e0 F1_o (g := (mkF m 1 #[.val (.ref o)] [(.ref o)])) rfl rfl (hb hby d4_1)
  refine own_Go.of (g' := (mkF m 4 #[.val (.ref o)] [(.ref b)])) (fun t k => st1 _ k) ?_
  refine og_aloadN (pc' := 5) X1 hx (hb hby d4_4) rfl rfl rfl ?_
  obtain ⟨T2, X2, e2, st2⟩ := getF X1 hx hZ hown (host := "") (Or.inl (hw _ (List.mem_of_getElem? (i := 20) rfl))) Via.refl e1 F2_o (g := (mkF m 5 #[.val (.ref o)] [(.ref o), (.ref b)])) rfl rfl (hb hby d4_5)
  refine own_Go.of (g' := (mkF m 8 #[.val (.ref o)] [(.int (1 : Int32)), (.ref b)])) (fun t k => st2 _ k) ?_
  refine og_aloadN (pc' := 9) X2 hx (hb hby d4_8) rfl rfl rfl ?_
  obtain ⟨T3, X3, e3, st3⟩ := getF X2 hx hZ hown (host := "") (Or.inl (hw _ (List.mem_of_getElem? (i := 18) rfl))) Via.refl e2 F3_o (g := (mkF m 9 #[.val (.ref o)] [(.ref o), (.int (1 : Int32)), (.ref b)])) rfl rfl (hb hby d4_9)
  refine own_Go.of (g' := (mkF m 12 #[.val (.ref o)] [(.int (2 : Int32)), (.int (1 : Int32)), (.ref b)])) (fun t k => st3 _ k) ?_
  refine og_iadd (pc' := 13) X3 hx (hb hby d4_12) rfl ?_
  rw [show ((1 : Int32) + (2 : Int32)) = (3 : Int32) from by decide]
  refine og_iconst (pc' := 14) (n := 1) X3 hx (hb hby d4_13) rfl rfl ?_
  refine og_isub (pc' := 15) X3 hx (hb hby d4_14) rfl ?_
  rw [show ((3 : Int32) - (1 : Int32)) = (2 : Int32) from by decide]
  refine og_aloadN (pc' := 16) X3 hx (hb hby d4_15) rfl rfl rfl ?_
  obtain ⟨T4, X4, e4, st4⟩ := getF X3 hx hZ hown (host := "") (Or.inl (hw _ (List.mem_of_getElem? (i := 11) rfl))) Via.refl e3 F1_o (g := (mkF m 16 #[.val (.ref o)] [(.ref o), (.int (2 : Int32)), (.ref b)])) rfl rfl (hb hby d4_16)
  refine own_Go.of (g' := (mkF m 19 #[.val (.ref o)] [(.ref b), (.int (2 : Int32)), (.ref b)])) (fun t k => st4 _ k) ?_
  obtain ⟨cl5, Ar5, q5, S5, M5, H5, G5⟩ := id V_b
  refine own_Go.of (g' := (mkF m 20 #[.val (.ref o)] [(.int (2 : Int32)), (.int (2 : Int32)), (.ref b)])) (fun t k => X4.arraylength hx (by rw [e4]; exact Ar5.1) (State.isArrayOf_alike hZ.alike Ar5.2.1) (g := (mkF m 19 #[.val (.ref o)] [(.ref b), (.int (2 : Int32)), (.ref b)])) rfl rfl (hb hby d4_19) _ (by rw [len_of S5 M5]; exact k)) ?_
  refine og_irem (pc' := 21) X4 hx (hb hby d4_20) (by decide) rfl ?_
  rw [show ((2 : Int32) % (2 : Int32)) = (0 : Int32) from by decide]
  obtain ⟨cl6, Ar6, q6, S6, M6, H6, G6⟩ := id V_b
  have hin6 : ¬ ((0 : Int32) < 0 ∨ cl6.slots.size ≤ ((0 : Int32)).toNatClampNeg) := inb_of S6 ⟨by decide, by decide⟩
  have hat6 : cl6.slots[((0 : Int32)).toNatClampNeg]? = some (.long v0) := Has.at H6 hin6 rfl
  refine own_Go.of (g' := (mkF m 22 #[.val (.ref o)] [(.long v0)])) (fun t k => X4.laload hx (j := (0 : Int32)) (v := (.long v0)) (by rw [e4]; exact Ar6.1) (State.isArrayOf_alike hZ.alike Ar6.2.1) Ar6.2.2 hin6 hat6 (g := (mkF m 21 #[.val (.ref o)] [(.int (0 : Int32)), (.ref b)])) rfl rfl (hb hby d4_21) _ k) ?_
  obtain ⟨fs, hr, hrun, hended, hW, hsame⟩ := X4.leave (v := some (.long v0)) (fun h => by rw [Bd.returns] at h; cases h) (BodyLoose.notSynchronized Bd)
  refine ⟨_, _, retL X4 hx Bd.returns (hb hby d4_22) hr, hrun, hended, some (.long v0), _, rfl, ?_, ⟨_, rfl⟩, hW, hsame.mono (by decide) (by decide)⟩
  show Qnew212 Z o b k v0 v1 h0 n0 _ T4.heap _
  rw [e4]
  exact ⟨rfl, N0, rfl⟩

theorem pnadd2_212 : plainName "com/example/ostracon/ostracon/LastValues" = true := by first | (simp [plainName, overriddenIn]; done) | decide +kernel
theorem efadd2_212 (m : MethodId) (z0 : Addr) (z1 : Int64) : entryFrame m #[(.ref z0), (.long z1), (.int (2 : Int32))] 6 = mkF m 0 #[.val (.ref z0), .val (.long z1), .second, .val (.int (2 : Int32)), .unset, .unset] [] := by first | (simp [entryFrame, mkF, argsToLocals, Value.category]; done) | rfl
def Qadd2_212 (Z : State) (o : Addr) (x : Int64) (b : Addr) (k : ClassId) (v0 : Int64) (v1 : Int64) (h0 : Heap) (n0 : Nat) (v : Option Value) (h : Heap) (L : List Loc) : Prop := v = some (.long v1) ∧ Fr n0 L ∧ Keep h0 h [o, b] ∧ Exa Z h o "com/example/ostracon/ostracon/LastValues" ∧ Fld Z h o "com/example/ostracon/ostracon/LastValues" "values" "[J" (.ref b) ∧ Fld Z h o "com/example/ostracon/ostracon/LastValues" "start" "I" (.int (0 : Int32)) ∧ Fld Z h o "com/example/ostracon/ostracon/LastValues" "count" "I" (.int (2 : Int32)) ∧ Arv Z h b k .long (2 : Int32) [(.long v0), (.long x)] (.long (0 : Int64))
set_option maxRecDepth 65536 in
set_option maxHeartbeats 40000000 in
theorem rmadd2_212 (l : Launch) (Z : State) (a0 : Array Value) (hw : ∀ d ∈ tables_1, d.before a0 Z = true) (ws : List Jvm.Cond) (o : Addr) (x : Int64) (b : Addr) (k : ClassId) (v0 : Int64) (v1 : Int64) (h0 : Heap) (n0 : Nat) (Z0 : n0 ≤ h0.size) (E_o : Exa Z h0 o "com/example/ostracon/ostracon/LastValues") (F1_o : Fld Z h0 o "com/example/ostracon/ostracon/LastValues" "values" "[J" (.ref b)) (F2_o : Fld Z h0 o "com/example/ostracon/ostracon/LastValues" "start" "I" (.int (1 : Int32))) (F3_o : Fld Z h0 o "com/example/ostracon/ostracon/LastValues" "count" "I" (.int (2 : Int32))) (V_b : Arv Z h0 b k .long (2 : Int32) [(.long v0), (.long v1)] (.long (0 : Int64))) (g_o : n0 ≤ o) (g_b : n0 ≤ b) (ne_ob : o ≠ b) :
    MetFree l (⟨"com/example/ostracon/ostracon/LastValues", "add", "(JI)J"⟩ : MethodName) (head1 (Jvm.Cond.code (⟨"com/example/ostracon/ostracon/LastValues", "add", "(JI)J"⟩ : MethodName) prog_19_method_2_code 6 (some .long) :: ws) ({ frames := 0, cells := 0, slots := 0, locals := 0 } : Room)) (fun a U => a = #[(.ref o), (.long x), (.int (2 : Int32))] ∧ Z.Warmed39 U.vm ∧ U.heap = h0) (fun _ _ _ _ _ => True) (fun _ U oc U' => ∃ v L, oc = .returned v ∧ Qadd2_212 Z o x b k v0 v1 h0 n0 v U'.heap L ∧ FrameEnd U oc U' L ({ frames := 0, cells := 0, slots := 0, locals := 0 } : Room).cells ({ frames := 0, cells := 0, slots := 0, locals := 0 } : Room).slots) := by
  refine MetFree.of_bodySF (plainFor_of_name pnadd2_212) hisR ?_
  intro p e s m args below meth c s₁ Bd hml0 hP hK
  obtain ⟨rfl, hZ, hh⟩ := hP
  have hx := Bd.exec
  have hby := Bd.bytes
  have hml : c.maxLocals = 6 := hml0
  have hown : s.vm.findClass "com/example/ostracon/ostracon/LastValues" = some m.cls := findClass_of_methodNamed Bd.named
  have hnm := (name_of_methodNamed Bd.named Bd.method).1
  have X0 : Stand p l e ({ frames := 0, cells := 0, slots := 0, locals := 0 } : Room) s m #[(.ref o), (.long x), (.int (2 : Int32))] below meth c s₁ [] 0 0 := Stand.of_body Bd
  have e0 : s₁.heap = h0 := by rw [← hh, Bd.state]; rfl
  have N0 := Fr.nil n0
  show own_Go p e below (fun s₂ oc => ∃ v L, oc = .returned v ∧ Qadd2_212 Z o x b k v0 v1 h0 n0 v s₂.heap L ∧ FrameEnd s oc s₂ L ({ frames := 0, cells := 0, slots := 0, locals := 0 } : Room).cells ({ frames := 0, cells := 0, slots := 0, locals := 0 } : Room).slots) s₁ (entryFrame m #[(.ref o), (.long x), (.int (2 : Int32))] 6)
  refine own_Go.of (g' := mkF m 0 #[.val (.ref o), .val (.long x), .second, .val (.int (2 : Int32)), .unset, .unset] []) (fun t k => castTop (efadd2_212 m o x) k) ?_
  refine og_aloadN (pc' := 1) X0 hx (hb hby d3_0) rfl rfl rfl ?_
  obtain ⟨T1, X1, e1, st1⟩ := getF X0 hx hZ hown (host := "") (Or.inl (hw _ (List.mem_of_getElem? (i := 18) rfl))) Via.refl e0 F3_o (g := (mkF m 1 #[.val (.ref o), .val (.long x), .second, .val (.int (2 : Int32)), .unset, .unset] [(.ref o)])) rfl rfl (hb hby d3_1)
  refine own_Go.of (g' := (mkF m 4 #[.val (.ref o), .val (.long x), .second, .val (.int (2 : Int32)), .unset, .unset] [(.int (2 : Int32))])) (fun t k => st1 _ k) ?_
  refine og_iloadN (pc' := 5) X1 hx (hb hby d3_4) rfl rfl ?_
  refine og_icmpYes (pc' := 122) X1 hx (hb hby d3_5) (flt (by decide)).2.1 (by decide) (by decide) ?_
  refine og_aloadN (pc' := 123) X1 hx (hb hby d3_122) rfl rfl rfl ?_
  obtain ⟨T2, X2, e2, st2⟩ := getF X1 hx hZ hown (host := "") (Or.inl (hw _ (List.mem_of_getElem? (i := 11) rfl))) Via.refl e1 F1_o (g := (mkF m 123 #[.val (.ref o), .val (.long x), .second, .val (.int (2 : Int32)), .unset, .unset] [(.ref o)])) rfl rfl (hb hby d3_123)
  refine own_Go.of (g' := (mkF m 126 #[.val (.ref o), .val (.long x), .second, .val (.int (2 : Int32)), .unset, .unset] [(.ref b)])) (fun t k => st2 _ k) ?_
  refine og_aloadN (pc' := 127) X2 hx (hb hby d3_126) rfl rfl rfl ?_
  obtain ⟨T3, X3, e3, st3⟩ := getF X2 hx hZ hown (host := "") (Or.inl (hw _ (List.mem_of_getElem? (i := 20) rfl))) Via.refl e2 F2_o (g := (mkF m 127 #[.val (.ref o), .val (.long x), .second, .val (.int (2 : Int32)), .unset, .unset] [(.ref o), (.ref b)])) rfl rfl (hb hby d3_127)
  refine own_Go.of (g' := (mkF m 130 #[.val (.ref o), .val (.long x), .second, .val (.int (2 : Int32)), .unset, .unset] [(.int (1 : Int32)), (.ref b)])) (fun t k => st3 _ k) ?_
  obtain ⟨cl4, Ar4, q4, S4, M4, H4, G4⟩ := id V_b
  have hin4 : ¬ ((1 : Int32) < 0 ∨ cl4.slots.size ≤ ((1 : Int32)).toNatClampNeg) := inb_of S4 ⟨by decide, by decide⟩
  have hat4 : cl4.slots[((1 : Int32)).toNatClampNeg]? = some (.long v1) := Has.at H4 hin4 rfl
  refine own_Go.of (g' := (mkF m 131 #[.val (.ref o), .val (.long x), .second, .val (.int (2 : Int32)), .unset, .unset] [(.long v1)])) (fun t k => X3.laload hx (j := (1 : Int32)) (v := (.long v1)) (by rw [e3]; exact Ar4.1) (State.isArrayOf_alike hZ.alike Ar4.2.1) Ar4.2.2 hin4 hat4 (g := (mkF m 130 #[.val (.ref o), .val (.long x), .second, .val (.int (2 : Int32)), .unset, .unset] [(.int (1 : Int32)), (.ref b)])) rfl rfl (hb hby d3_130) _ k) ?_
  refine og_lstore (pc' := 133) (L' := #[.val (.ref o), .val (.long x), .second, .val (.int (2 : Int32)), .val (.long v1), .second]) X3 hx (hb hby d3_131) rfl rfl ?_
  refine og_aloadN (pc' := 134) X3 hx (hb hby d3_133) rfl rfl rfl ?_
  obtain ⟨T5, X5, e5, st5⟩ := getF X3 hx hZ hown (host := "") (Or.inl (hw _ (List.mem_of_getElem? (i := 11) rfl))) Via.refl e3 F1_o (g := (mkF m 134 #[.val (.ref o), .val (.long x), .second, .val (.int (2 : Int32)), .val (.long v1), .second] [(.ref o)])) rfl rfl (hb hby d3_134)
  refine own_Go.of (g' := (mkF m 137 #[.val (.ref o), .val (.long x), .second, .val (.int (2 : Int32)), .val (.long v1), .second] [(.ref b)])) (fun t k => st5 _ k) ?_
  refine og_aloadN (pc' := 138) X5 hx (hb hby d3_137) rfl rfl rfl ?_
  obtain ⟨T6, X6, e6, st6⟩ := getF X5 hx hZ hown (host := "") (Or.inl (hw _ (List.mem_of_getElem? (i := 20) rfl))) Via.refl e5 F2_o (g := (mkF m 138 #[.val (.ref o), .val (.long x), .second, .val (.int (2 : Int32)), .val (.long v1), .second] [(.ref o), (.ref b)])) rfl rfl (hb hby d3_138)
  refine own_Go.of (g' := (mkF m 141 #[.val (.ref o), .val (.long x), .second, .val (.int (2 : Int32)), .val (.long v1), .second] [(.int (1 : Int32)), (.ref b)])) (fun t k => st6 _ k) ?_
  refine og_lloadN (pc' := 142) X6 hx (hb hby d3_141) rfl rfl ?_
  obtain ⟨cl7, Ar7, q7, S7, M7, H7, G7⟩ := id V_b
  have hin7 : ¬ ((1 : Int32) < 0 ∨ cl7.slots.size ≤ ((1 : Int32)).toNatClampNeg) := inb_of S7 ⟨by decide, by decide⟩
  obtain ⟨T7, h7, X7, e7, W7, st7⟩ := stJ X6 hx hZ e6 Ar7 (j := (1 : Int32)) hin7 (g := (mkF m 142 #[.val (.ref o), .val (.long x), .second, .val (.int (2 : Int32)), .val (.long v1), .second] [(.long x), (.int (1 : Int32)), (.ref b)])) rfl rfl (hb hby d3_142)
  have V7 : Arv Z h7 b k .long (2 : Int32) [(.long v0), (.long x)] (.long (0 : Int64)) := Arv.set Ar7 q7 S7 M7 H7 G7 rfl W7 1 rfl (Nat.le_of_ble_eq_true rfl)
  have f7_0 := E_o.wr W7
  have f7_1 := F1_o.other W7 (Or.inl ne_ob)
  have f7_2 := F2_o.other W7 (Or.inl ne_ob)
  have f7_3 := F3_o.other W7 (Or.inl ne_ob)
  have K7 : Keep h0 h7 [o, b] := (Keep.refl h0 [o, b]).wr W7 (Or.inl (List.mem_of_getElem? (i := 1) rfl))
  have Z7 : n0 ≤ h7.size := Nat.le_trans Z0 K7.1
  have N7 := Fr.snoc X7 N0 g_b
  refine own_Go.of (g' := (mkF m 143 #[.val (.ref o), .val (.long x), .second, .val (.int (2 : Int32)), .val (.long v1), .second] [])) (fun t k => st7 _ k) ?_
  refine og_aloadN (pc' := 144) X7 hx (hb hby d3_143) rfl rfl rfl ?_
  refine og_aloadN (pc' := 145) X7 hx (hb hby d3_144) rfl rfl rfl ?_
  obtain ⟨T8, X8, e8, st8⟩ := getF X7 hx hZ hown (host := "") (Or.inl (hw _ (List.mem_of_getElem? (i := 20) rfl))) Via.refl e7 f7_2 (g := (mkF m 145 #[.val (.ref o), .val (.long x), .second, .val (.int (2 : Int32)), .val (.long v1), .second] [(.ref o), (.ref o)])) rfl rfl (hb hby d3_145)
  refine own_Go.of (g' := (mkF m 148 #[.val (.ref o), .val (.long x), .second, .val (.int (2 : Int32)), .val (.long v1), .second] [(.int (1 : Int32)), (.ref o)])) (fun t k => st8 _ k) ?_
  refine og_iconst (pc' := 149) (n := 1) X8 hx (hb hby d3_148) rfl rfl ?_
  refine og_iadd (pc' := 150) X8 hx (hb hby d3_149) rfl ?_
  rw [show ((1 : Int32) + (1 : Int32)) = (2 : Int32) from by decide]
  refine og_aloadN (pc' := 151) X8 hx (hb hby d3_150) rfl rfl rfl ?_
  obtain ⟨T9, X9, e9, st9⟩ := getF X8 hx hZ hown (host := "") (Or.inl (hw _ (List.mem_of_getElem? (i := 11) rfl))) Via.refl e8 f7_1 (g := (mkF m 151 #[.val (.ref o), .val (.long x), .second, .val (.int (2 : Int32)), .val (.long v1), .second] [(.ref o), (.int (2 : Int32)), (.ref o)])) rfl rfl (hb hby d3_151)
  refine own_Go.of (g' := (mkF m 154 #[.val (.ref o), .val (.long x), .second, .val (.int (2 : Int32)), .val (.long v1), .second] [(.ref b), (.int (2 : Int32)), (.ref o)])) (fun t k => st9 _ k) ?_
  obtain ⟨cl10, Ar10, q10, S10, M10, H10, G10⟩ := id V7
  refine own_Go.of (g' := (mkF m 155 #[.val (.ref o), .val (.long x), .second, .val (.int (2 : Int32)), .val (.long v1), .second] [(.int (2 : Int32)), (.int (2 : Int32)), (.ref o)])) (fun t k => X9.arraylength hx (by rw [e9]; exact Ar10.1) (State.isArrayOf_alike hZ.alike Ar10.2.1) (g := (mkF m 154 #[.val (.ref o), .val (.long x), .second, .val (.int (2 : Int32)), .val (.long v1), .second] [(.ref b), (.int (2 : Int32)), (.ref o)])) rfl rfl (hb hby d3_154) _ (by rw [len_of S10 M10]; exact k)) ?_
  refine og_irem (pc' := 156) X9 hx (hb hby d3_155) (by decide) rfl ?_
  rw [show ((2 : Int32) % (2 : Int32)) = (0 : Int32) from by decide]
  obtain ⟨T11, h11, X11, e11, W11, st11⟩ := putF X9 hx hZ hown (host := "") (Or.inl (hw _ (List.mem_of_getElem? (i := 20) rfl))) Via.refl e9 f7_2 f7_0 (Or.inl (hw _ (List.mem_of_getElem? (i := 21) rfl))) (hw _ (List.mem_of_getElem? (i := 2) rfl)) (ty := .int) (by decide) rfl rfl (g := (mkF m 156 #[.val (.ref o), .val (.long x), .second, .val (.int (2 : Int32)), .val (.long v1), .second] [(.int (0 : Int32)), (.ref o)])) rfl rfl (hb hby d3_156)
  have w11 : Fld Z h11 o "com/example/ostracon/ostracon/LastValues" "start" "I" (.int (0 : Int32)) := f7_2.same W11
  have f11_0 := f7_0.wr W11
  have f11_1 := f7_1.other W11 (Or.inr (slot_ne (a0 := a0) (C := "com/example/ostracon/ostracon/LastValues") (Or.inl (hw _ (List.mem_of_getElem? (i := 12) rfl))) (Or.inl (hw _ (List.mem_of_getElem? (i := 21) rfl))) (by decide) (t := (.array .long)) (t' := .int) (by decide) (by decide)))
  have f11_2 := f7_3.other W11 (Or.inr (slot_ne (a0 := a0) (C := "com/example/ostracon/ostracon/LastValues") (Or.inl (hw _ (List.mem_of_getElem? (i := 19) rfl))) (Or.inl (hw _ (List.mem_of_getElem? (i := 21) rfl))) (by decide) (t := .int) (t' := .int) (by decide) (by decide)))
  have f11_6 := V7.other W11 (Ne.symm ne_ob)
  have K11 : Keep h0 h11 [o, b] := K7.wr W11 (Or.inl (List.mem_of_getElem? (i := 0) rfl))
  have Z11 : n0 ≤ h11.size := Nat.le_trans Z0 K11.1
  have N11 := Fr.snoc X11 N7 g_o
  refine own_Go.of (g' := (mkF m 159 #[.val (.ref o), .val (.long x), .second, .val (.int (2 : Int32)), .val (.long v1), .second] [])) (fun t k => st11 _ k) ?_
  refine og_lload (pc' := 161) X11 hx (hb hby d3_159) rfl rfl ?_
  obtain ⟨fs, hr, hrun, hended, hW, hsame⟩ := X11.leave (v := some (.long v1)) (fun h => by rw [Bd.returns] at h; cases h) (BodyLoose.notSynchronized Bd)
  refine ⟨_, _, retL X11 hx Bd.returns (hb hby d3_161) hr, hrun, hended, some (.long v1), _, rfl, ?_, ⟨_, rfl⟩, hW, hsame.mono (by decide) (by decide)⟩
  show Qadd2_212 Z o x b k v0 v1 h0 n0 _ T11.heap _
  rw [e11]
  exact ⟨rfl, N11, K11, f11_0, f11_1, w11, f11_2, f11_6⟩

theorem pnadd3_100 : plainName "com/example/ostracon/ostracon/LastValues" = true := by first | (simp [plainName, overriddenIn]; done) | decide +kernel
theorem efadd3_100 (m : MethodId) (z0 : Addr) (z1 : Int64) : entryFrame m #[(.ref z0), (.long z1), (.int (3 : Int32))] 6 = mkF m 0 #[.val (.ref z0), .val (.long z1), .second, .val (.int (3 : Int32)), .unset, .unset] [] := by first | (simp [entryFrame, mkF, argsToLocals, Value.category]; done) | rfl
def Qadd3_100 (Z : State) (o : Addr) (x : Int64) (b : Addr) (k : ClassId) (v0 : Int64) (h0 : Heap) (n0 : Nat) (v : Option Value) (h : Heap) (L : List Loc) : Prop := v = some (.long (-1 : Int64)) ∧ Fr n0 L ∧ Keep h0 h [o, b] ∧ Exa Z h o "com/example/ostracon/ostracon/LastValues" ∧ Fld Z h o "com/example/ostracon/ostracon/LastValues" "values" "[J" (.ref b) ∧ Fld Z h o "com/example/ostracon/ostracon/LastValues" "start" "I" (.int (0 : Int32)) ∧ Fld Z h o "com/example/ostracon/ostracon/LastValues" "count" "I" (.int (1 : Int32)) ∧ Arv Z h b k .long (1 : Int32) [(.long x)] (.long (0 : Int64))
set_option maxRecDepth 65536 in
set_option maxHeartbeats 40000000 in
theorem rmadd3_100 (l : Launch) (Z : State) (a0 : Array Value) (hw : ∀ d ∈ tables_1, d.before a0 Z = true) (ws : List Jvm.Cond) (o : Addr) (x : Int64) (b : Addr) (k : ClassId) (v0 : Int64) (h0 : Heap) (n0 : Nat) (Z0 : n0 ≤ h0.size) (E_o : Exa Z h0 o "com/example/ostracon/ostracon/LastValues") (F1_o : Fld Z h0 o "com/example/ostracon/ostracon/LastValues" "values" "[J" (.ref b)) (F2_o : Fld Z h0 o "com/example/ostracon/ostracon/LastValues" "start" "I" (.int (0 : Int32))) (F3_o : Fld Z h0 o "com/example/ostracon/ostracon/LastValues" "count" "I" (.int (0 : Int32))) (V_b : Arv Z h0 b k .long (1 : Int32) [(.long v0)] (.long (0 : Int64))) (g_o : n0 ≤ o) (g_b : n0 ≤ b) (ne_ob : o ≠ b) :
    MetFree l (⟨"com/example/ostracon/ostracon/LastValues", "add", "(JI)J"⟩ : MethodName) (head1 (Jvm.Cond.code (⟨"com/example/ostracon/ostracon/LastValues", "add", "(JI)J"⟩ : MethodName) prog_19_method_2_code 6 (some .long) :: ws) ({ frames := 0, cells := 0, slots := 0, locals := 0 } : Room)) (fun a U => a = #[(.ref o), (.long x), (.int (3 : Int32))] ∧ Z.Warmed39 U.vm ∧ U.heap = h0) (fun _ _ _ _ _ => True) (fun _ U oc U' => ∃ v L, oc = .returned v ∧ Qadd3_100 Z o x b k v0 h0 n0 v U'.heap L ∧ FrameEnd U oc U' L ({ frames := 0, cells := 0, slots := 0, locals := 0 } : Room).cells ({ frames := 0, cells := 0, slots := 0, locals := 0 } : Room).slots) := by
  refine MetFree.of_bodySF (plainFor_of_name pnadd3_100) hisR ?_
  intro p e s m args below meth c s₁ Bd hml0 hP hK
  obtain ⟨rfl, hZ, hh⟩ := hP
  have hx := Bd.exec
  have hby := Bd.bytes
  have hml : c.maxLocals = 6 := hml0
  have hown : s.vm.findClass "com/example/ostracon/ostracon/LastValues" = some m.cls := findClass_of_methodNamed Bd.named
  have hnm := (name_of_methodNamed Bd.named Bd.method).1
  have X0 : Stand p l e ({ frames := 0, cells := 0, slots := 0, locals := 0 } : Room) s m #[(.ref o), (.long x), (.int (3 : Int32))] below meth c s₁ [] 0 0 := Stand.of_body Bd
  have e0 : s₁.heap = h0 := by rw [← hh, Bd.state]; rfl
  have N0 := Fr.nil n0
  show own_Go p e below (fun s₂ oc => ∃ v L, oc = .returned v ∧ Qadd3_100 Z o x b k v0 h0 n0 v s₂.heap L ∧ FrameEnd s oc s₂ L ({ frames := 0, cells := 0, slots := 0, locals := 0 } : Room).cells ({ frames := 0, cells := 0, slots := 0, locals := 0 } : Room).slots) s₁ (entryFrame m #[(.ref o), (.long x), (.int (3 : Int32))] 6)
  refine own_Go.of (g' := mkF m 0 #[.val (.ref o), .val (.long x), .second, .val (.int (3 : Int32)), .unset, .unset] []) (fun t k => castTop (efadd3_100 m o x) k) ?_
  refine og_aloadN (pc' := 1) X0 hx (hb hby d3_0) rfl rfl rfl ?_
  obtain ⟨T1, X1, e1, st1⟩ := getF X0 hx hZ hown (host := "") (Or.inl (hw _ (List.mem_of_getElem? (i := 18) rfl))) Via.refl e0 F3_o (g := (mkF m 1 #[.val (.ref o), .val (.long x), .second, .val (.int (3 : Int32)), .unset, .unset] [(.ref o)])) rfl rfl (hb hby d3_1)
  refine own_Go.of (g' := (mkF m 4 #[.val (.ref o), .val (.long x), .second, .val (.int (3 : Int32)), .unset, .unset] [(.int (0 : Int32))])) (fun t k => st1 _ k) ?_
  refine og_iloadN (pc' := 5) X1 hx (hb hby d3_4) rfl rfl ?_
  refine og_icmpNo (pc' := 8) X1 hx (hb hby d3_5) (tlt (by decide)).2.1 rfl ?_
  refine og_aloadN (pc' := 9) X1 hx (hb hby d3_8) rfl rfl rfl ?_
  obtain ⟨T2, X2, e2, st2⟩ := getF X1 hx hZ hown (host := "") (Or.inl (hw _ (List.mem_of_getElem? (i := 18) rfl))) Via.refl e1 F3_o (g := (mkF m 9 #[.val (.ref o), .val (.long x), .second, .val (.int (3 : Int32)), .unset, .unset] [(.ref o)])) rfl rfl (hb hby d3_9)
  refine own_Go.of (g' := (mkF m 12 #[.val (.ref o), .val (.long x), .second, .val (.int (3 : Int32)), .unset, .unset] [(.int (0 : Int32))])) (fun t k => st2 _ k) ?_
  refine og_aloadN (pc' := 13) X2 hx (hb hby d3_12) rfl rfl rfl ?_
  obtain ⟨T3, X3, e3, st3⟩ := getF X2 hx hZ hown (host := "") (Or.inl (hw _ (List.mem_of_getElem? (i := 11) rfl))) Via.refl e2 F1_o (g := (mkF m 13 #[.val (.ref o), .val (.long x), .second, .val (.int (3 : Int32)), .unset, .unset] [(.ref o), (.int (0 : Int32))])) rfl rfl (hb hby d3_13)
  refine own_Go.of (g' := (mkF m 16 #[.val (.ref o), .val (.long x), .second, .val (.int (3 : Int32)), .unset, .unset] [(.ref b), (.int (0 : Int32))])) (fun t k => st3 _ k) ?_
  obtain ⟨cl4, Ar4, q4, S4, M4, H4, G4⟩ := id V_b
  refine own_Go.of (g' := (mkF m 17 #[.val (.ref o), .val (.long x), .second, .val (.int (3 : Int32)), .unset, .unset] [(.int (1 : Int32)), (.int (0 : Int32))])) (fun t k => X3.arraylength hx (by rw [e3]; exact Ar4.1) (State.isArrayOf_alike hZ.alike Ar4.2.1) (g := (mkF m 16 #[.val (.ref o), .val (.long x), .second, .val (.int (3 : Int32)), .unset, .unset] [(.ref b), (.int (0 : Int32))])) rfl rfl (hb hby d3_16) _ (by rw [len_of S4 M4]; exact k)) ?_
  refine og_icmpYes (pc' := 87) X3 hx (hb hby d3_17) (feq (by decide)).2 (by decide) (by decide) ?_
  refine og_aloadN (pc' := 88) X3 hx (hb hby d3_87) rfl rfl rfl ?_
  obtain ⟨T5, X5, e5, st5⟩ := getF X3 hx hZ hown (host := "") (Or.inl (hw _ (List.mem_of_getElem? (i := 11) rfl))) Via.refl e3 F1_o (g := (mkF m 88 #[.val (.ref o), .val (.long x), .second, .val (.int (3 : Int32)), .unset, .unset] [(.ref o)])) rfl rfl (hb hby d3_88)
  refine own_Go.of (g' := (mkF m 91 #[.val (.ref o), .val (.long x), .second, .val (.int (3 : Int32)), .unset, .unset] [(.ref b)])) (fun t k => st5 _ k) ?_
  refine og_aloadN (pc' := 92) X5 hx (hb hby d3_91) rfl rfl rfl ?_
  obtain ⟨T6, X6, e6, st6⟩ := getF X5 hx hZ hown (host := "") (Or.inl (hw _ (List.mem_of_getElem? (i := 20) rfl))) Via.refl e5 F2_o (g := (mkF m 92 #[.val (.ref o), .val (.long x), .second, .val (.int (3 : Int32)), .unset, .unset] [(.ref o), (.ref b)])) rfl rfl (hb hby d3_92)
  refine own_Go.of (g' := (mkF m 95 #[.val (.ref o), .val (.long x), .second, .val (.int (3 : Int32)), .unset, .unset] [(.int (0 : Int32)), (.ref b)])) (fun t k => st6 _ k) ?_
  refine og_aloadN (pc' := 96) X6 hx (hb hby d3_95) rfl rfl rfl ?_
  obtain ⟨T7, X7, e7, st7⟩ := getF X6 hx hZ hown (host := "") (Or.inl (hw _ (List.mem_of_getElem? (i := 18) rfl))) Via.refl e6 F3_o (g := (mkF m 96 #[.val (.ref o), .val (.long x), .second, .val (.int (3 : Int32)), .unset, .unset] [(.ref o), (.int (0 : Int32)), (.ref b)])) rfl rfl (hb hby d3_96)
  refine own_Go.of (g' := (mkF m 99 #[.val (.ref o), .val (.long x), .second, .val (.int (3 : Int32)), .unset, .unset] [(.int (0 : Int32)), (.int (0 : Int32)), (.ref b)])) (fun t k => st7 _ k) ?_
  refine og_iadd (pc' := 100) X7 hx (hb hby d3_99) rfl ?_
  rw [show ((0 : Int32) + (0 : Int32)) = (0 : Int32) from by decide]
  refine og_aloadN (pc' := 101) X7 hx (hb hby d3_100) rfl rfl rfl ?_
  obtain ⟨T8, X8, e8, st8⟩ := getF X7 hx hZ hown (host := "") (Or.inl (hw _ (List.mem_of_getElem? (i := 11) rfl))) Via.refl e7 F1_o (g := (mkF m 101 #[.val (.ref o), .val (.long x), .second, .val (.int (3 : Int32)), .unset, .unset] [(.ref o), (.int (0 : Int32)), (.ref b)])) rfl rfl (hb hby d3_101)
  refine own_Go.of (g' := (mkF m 104 #[.val (.ref o), .val (.long x), .second, .val (.int (3 : Int32)), .unset, .unset] [(.ref b), (.int (0 : Int32)), (.ref b)])) (fun t k => st8 _ k) ?_
  obtain ⟨cl9, Ar9, q9, S9, M9, H9, G9⟩ := id V_b
  refine own_Go.of (g' := (mkF m 105 #[.val (.ref o), .val (.long x), .second, .val (.int (3 : Int32)), .unset, .unset] [(.int (1 : Int32)), (.int (0 : Int32)), (.ref b)])) (fun t k => X8.arraylength hx (by rw [e8]; exact Ar9.1) (State.isArrayOf_alike hZ.alike Ar9.2.1) (g := (mkF m 104 #[.val (.ref o), .val (.long x), .second, .val (.int (3 : Int32)), .unset, .unset] [(.ref b), (.int (0 : Int32)), (.ref b)])) rfl rfl (hb hby d3_104) _ (by rw [len_of S9 M9]; exact k)) ?_
  refine og_irem (pc' := 106) X8 hx (hb hby d3_105) (by decide) rfl ?_
  rw [show ((0 : Int32) % (1 : Int32)) = (0 : Int32) from by decide]
  refine og_lloadN (pc' := 107) X8 hx (hb hby d3_106) rfl rfl ?_
  obtain ⟨cl10, Ar10, q10, S10, M10, H10, G10⟩ := id V_b
  have hin10 : ¬ ((0 : Int32) < 0 ∨ cl10.slots.size ≤ ((0 : Int32)).toNatClampNeg) := inb_of S10 ⟨by decide, by decide⟩
  obtain ⟨T10, h10, X10, e10, W10, st10⟩ := stJ X8 hx hZ e8 Ar10 (j := (0 : Int32)) hin10 (g := (mkF m 107 #[.val (.ref o), .val (.long x), .second, .val (.int (3 : Int32)), .unset, .unset] [(.long x), (.int (0 : Int32)), (.ref b)])) rfl rfl (hb hby d3_107)
  have V10 : Arv Z h10 b k .long (1 : Int32) [(.long x)] (.long (0 : Int64)) := Arv.set Ar10 q10 S10 M10 H10 G10 rfl W10 0 rfl (Nat.le_of_ble_eq_true rfl)
  have f10_0 := E_o.wr W10
  have f10_1 := F1_o.other W10 (Or.inl ne_ob)
  have f10_2 := F2_o.other W10 (Or.inl ne_ob)
  have f10_3 := F3_o.other W10 (Or.inl ne_ob)
  have K10 : Keep h0 h10 [o, b] := (Keep.refl h0 [o, b]).wr W10 (Or.inl (List.mem_of_getElem? (i := 1) rfl))
  have Z10 : n0 ≤ h10.size := Nat.le_trans Z0 K10.1
  have N10 := Fr.snoc X10 N0 g_b
  refine own_Go.of (g' := (mkF m 108 #[.val (.ref o), .val (.long x), .second, .val (.int (3 : Int32)), .unset, .unset] [])) (fun t k => st10 _ k) ?_
  refine og_aloadN (pc' := 109) X10 hx (hb hby d3_108) rfl rfl rfl ?_
  refine og_dup (pc' := 110) X10 hx (hb hby d3_109) rfl rfl ?_
  obtain ⟨T11, X11, e11, st11⟩ := getF X10 hx hZ hown (host := "") (Or.inl (hw _ (List.mem_of_getElem? (i := 18) rfl))) Via.refl e10 f10_3 (g := (mkF m 110 #[.val (.ref o), .val (.long x), .second, .val (.int (3 : Int32)), .unset, .unset] [(.ref o), (.ref o)])) rfl rfl (hb hby d3_110)
  refine own_Go.of (g' := (mkF m 113 #[.val (.ref o), .val (.long x), .second, .val (.int (3 : Int32)), .unset, .unset] [(.int (0 : Int32)), (.ref o)])) (fun t k => st11 _ k) ?_
  refine og_iconst (pc' := 114) (n := 1) X11 hx (hb hby d3_113) rfl rfl ?_
  refine og_iadd (pc' := 115) X11 hx (hb hby d3_114) rfl ?_
  rw [show ((0 : Int32) + (1 : Int32)) = (1 : Int32) from by decide]
  obtain ⟨T12, h12, X12, e12, W12, st12⟩ := putF X11 hx hZ hown (host := "") (Or.inl (hw _ (List.mem_of_getElem? (i := 18) rfl))) Via.refl e11 f10_3 f10_0 (Or.inl (hw _ (List.mem_of_getElem? (i := 19) rfl))) (hw _ (List.mem_of_getElem? (i := 2) rfl)) (ty := .int) (by decide) rfl rfl (g := (mkF m 115 #[.val (.ref o), .val (.long x), .second, .val (.int (3 : Int32)), .unset, .unset] [(.int (1 : Int32)), (.ref o)])) rfl rfl (hb hby d3_115)
  have w12 : Fld Z h12 o "com/example/ostracon/ostracon/LastValues" "count" "I" (.int (1 : Int32)) := f10_3.same W12
  have f12_0 := f10_0.wr W12
  have f12_1 := f10_1.other W12 (Or.inr (slot_ne (a0 := a0) (C := "com/example/ostracon/ostracon/LastValues") (Or.inl (hw _ (List.mem_of_getElem? (i := 12) rfl))) (Or.inl (hw _ (List.mem_of_getElem? (i := 19) rfl))) (by decide) (t := (.array .long)) (t' := .int) (by decide) (by decide)))
  have f12_2 := f10_2.other W12 (Or.inr (slot_ne (a0 := a0) (C := "com/example/ostracon/ostracon/LastValues") (Or.inl (hw _ (List.mem_of_getElem? (i := 21) rfl))) (Or.inl (hw _ (List.mem_of_getElem? (i := 19) rfl))) (by decide) (t := .int) (t' := .int) (by decide) (by decide)))
  have f12_6 := V10.other W12 (Ne.symm ne_ob)
  have K12 : Keep h0 h12 [o, b] := K10.wr W12 (Or.inl (List.mem_of_getElem? (i := 0) rfl))
  have Z12 : n0 ≤ h12.size := Nat.le_trans Z0 K12.1
  have N12 := Fr.snoc X12 N10 g_o
  refine own_Go.of (g' := (mkF m 118 #[.val (.ref o), .val (.long x), .second, .val (.int (3 : Int32)), .unset, .unset] [])) (fun t k => st12 _ k) ?_
  refine og_ldc2_w (pc' := 121) X12 hx (hb hby d3_118) hown (mvT hZ (hw _ (List.mem_of_getElem? (i := 22) rfl))) rfl ?_
  obtain ⟨fs, hr, hrun, hended, hW, hsame⟩ := X12.leave (v := some (.long (-1 : Int64))) (fun h => by rw [Bd.returns] at h; cases h) (BodyLoose.notSynchronized Bd)
  refine ⟨_, _, retL X12 hx Bd.returns (hb hby d3_121) hr, hrun, hended, some (.long (-1 : Int64)), _, rfl, ?_, ⟨_, rfl⟩, hW, hsame.mono (by decide) (by decide)⟩
  show Qadd3_100 Z o x b k v0 h0 n0 _ T12.heap _
  rw [e12]
  exact ⟨rfl, N12, K12, f12_0, f12_1, f12_2, w12, f12_6⟩

theorem pnadd3_101 : plainName "com/example/ostracon/ostracon/LastValues" = true := by first | (simp [plainName, overriddenIn]; done) | decide +kernel
theorem efadd3_101 (m : MethodId) (z0 : Addr) (z1 : Int64) : entryFrame m #[(.ref z0), (.long z1), (.int (3 : Int32))] 6 = mkF m 0 #[.val (.ref z0), .val (.long z1), .second, .val (.int (3 : Int32)), .unset, .unset] [] := by first | (simp [entryFrame, mkF, argsToLocals, Value.category]; done) | rfl
def Qadd3_101 (Z : State) (o : Addr) (x : Int64) (b : Addr) (k : ClassId) (v0 : Int64) (h0 : Heap) (n0 : Nat) (v : Option Value) (h : Heap) (L : List Loc) : Prop := ∃ (b2 : Addr) (k2 : ClassId), v = some (.long (-1 : Int64)) ∧ Fr n0 L ∧ Keep h0 h [o] ∧ h0.size ≤ b2 ∧ Exa Z h o "com/example/ostracon/ostracon/LastValues" ∧ Fld Z h o "com/example/ostracon/ostracon/LastValues" "values" "[J" (.ref b2) ∧ Fld Z h o "com/example/ostracon/ostracon/LastValues" "start" "I" (.int (0 : Int32)) ∧ Fld Z h o "com/example/ostracon/ostracon/LastValues" "count" "I" (.int (2 : Int32)) ∧ Arv Z h b2 k2 .long (2 : Int32) [(.long v0), (.long x)] (.long (0 : Int64))
set_option maxRecDepth 65536 in
set_option maxHeartbeats 40000000 in
theorem rmadd3_101 (l : Launch) (Z : State) (a0 : Array Value) (hw : ∀ d ∈ tables_1, d.before a0 Z = true) (ws : List Jvm.Cond) (o : Addr) (x : Int64) (b : Addr) (k : ClassId) (v0 : Int64) (h0 : Heap) (n0 : Nat) (Z0 : n0 ≤ h0.size) (E_o : Exa Z h0 o "com/example/ostracon/ostracon/LastValues") (F1_o : Fld Z h0 o "com/example/ostracon/ostracon/LastValues" "values" "[J" (.ref b)) (F2_o : Fld Z h0 o "com/example/ostracon/ostracon/LastValues" "start" "I" (.int (0 : Int32))) (F3_o : Fld Z h0 o "com/example/ostracon/ostracon/LastValues" "count" "I" (.int (1 : Int32))) (V_b : Arv Z h0 b k .long (1 : Int32) [(.long v0)] (.long (0 : Int64))) (g_o : n0 ≤ o) (g_b : n0 ≤ b) (ne_ob : o ≠ b) :
    MetFree l (⟨"com/example/ostracon/ostracon/LastValues", "add", "(JI)J"⟩ : MethodName) (head1 (Jvm.Cond.code (⟨"com/example/ostracon/ostracon/LastValues", "add", "(JI)J"⟩ : MethodName) prog_19_method_2_code 6 (some .long) :: ws) ({ frames := 1, cells := 1, slots := 2, locals := 13 } : Room)) (fun a U => a = #[(.ref o), (.long x), (.int (3 : Int32))] ∧ Z.Warmed39 U.vm ∧ U.heap = h0) (fun _ _ _ _ _ => True) (fun _ U oc U' => ∃ v L, oc = .returned v ∧ Qadd3_101 Z o x b k v0 h0 n0 v U'.heap L ∧ FrameEnd U oc U' L ({ frames := 1, cells := 1, slots := 2, locals := 13 } : Room).cells ({ frames := 1, cells := 1, slots := 2, locals := 13 } : Room).slots) := by
  refine MetFree.of_bodySF (plainFor_of_name pnadd3_101) hisR ?_
  intro p e s m args below meth c s₁ Bd hml0 hP hK
  obtain ⟨rfl, hZ, hh⟩ := hP
  have hx := Bd.exec
  have hby := Bd.bytes
  have hml : c.maxLocals = 6 := hml0
  have hown : s.vm.findClass "com/example/ostracon/ostracon/LastValues" = some m.cls := findClass_of_methodNamed Bd.named
  have hnm := (name_of_methodNamed Bd.named Bd.method).1
  have X0 : Stand p l e ({ frames := 1, cells := 1, slots := 2, locals := 13 } : Room) s m #[(.ref o), (.long x), (.int (3 : Int32))] below meth c s₁ [] 0 0 := Stand.of_body Bd
  have e0 : s₁.heap = h0 := by rw [← hh, Bd.state]; rfl
  have N0 := Fr.nil n0
  show own_Go p e below (fun s₂ oc => ∃ v L, oc = .returned v ∧ Qadd3_101 Z o x b k v0 h0 n0 v s₂.heap L ∧ FrameEnd s oc s₂ L ({ frames := 1, cells := 1, slots := 2, locals := 13 } : Room).cells ({ frames := 1, cells := 1, slots := 2, locals := 13 } : Room).slots) s₁ (entryFrame m #[(.ref o), (.long x), (.int (3 : Int32))] 6)
  refine own_Go.of (g' := mkF m 0 #[.val (.ref o), .val (.long x), .second, .val (.int (3 : Int32)), .unset, .unset] []) (fun t k => castTop (efadd3_101 m o x) k) ?_
  refine og_aloadN (pc' := 1) X0 hx (hb hby d3_0) rfl rfl rfl ?_
  obtain ⟨T1, X1, e1, st1⟩ := getF X0 hx hZ hown (host := "") (Or.inl (hw _ (List.mem_of_getElem? (i := 18) rfl))) Via.refl e0 F3_o (g := (mkF m 1 #[.val (.ref o), .val (.long x), .second, .val (.int (3 : Int32)), .unset, .unset] [(.ref o)])) rfl rfl (hb hby d3_1)
  refine own_Go.of (g' := (mkF m 4 #[.val (.ref o), .val (.long x), .second, .val (.int (3 : Int32)), .unset, .unset] [(.int (1 : Int32))])) (fun t k => st1 _ k) ?_
  refine og_iloadN (pc' := 5) X1 hx (hb hby d3_4) rfl rfl ?_
  refine og_icmpNo (pc' := 8) X1 hx (hb hby d3_5) (tlt (by decide)).2.1 rfl ?_
  refine og_aloadN (pc' := 9) X1 hx (hb hby d3_8) rfl rfl rfl ?_
  obtain ⟨T2, X2, e2, st2⟩ := getF X1 hx hZ hown (host := "") (Or.inl (hw _ (List.mem_of_getElem? (i := 18) rfl))) Via.refl e1 F3_o (g := (mkF m 9 #[.val (.ref o), .val (.long x), .second, .val (.int (3 : Int32)), .unset, .unset] [(.ref o)])) rfl rfl (hb hby d3_9)
  refine own_Go.of (g' := (mkF m 12 #[.val (.ref o), .val (.long x), .second, .val (.int (3 : Int32)), .unset, .unset] [(.int (1 : Int32))])) (fun t k => st2 _ k) ?_
  refine og_aloadN (pc' := 13) X2 hx (hb hby d3_12) rfl rfl rfl ?_
  obtain ⟨T3, X3, e3, st3⟩ := getF X2 hx hZ hown (host := "") (Or.inl (hw _ (List.mem_of_getElem? (i := 11) rfl))) Via.refl e2 F1_o (g := (mkF m 13 #[.val (.ref o), .val (.long x), .second, .val (.int (3 : Int32)), .unset, .unset] [(.ref o), (.int (1 : Int32))])) rfl rfl (hb hby d3_13)
  refine own_Go.of (g' := (mkF m 16 #[.val (.ref o), .val (.long x), .second, .val (.int (3 : Int32)), .unset, .unset] [(.ref b), (.int (1 : Int32))])) (fun t k => st3 _ k) ?_
  obtain ⟨cl4, Ar4, q4, S4, M4, H4, G4⟩ := id V_b
  refine own_Go.of (g' := (mkF m 17 #[.val (.ref o), .val (.long x), .second, .val (.int (3 : Int32)), .unset, .unset] [(.int (1 : Int32)), (.int (1 : Int32))])) (fun t k => X3.arraylength hx (by rw [e3]; exact Ar4.1) (State.isArrayOf_alike hZ.alike Ar4.2.1) (g := (mkF m 16 #[.val (.ref o), .val (.long x), .second, .val (.int (3 : Int32)), .unset, .unset] [(.ref b), (.int (1 : Int32))])) rfl rfl (hb hby d3_16) _ (by rw [len_of S4 M4]; exact k)) ?_
  refine og_icmpNo (pc' := 20) X3 hx (hb hby d3_17) (teq (by decide)).2 rfl ?_
  refine og_iconst (pc' := 21) (n := 2) X3 hx (hb hby d3_20) rfl rfl ?_
  refine og_aloadN (pc' := 22) X3 hx (hb hby d3_21) rfl rfl rfl ?_
  obtain ⟨T5, X5, e5, st5⟩ := getF X3 hx hZ hown (host := "") (Or.inl (hw _ (List.mem_of_getElem? (i := 11) rfl))) Via.refl e3 F1_o (g := (mkF m 22 #[.val (.ref o), .val (.long x), .second, .val (.int (3 : Int32)), .unset, .unset] [(.ref o), (.int (2 : Int32))])) rfl rfl (hb hby d3_22)
  refine own_Go.of (g' := (mkF m 25 #[.val (.ref o), .val (.long x), .second, .val (.int (3 : Int32)), .unset, .unset] [(.ref b), (.int (2 : Int32))])) (fun t k => st5 _ k) ?_
  obtain ⟨cl6, Ar6, q6, S6, M6, H6, G6⟩ := id V_b
  refine own_Go.of (g' := (mkF m 26 #[.val (.ref o), .val (.long x), .second, .val (.int (3 : Int32)), .unset, .unset] [(.int (1 : Int32)), (.int (2 : Int32))])) (fun t k => X5.arraylength hx (by rw [e5]; exact Ar6.1) (State.isArrayOf_alike hZ.alike Ar6.2.1) (g := (mkF m 25 #[.val (.ref o), .val (.long x), .second, .val (.int (3 : Int32)), .unset, .unset] [(.ref b), (.int (2 : Int32))])) rfl rfl (hb hby d3_25) _ (by rw [len_of S6 M6]; exact k)) ?_
  refine og_imul (pc' := 27) X5 hx (hb hby d3_26) rfl ?_
  rw [show ((2 : Int32) * (1 : Int32)) = (2 : Int32) from by decide]
  refine og_iloadN (pc' := 28) X5 hx (hb hby d3_27) rfl rfl ?_
  obtain ⟨_, _, ⟨T7, L7, k7, n7⟩, -, X7, ⟨Lc7, hQ7, l7, y7, z7⟩, st7⟩ := Jvm.LawKit.callS X5 hx (y := (⟨"java/lang/Math", "min", "(II)I"⟩ : MethodName)) hown (mvT hZ (hw _ (List.mem_of_getElem? (i := 28) rfl))) (mvT hZ (hw _ (List.mem_of_getElem? (i := 29) rfl))) (mvT hZ (hw _ (List.mem_of_getElem? (i := 30) rfl))) (mvT hZ (hw _ (List.mem_of_getElem? (i := 31) rfl))) (by decide) (backOf (W := 0) (rmmn l Z a0 hw [] (2 : Int32) (3 : Int32) h0 n0 Z0 ) hZ (hw _ (List.mem_of_getElem? (i := 31) rfl)) (hw _ (List.mem_of_getElem? (i := 30) rfl)) (by decide) (by decide)) (g := (mkF m 28 #[.val (.ref o), .val (.long x), .second, .val (.int (3 : Int32)), .unset, .unset] [(.int (3 : Int32)), (.int (2 : Int32))])) rfl (by rw [hml]; rfl) (argsL := [(.int (2 : Int32)), (.int (3 : Int32))]) (rest := []) (lenOf pd_0 rfl) rfl (by show 2 * 0 + _ ≤ _; exact Nat.le_of_eq rfl) (hb hby d3_28) (fun _ _ => ⟨rfl, e5, (by decide : 0 + 0 ≤ _), (by decide : 0 + 0 ≤ _)⟩)
  dsimp only [Pt.U, Pt.locs, Pt.cells, Pt.slots] at X7 l7 y7 z7 st7 hQ7
  subst l7 y7 z7
  obtain ⟨rfl, N7q, e7⟩ := hQ7
  have N7 := Fr.app N0 N7q
  refine own_Go.of (g' := (mkF m 31 #[.val (.ref o), .val (.long x), .second, .val (.int (3 : Int32)), .unset, .unset] [(.int (own_min (2 : Int32) (3 : Int32)))])) (fun t k => st7 _ k) ?_
  rw [show (own_min (2 : Int32) (3 : Int32)) = (2 : Int32) from by decide]
  obtain ⟨T8, h8, k8, X8, e8, E8, A8, st8⟩ := newP X7 hx hZ (hw _ (List.mem_of_getElem? (i := 10) rfl)) e7 (g := (mkF m 31 #[.val (.ref o), .val (.long x), .second, .val (.int (3 : Int32)), .unset, .unset] [(.int (2 : Int32))])) rfl (hb hby d3_31) rfl (by decide) (cap := 2) (by decide) (by decide) (by decide) (by decide)
  obtain ⟨b8, g8⟩ : ∃ z, z = h0.size := ⟨_, rfl⟩
  rw [← g8] at A8 st8
  have ne8_1 : o ≠ b8 := Nat.ne_of_lt (Nat.lt_of_lt_of_le E_o.lt (Nat.le_of_eq g8.symm))
  have ne8_2 : b ≠ b8 := Nat.ne_of_lt (Nat.lt_of_lt_of_le V_b.lt (Nat.le_of_eq g8.symm))
  have g_b8 : n0 ≤ b8 := Nat.le_trans Z0 (Nat.le_of_eq g8.symm)
  have sz_b8 : h0.size ≤ b8 := Nat.le_trans (Keep.refl h0 [o]).1 (Nat.le_of_eq g8.symm)
  have f8_0 := E_o.ext E8
  have f8_1 := F1_o.ext E8
  have f8_2 := F2_o.ext E8
  have f8_3 := F3_o.ext E8
  have f8_4 := V_b.ext E8
  have V8 : Arv Z h8 b8 k8 .long (2 : Int32) [(.long (0 : Int64)), (.long (0 : Int64))] (.long (0 : Int64)) := (Arv.new A8 (by decide)).pad (pad_rep [] (.long (0 : Int64)) 2)
  have K8 : Keep h0 h8 [o] := (Keep.refl h0 [o]).ext E8
  have Z8 : n0 ≤ h8.size := Nat.le_trans Z0 K8.1
  refine own_Go.of (g' := (mkF m 33 #[.val (.ref o), .val (.long x), .second, .val (.int (3 : Int32)), .unset, .unset] [(.ref b8)])) (fun t k => st8 _ k) ?_
  refine og_astore (pc' := 35) (L' := #[.val (.ref o), .val (.long x), .second, .val (.int (3 : Int32)), .val (.ref b8), .unset]) X8 hx (hb hby d3_33) rfl rfl rfl ?_
  refine og_iconst (pc' := 36) (n := 0) X8 hx (hb hby d3_35) rfl rfl ?_
  refine og_istore (pc' := 38) (L' := #[.val (.ref o), .val (.long x), .second, .val (.int (3 : Int32)), .val (.ref b8), .val (.int (0 : Int32))]) X8 hx (hb hby d3_36) rfl rfl ?_
  refine og_iload (pc' := 40) X8 hx (hb hby d3_38) rfl rfl ?_
  refine og_aloadN (pc' := 41) X8 hx (hb hby d3_40) rfl rfl rfl ?_
  obtain ⟨T9, X9, e9, st9⟩ := getF X8 hx hZ hown (host := "") (Or.inl (hw _ (List.mem_of_getElem? (i := 18) rfl))) Via.refl e8 f8_3 (g := (mkF m 41 #[.val (.ref o), .val (.long x), .second, .val (.int (3 : Int32)), .val (.ref b8), .val (.int (0 : Int32))] [(.ref o), (.int (0 : Int32))])) rfl rfl (hb hby d3_41)
  refine own_Go.of (g' := (mkF m 44 #[.val (.ref o), .val (.long x), .second, .val (.int (3 : Int32)), .val (.ref b8), .val (.int (0 : Int32))] [(.int (1 : Int32)), (.int (0 : Int32))])) (fun t k => st9 _ k) ?_
  refine og_icmpNo (pc' := 47) X9 hx (hb hby d3_44) (tlt (by decide)).2.1 rfl ?_
  refine og_aload (pc' := 49) X9 hx (hb hby d3_47) rfl rfl rfl ?_
  refine og_iload (pc' := 51) X9 hx (hb hby d3_49) rfl rfl ?_
  refine og_aloadN (pc' := 52) X9 hx (hb hby d3_51) rfl rfl rfl ?_
  obtain ⟨T10, X10, e10, st10⟩ := getF X9 hx hZ hown (host := "") (Or.inl (hw _ (List.mem_of_getElem? (i := 11) rfl))) Via.refl e9 f8_1 (g := (mkF m 52 #[.val (.ref o), .val (.long x), .second, .val (.int (3 : Int32)), .val (.ref b8), .val (.int (0 : Int32))] [(.ref o), (.int (0 : Int32)), (.ref b8)])) rfl rfl (hb hby d3_52)
  refine own_Go.of (g' := (mkF m 55 #[.val (.ref o), .val (.long x), .second, .val (.int (3 : Int32)), .val (.ref b8), .val (.int (0 : Int32))] [(.ref b), (.int (0 : Int32)), (.ref b8)])) (fun t k => st10 _ k) ?_
  refine og_aloadN (pc' := 56) X10 hx (hb hby d3_55) rfl rfl rfl ?_
  obtain ⟨T11, X11, e11, st11⟩ := getF X10 hx hZ hown (host := "") (Or.inl (hw _ (List.mem_of_getElem? (i := 20) rfl))) Via.refl e10 f8_2 (g := (mkF m 56 #[.val (.ref o), .val (.long x), .second, .val (.int (3 : Int32)), .val (.ref b8), .val (.int (0 : Int32))] [(.ref o), (.ref b), (.int (0 : Int32)), (.ref b8)])) rfl rfl (hb hby d3_56)
  refine own_Go.of (g' := (mkF m 59 #[.val (.ref o), .val (.long x), .second, .val (.int (3 : Int32)), .val (.ref b8), .val (.int (0 : Int32))] [(.int (0 : Int32)), (.ref b), (.int (0 : Int32)), (.ref b8)])) (fun t k => st11 _ k) ?_
  refine og_iload (pc' := 61) X11 hx (hb hby d3_59) rfl rfl ?_
  refine og_iadd (pc' := 62) X11 hx (hb hby d3_61) rfl ?_
  rw [show ((0 : Int32) + (0 : Int32)) = (0 : Int32) from by decide]
  refine og_aloadN (pc' := 63) X11 hx (hb hby d3_62) rfl rfl rfl ?_
  obtain ⟨T12, X12, e12, st12⟩ := getF X11 hx hZ hown (host := "") (Or.inl (hw _ (List.mem_of_getElem? (i := 11) rfl))) Via.refl e11 f8_1 (g := (mkF m 63 #[.val (.ref o), .val (.long x), .second, .val (.int (3 : Int32)), .val (.ref b8), .val (.int (0 : Int32))] [(.ref o), (.int (0 : Int32)), (.ref b), (.int (0 : Int32)), (.ref b8)])) rfl rfl (hb hby d3_63)
  refine own_Go.of (g' := (mkF m 66 #[.val (.ref o), .val (.long x), .second, .val (.int (3 : Int32)), .val (.ref b8), .val (.int (0 : Int32))] [(.ref b), (.int (0 : Int32)), (.ref b), (.int (0 : Int32)), (.ref b8)])) (fun t k => st12 _ k) ?_
  obtain ⟨cl13, Ar13, q13, S13, M13, H13, G13⟩ := id f8_4
  refine own_Go.of (g' := (mkF m 67 #[.val (.ref o), .val (.long x), .second, .val (.int (3 : Int32)), .val (.ref b8), .val (.int (0 : Int32))] [(.int (1 : Int32)), (.int (0 : Int32)), (.ref b), (.int (0 : Int32)), (.ref b8)])) (fun t k => X12.arraylength hx (by rw [e12]; exact Ar13.1) (State.isArrayOf_alike hZ.alike Ar13.2.1) (g := (mkF m 66 #[.val (.ref o), .val (.long x), .second, .val (.int (3 : Int32)), .val (.ref b8), .val (.int (0 : Int32))] [(.ref b), (.int (0 : Int32)), (.ref b), (.int (0 : Int32)), (.ref b8)])) rfl rfl (hb hby d3_66) _ (by rw [len_of S13 M13]; exact k)) ?_
  refine og_irem (pc' := 68) X12 hx (hb hby d3_67) (by decide) rfl ?_
  rw [show ((0 : Int32) % (1 : Int32)) = (0 : Int32) from by decide]
  obtain ⟨cl14, Ar14, q14, S14, M14, H14, G14⟩ := id f8_4
  have hin14 : ¬ ((0 : Int32) < 0 ∨ cl14.slots.size ≤ ((0 : Int32)).toNatClampNeg) := inb_of S14 ⟨by decide, by decide⟩
  have hat14 : cl14.slots[((0 : Int32)).toNatClampNeg]? = some (.long v0) := Has.at H14 hin14 rfl
  refine own_Go.of (g' := (mkF m 69 #[.val (.ref o), .val (.long x), .second, .val (.int (3 : Int32)), .val (.ref b8), .val (.int (0 : Int32))] [(.long v0), (.int (0 : Int32)), (.ref b8)])) (fun t k => X12.laload hx (j := (0 : Int32)) (v := (.long v0)) (by rw [e12]; exact Ar14.1) (State.isArrayOf_alike hZ.alike Ar14.2.1) Ar14.2.2 hin14 hat14 (g := (mkF m 68 #[.val (.ref o), .val (.long x), .second, .val (.int (3 : Int32)), .val (.ref b8), .val (.int (0 : Int32))] [(.int (0 : Int32)), (.ref b), (.int (0 : Int32)), (.ref b8)])) rfl rfl (hb hby d3_68) _ k) ?_
  obtain ⟨cl15, Ar15, q15, S15, M15, H15, G15⟩ := id V8
  have hin15 : ¬ ((0 : Int32) < 0 ∨ cl15.slots.size ≤ ((0 : Int32)).toNatClampNeg) := inb_of S15 ⟨by decide, by decide⟩
  obtain ⟨T15, h15, X15, e15, W15, st15⟩ := stJ X12 hx hZ e12 Ar15 (j := (0 : Int32)) hin15 (g := (mkF m 69 #[.val (.ref o), .val (.long x), .second, .val (.int (3 : Int32)), .val (.ref b8), .val (.int (0 : Int32))] [(.long v0), (.int (0 : Int32)), (.ref b8)])) rfl rfl (hb hby d3_69)
  have V15 : Arv Z h15 b8 k8 .long (2 : Int32) [(.long v0), (.long (0 : Int64))] (.long (0 : Int64)) := Arv.set Ar15 q15 S15 M15 H15 G15 rfl W15 0 rfl (Nat.le_of_ble_eq_true rfl)
  have f15_0 := f8_0.wr W15
  have f15_1 := f8_1.other W15 (Or.inl ne8_1)
  have f15_2 := f8_2.other W15 (Or.inl ne8_1)
  have f15_3 := f8_3.other W15 (Or.inl ne8_1)
  have f15_4 := f8_4.other W15 ne8_2
  have K15 : Keep h0 h15 [o] := K8.wr W15 (Or.inr sz_b8)
  have Z15 : n0 ≤ h15.size := Nat.le_trans Z0 K15.1
  have N15 := Fr.snoc X15 N7 g_b8
  refine own_Go.of (g' := (mkF m 70 #[.val (.ref o), .val (.long x), .second, .val (.int (3 : Int32)), .val (.ref b8), .val (.int (0 : Int32))] [])) (fun t k => st15 _ k) ?_
  refine og_iinc (pc' := 73) (L' := #[.val (.ref o), .val (.long x), .second, .val (.int (3 : Int32)), .val (.ref b8), .val (.int ((0 : Int32) + (1 : Int32)))]) X15 hx (hb hby d3_70) rfl rfl rfl ?_
  rw [show ((0 : Int32) + (1 : Int32)) = (1 : Int32) from by decide]
  refine og_goto (pc' := 38) X15 hx (hb hby d3_73) (by decide) (by decide) ?_
  refine og_iload (pc' := 40) X15 hx (hb hby d3_38) rfl rfl ?_
  refine og_aloadN (pc' := 41) X15 hx (hb hby d3_40) rfl rfl rfl ?_
  obtain ⟨T16, X16, e16, st16⟩ := getF X15 hx hZ hown (host := "") (Or.inl (hw _ (List.mem_of_getElem? (i := 18) rfl))) Via.refl e15 f15_3 (g := (mkF m 41 #[.val (.ref o), .val (.long x), .second, .val (.int (3 : Int32)), .val (.ref b8), .val (.int (1 : Int32))] [(.ref o), (.int (1 : Int32))])) rfl rfl (hb hby d3_41)
  refine own_Go.of (g' := (mkF m 44 #[.val (.ref o), .val (.long x), .second, .val (.int (3 : Int32)), .val (.ref b8), .val (.int (1 : Int32))] [(.int (1 : Int32)), (.int (1 : Int32))])) (fun t k => st16 _ k) ?_
  refine og_icmpYes (pc' := 76) X16 hx (hb hby d3_44) (flt (by decide)).2.1 (by decide) (by decide) ?_
  refine og_aloadN (pc' := 77) X16 hx (hb hby d3_76) rfl rfl rfl ?_
  refine og_aload (pc' := 79) X16 hx (hb hby d3_77) rfl rfl rfl ?_
  obtain ⟨T17, h17, X17, e17, W17, st17⟩ := putF X16 hx hZ hown (host := "") (Or.inl (hw _ (List.mem_of_getElem? (i := 11) rfl))) Via.refl e16 f15_1 f15_0 (Or.inl (hw _ (List.mem_of_getElem? (i := 12) rfl))) (hw _ (List.mem_of_getElem? (i := 2) rfl)) (ty := (.array .long)) (by decide) rfl rfl (g := (mkF m 79 #[.val (.ref o), .val (.long x), .second, .val (.int (3 : Int32)), .val (.ref b8), .val (.int (1 : Int32))] [(.ref b8), (.ref o)])) rfl rfl (hb hby d3_79)
  have w17 : Fld Z h17 o "com/example/ostracon/ostracon/LastValues" "values" "[J" (.ref b8) := f15_1.same W17
  have f17_0 := f15_0.wr W17
  have f17_1 := f15_2.other W17 (Or.inr (slot_ne (a0 := a0) (C := "com/example/ostracon/ostracon/LastValues") (Or.inl (hw _ (List.mem_of_getElem? (i := 21) rfl))) (Or.inl (hw _ (List.mem_of_getElem? (i := 12) rfl))) (by decide) (t := .int) (t' := (.array .long)) (by decide) (by decide)))
  have f17_2 := f15_3.other W17 (Or.inr (slot_ne (a0 := a0) (C := "com/example/ostracon/ostracon/LastValues") (Or.inl (hw _ (List.mem_of_getElem? (i := 19) rfl))) (Or.inl (hw _ (List.mem_of_getElem? (i := 12) rfl))) (by decide) (t := .int) (t' := (.array .long)) (by decide) (by decide)))
  have f17_3 := f15_4.other W17 (Ne.symm ne_ob)
  have f17_7 := V15.other W17 (Ne.symm ne8_1)
  have K17 : Keep h0 h17 [o] := K15.wr W17 (Or.inl (List.mem_of_getElem? (i := 0) rfl))
  have Z17 : n0 ≤ h17.size := Nat.le_trans Z0 K17.1
  have N17 := Fr.snoc X17 N15 g_o
  refine own_Go.of (g' := (mkF m 82 #[.val (.ref o), .val (.long x), .second, .val (.int (3 : Int32)), .val (.ref b8), .val (.int (1 : Int32))] [])) (fun t k => st17 _ k) ?_
  refine og_aloadN (pc' := 83) X17 hx (hb hby d3_82) rfl rfl rfl ?_
  refine og_iconst (pc' := 84) (n := 0) X17 hx (hb hby d3_83) rfl rfl ?_
  obtain ⟨T18, h18, X18, e18, W18, st18⟩ := putF X17 hx hZ hown (host := "") (Or.inl (hw _ (List.mem_of_getElem? (i := 20) rfl))) Via.refl e17 f17_1 f17_0 (Or.inl (hw _ (List.mem_of_getElem? (i := 21) rfl))) (hw _ (List.mem_of_getElem? (i := 2) rfl)) (ty := .int) (by decide) rfl rfl (g := (mkF m 84 #[.val (.ref o), .val (.long x), .second, .val (.int (3 : Int32)), .val (.ref b8), .val (.int (1 : Int32))] [(.int (0 : Int32)), (.ref o)])) rfl rfl (hb hby d3_84)
  have w18 : Fld Z h18 o "com/example/ostracon/ostracon/LastValues" "start" "I" (.int (0 : Int32)) := f17_1.same W18
  have f18_0 := f17_0.wr W18
  have f18_1 := f17_2.other W18 (Or.inr (slot_ne (a0 := a0) (C := "com/example/ostracon/ostracon/LastValues") (Or.inl (hw _ (List.mem_of_getElem? (i := 19) rfl))) (Or.inl (hw _ (List.mem_of_getElem? (i := 21) rfl))) (by decide) (t := .int) (t' := .int) (by decide) (by decide)))
  have f18_2 := f17_3.other W18 (Ne.symm ne_ob)
  have f18_6 := f17_7.other W18 (Ne.symm ne8_1)
  have f18_7 := w17.other W18 (Or.inr (slot_ne (a0 := a0) (C := "com/example/ostracon/ostracon/LastValues") (Or.inl (hw _ (List.mem_of_getElem? (i := 12) rfl))) (Or.inl (hw _ (List.mem_of_getElem? (i := 21) rfl))) (by decide) (t := (.array .long)) (t' := .int) (by decide) (by decide)))
  have K18 : Keep h0 h18 [o] := K17.wr W18 (Or.inl (List.mem_of_getElem? (i := 0) rfl))
  have Z18 : n0 ≤ h18.size := Nat.le_trans Z0 K18.1
  have N18 := Fr.snoc X18 N17 g_o
  refine own_Go.of (g' := (mkF m 87 #[.val (.ref o), .val (.long x), .second, .val (.int (3 : Int32)), .val (.ref b8), .val (.int (1 : Int32))] [])) (fun t k => st18 _ k) ?_
  refine og_aloadN (pc' := 88) X18 hx (hb hby d3_87) rfl rfl rfl ?_
  obtain ⟨T19, X19, e19, st19⟩ := getF X18 hx hZ hown (host := "") (Or.inl (hw _ (List.mem_of_getElem? (i := 11) rfl))) Via.refl e18 f18_7 (g := (mkF m 88 #[.val (.ref o), .val (.long x), .second, .val (.int (3 : Int32)), .val (.ref b8), .val (.int (1 : Int32))] [(.ref o)])) rfl rfl (hb hby d3_88)
  refine own_Go.of (g' := (mkF m 91 #[.val (.ref o), .val (.long x), .second, .val (.int (3 : Int32)), .val (.ref b8), .val (.int (1 : Int32))] [(.ref b8)])) (fun t k => st19 _ k) ?_
  refine og_aloadN (pc' := 92) X19 hx (hb hby d3_91) rfl rfl rfl ?_
  obtain ⟨T20, X20, e20, st20⟩ := getF X19 hx hZ hown (host := "") (Or.inl (hw _ (List.mem_of_getElem? (i := 20) rfl))) Via.refl e19 w18 (g := (mkF m 92 #[.val (.ref o), .val (.long x), .second, .val (.int (3 : Int32)), .val (.ref b8), .val (.int (1 : Int32))] [(.ref o), (.ref b8)])) rfl rfl (hb hby d3_92)
  refine own_Go.of (g' := (mkF m 95 #[.val (.ref o), .val (.long x), .second, .val (.int (3 : Int32)), .val (.ref b8), .val (.int (1 : Int32))] [(.int (0 : Int32)), (.ref b8)])) (fun t k => st20 _ k) ?_
  refine og_aloadN (pc' := 96) X20 hx (hb hby d3_95) rfl rfl rfl ?_
  obtain ⟨T21, X21, e21, st21⟩ := getF X20 hx hZ hown (host := "") (Or.inl (hw _ (List.mem_of_getElem? (i := 18) rfl))) Via.refl e20 f18_1 (g := (mkF m 96 #[.val (.ref o), .val (.long x), .second, .val (.int (3 : Int32)), .val (.ref b8), .val (.int (1 : Int32))] [(.ref o), (.int (0 : Int32)), (.ref b8)])) rfl rfl (hb hby d3_96)
  refine own_Go.of (g' := (mkF m 99 #[.val (.ref o), .val (.long x), .second, .val (.int (3 : Int32)), .val (.ref b8), .val (.int (1 : Int32))] [(.int (1 : Int32)), (.int (0 : Int32)), (.ref b8)])) (fun t k => st21 _ k) ?_
  refine og_iadd (pc' := 100) X21 hx (hb hby d3_99) rfl ?_
  rw [show ((0 : Int32) + (1 : Int32)) = (1 : Int32) from by decide]
  refine og_aloadN (pc' := 101) X21 hx (hb hby d3_100) rfl rfl rfl ?_
  obtain ⟨T22, X22, e22, st22⟩ := getF X21 hx hZ hown (host := "") (Or.inl (hw _ (List.mem_of_getElem? (i := 11) rfl))) Via.refl e21 f18_7 (g := (mkF m 101 #[.val (.ref o), .val (.long x), .second, .val (.int (3 : Int32)), .val (.ref b8), .val (.int (1 : Int32))] [(.ref o), (.int (1 : Int32)), (.ref b8)])) rfl rfl (hb hby d3_101)
  refine own_Go.of (g' := (mkF m 104 #[.val (.ref o), .val (.long x), .second, .val (.int (3 : Int32)), .val (.ref b8), .val (.int (1 : Int32))] [(.ref b8), (.int (1 : Int32)), (.ref b8)])) (fun t k => st22 _ k) ?_
  obtain ⟨cl23, Ar23, q23, S23, M23, H23, G23⟩ := id f18_6
  refine own_Go.of (g' := (mkF m 105 #[.val (.ref o), .val (.long x), .second, .val (.int (3 : Int32)), .val (.ref b8), .val (.int (1 : Int32))] [(.int (2 : Int32)), (.int (1 : Int32)), (.ref b8)])) (fun t k => X22.arraylength hx (by rw [e22]; exact Ar23.1) (State.isArrayOf_alike hZ.alike Ar23.2.1) (g := (mkF m 104 #[.val (.ref o), .val (.long x), .second, .val (.int (3 : Int32)), .val (.ref b8), .val (.int (1 : Int32))] [(.ref b8), (.int (1 : Int32)), (.ref b8)])) rfl rfl (hb hby d3_104) _ (by rw [len_of S23 M23]; exact k)) ?_
  refine og_irem (pc' := 106) X22 hx (hb hby d3_105) (by decide) rfl ?_
  rw [show ((1 : Int32) % (2 : Int32)) = (1 : Int32) from by decide]
  refine og_lloadN (pc' := 107) X22 hx (hb hby d3_106) rfl rfl ?_
  obtain ⟨cl24, Ar24, q24, S24, M24, H24, G24⟩ := id f18_6
  have hin24 : ¬ ((1 : Int32) < 0 ∨ cl24.slots.size ≤ ((1 : Int32)).toNatClampNeg) := inb_of S24 ⟨by decide, by decide⟩
  obtain ⟨T24, h24, X24, e24, W24, st24⟩ := stJ X22 hx hZ e22 Ar24 (j := (1 : Int32)) hin24 (g := (mkF m 107 #[.val (.ref o), .val (.long x), .second, .val (.int (3 : Int32)), .val (.ref b8), .val (.int (1 : Int32))] [(.long x), (.int (1 : Int32)), (.ref b8)])) rfl rfl (hb hby d3_107)
  have V24 : Arv Z h24 b8 k8 .long (2 : Int32) [(.long v0), (.long x)] (.long (0 : Int64)) := Arv.set Ar24 q24 S24 M24 H24 G24 rfl W24 1 rfl (Nat.le_of_ble_eq_true rfl)
  have f24_0 := f18_0.wr W24
  have f24_1 := f18_1.other W24 (Or.inl ne8_1)
  have f24_2 := f18_2.other W24 ne8_2
  have f24_6 := f18_7.other W24 (Or.inl ne8_1)
  have f24_7 := w18.other W24 (Or.inl ne8_1)
  have K24 : Keep h0 h24 [o] := K18.wr W24 (Or.inr sz_b8)
  have Z24 : n0 ≤ h24.size := Nat.le_trans Z0 K24.1
  have N24 := Fr.snoc X24 N18 g_b8
  refine own_Go.of (g' := (mkF m 108 #[.val (.ref o), .val (.long x), .second, .val (.int (3 : Int32)), .val (.ref b8), .val (.int (1 : Int32))] [])) (fun t k => st24 _ k) ?_
  refine og_aloadN (pc' := 109) X24 hx (hb hby d3_108) rfl rfl rfl ?_
  refine og_dup (pc' := 110) X24 hx (hb hby d3_109) rfl rfl ?_
  obtain ⟨T25, X25, e25, st25⟩ := getF X24 hx hZ hown (host := "") (Or.inl (hw _ (List.mem_of_getElem? (i := 18) rfl))) Via.refl e24 f24_1 (g := (mkF m 110 #[.val (.ref o), .val (.long x), .second, .val (.int (3 : Int32)), .val (.ref b8), .val (.int (1 : Int32))] [(.ref o), (.ref o)])) rfl rfl (hb hby d3_110)
  refine own_Go.of (g' := (mkF m 113 #[.val (.ref o), .val (.long x), .second, .val (.int (3 : Int32)), .val (.ref b8), .val (.int (1 : Int32))] [(.int (1 : Int32)), (.ref o)])) (fun t k => st25 _ k) ?_
  refine og_iconst (pc' := 114) (n := 1) X25 hx (hb hby d3_113) rfl rfl ?_
  refine og_iadd (pc' := 115) X25 hx (hb hby d3_114) rfl ?_
  rw [show ((1 : Int32) + (1 : Int32)) = (2 : Int32) from by decide]
  obtain ⟨T26, h26, X26, e26, W26, st26⟩ := putF X25 hx hZ hown (host := "") (Or.inl (hw _ (List.mem_of_getElem? (i := 18) rfl))) Via.refl e25 f24_1 f24_0 (Or.inl (hw _ (List.mem_of_getElem? (i := 19) rfl))) (hw _ (List.mem_of_getElem? (i := 2) rfl)) (ty := .int) (by decide) rfl rfl (g := (mkF m 115 #[.val (.ref o), .val (.long x), .second, .val (.int (3 : Int32)), .val (.ref b8), .val (.int (1 : Int32))] [(.int (2 : Int32)), (.ref o)])) rfl rfl (hb hby d3_115)
  have w26 : Fld Z h26 o "com/example/ostracon/ostracon/LastValues" "count" "I" (.int (2 : Int32)) := f24_1.same W26
  have f26_0 := f24_0.wr W26
  have f26_1 := f24_2.other W26 (Ne.symm ne_ob)
  have f26_5 := f24_6.other W26 (Or.inr (slot_ne (a0 := a0) (C := "com/example/ostracon/ostracon/LastValues") (Or.inl (hw _ (List.mem_of_getElem? (i := 12) rfl))) (Or.inl (hw _ (List.mem_of_getElem? (i := 19) rfl))) (by decide) (t := (.array .long)) (t' := .int) (by decide) (by decide)))
  have f26_6 := f24_7.other W26 (Or.inr (slot_ne (a0 := a0) (C := "com/example/ostracon/ostracon/LastValues") (Or.inl (hw _ (List.mem_of_getElem? (i := 21) rfl))) (Or.inl (hw _ (List.mem_of_getElem? (i := 19) rfl))) (by decide) (t := .int) (t' := .int) (by decide) (by decide)))
  have f26_7 := V24.other W26 (Ne.symm ne8_1)
  have K26 : Keep h0 h26 [o] := K24.wr W26 (Or.inl (List.mem_of_getElem? (i := 0) rfl))
  have Z26 : n0 ≤ h26.size := Nat.le_trans Z0 K26.1
  have N26 := Fr.snoc X26 N24 g_o
  refine own_Go.of (g' := (mkF m 118 #[.val (.ref o), .val (.long x), .second, .val (.int (3 : Int32)), .val (.ref b8), .val (.int (1 : Int32))] [])) (fun t k => st26 _ k) ?_
  refine og_ldc2_w (pc' := 121) X26 hx (hb hby d3_118) hown (mvT hZ (hw _ (List.mem_of_getElem? (i := 22) rfl))) rfl ?_
  obtain ⟨fs, hr, hrun, hended, hW, hsame⟩ := X26.leave (v := some (.long (-1 : Int64))) (fun h => by rw [Bd.returns] at h; cases h) (BodyLoose.notSynchronized Bd)
  refine ⟨_, _, retL X26 hx Bd.returns (hb hby d3_121) hr, hrun, hended, some (.long (-1 : Int64)), _, rfl, ?_, ⟨_, rfl⟩, hW, hsame.mono (by decide) (by decide)⟩
  show Qadd3_101 Z o x b k v0 h0 n0 _ T26.heap _
  rw [e26]
  exact ⟨b8, k8, rfl, N26, K26, sz_b8, f26_0, f26_5, f26_6, w26, f26_7⟩

theorem pnadd3_202 : plainName "com/example/ostracon/ostracon/LastValues" = true := by first | (simp [plainName, overriddenIn]; done) | decide +kernel
theorem efadd3_202 (m : MethodId) (z0 : Addr) (z1 : Int64) : entryFrame m #[(.ref z0), (.long z1), (.int (3 : Int32))] 6 = mkF m 0 #[.val (.ref z0), .val (.long z1), .second, .val (.int (3 : Int32)), .unset, .unset] [] := by first | (simp [entryFrame, mkF, argsToLocals, Value.category]; done) | rfl
def Qadd3_202 (Z : State) (o : Addr) (x : Int64) (b : Addr) (k : ClassId) (v0 : Int64) (v1 : Int64) (h0 : Heap) (n0 : Nat) (v : Option Value) (h : Heap) (L : List Loc) : Prop := ∃ (b2 : Addr) (k2 : ClassId), v = some (.long (-1 : Int64)) ∧ Fr n0 L ∧ Keep h0 h [o] ∧ h0.size ≤ b2 ∧ Exa Z h o "com/example/ostracon/ostracon/LastValues" ∧ Fld Z h o "com/example/ostracon/ostracon/LastValues" "values" "[J" (.ref b2) ∧ Fld Z h o "com/example/ostracon/ostracon/LastValues" "start" "I" (.int (0 : Int32)) ∧ Fld Z h o "com/example/ostracon/ostracon/LastValues" "count" "I" (.int (3 : Int32)) ∧ Arv Z h b2 k2 .long (3 : Int32) [(.long v0), (.long v1), (.long x)] (.long (0 : Int64))
set_option maxRecDepth 65536 in
set_option maxHeartbeats 40000000 in
theorem rmadd3_202 (l : Launch) (Z : State) (a0 : Array Value) (hw : ∀ d ∈ tables_1, d.before a0 Z = true) (ws : List Jvm.Cond) (o : Addr) (x : Int64) (b : Addr) (k : ClassId) (v0 : Int64) (v1 : Int64) (h0 : Heap) (n0 : Nat) (Z0 : n0 ≤ h0.size) (E_o : Exa Z h0 o "com/example/ostracon/ostracon/LastValues") (F1_o : Fld Z h0 o "com/example/ostracon/ostracon/LastValues" "values" "[J" (.ref b)) (F2_o : Fld Z h0 o "com/example/ostracon/ostracon/LastValues" "start" "I" (.int (0 : Int32))) (F3_o : Fld Z h0 o "com/example/ostracon/ostracon/LastValues" "count" "I" (.int (2 : Int32))) (V_b : Arv Z h0 b k .long (2 : Int32) [(.long v0), (.long v1)] (.long (0 : Int64))) (g_o : n0 ≤ o) (g_b : n0 ≤ b) (ne_ob : o ≠ b) :
    MetFree l (⟨"com/example/ostracon/ostracon/LastValues", "add", "(JI)J"⟩ : MethodName) (head1 (Jvm.Cond.code (⟨"com/example/ostracon/ostracon/LastValues", "add", "(JI)J"⟩ : MethodName) prog_19_method_2_code 6 (some .long) :: ws) ({ frames := 1, cells := 1, slots := 3, locals := 13 } : Room)) (fun a U => a = #[(.ref o), (.long x), (.int (3 : Int32))] ∧ Z.Warmed39 U.vm ∧ U.heap = h0) (fun _ _ _ _ _ => True) (fun _ U oc U' => ∃ v L, oc = .returned v ∧ Qadd3_202 Z o x b k v0 v1 h0 n0 v U'.heap L ∧ FrameEnd U oc U' L ({ frames := 1, cells := 1, slots := 3, locals := 13 } : Room).cells ({ frames := 1, cells := 1, slots := 3, locals := 13 } : Room).slots) := by
  refine MetFree.of_bodySF (plainFor_of_name pnadd3_202) hisR ?_
  intro p e s m args below meth c s₁ Bd hml0 hP hK
  obtain ⟨rfl, hZ, hh⟩ := hP
  have hx := Bd.exec
  have hby := Bd.bytes
  have hml : c.maxLocals = 6 := hml0
  have hown : s.vm.findClass "com/example/ostracon/ostracon/LastValues" = some m.cls := findClass_of_methodNamed Bd.named
  have hnm := (name_of_methodNamed Bd.named Bd.method).1
  have X0 : Stand p l e ({ frames := 1, cells := 1, slots := 3, locals := 13 } : Room) s m #[(.ref o), (.long x), (.int (3 : Int32))] below meth c s₁ [] 0 0 := Stand.of_body Bd
  have e0 : s₁.heap = h0 := by rw [← hh, Bd.state]; rfl
  have N0 := Fr.nil n0
  show own_Go p e below (fun s₂ oc => ∃ v L, oc = .returned v ∧ Qadd3_202 Z o x b k v0 v1 h0 n0 v s₂.heap L ∧ FrameEnd s oc s₂ L ({ frames := 1, cells := 1, slots := 3, locals := 13 } : Room).cells ({ frames := 1, cells := 1, slots := 3, locals := 13 } : Room).slots) s₁ (entryFrame m #[(.ref o), (.long x), (.int (3 : Int32))] 6)
  refine own_Go.of (g' := mkF m 0 #[.val (.ref o), .val (.long x), .second, .val (.int (3 : Int32)), .unset, .unset] []) (fun t k => castTop (efadd3_202 m o x) k) ?_
  refine og_aloadN (pc' := 1) X0 hx (hb hby d3_0) rfl rfl rfl ?_
  obtain ⟨T1, X1, e1, st1⟩ := getF X0 hx hZ hown (host := "") (Or.inl (hw _ (List.mem_of_getElem? (i := 18) rfl))) Via.refl e0 F3_o (g := (mkF m 1 #[.val (.ref o), .val (.long x), .second, .val (.int (3 : Int32)), .unset, .unset] [(.ref o)])) rfl rfl (hb hby d3_1)
  refine own_Go.of (g' := (mkF m 4 #[.val (.ref o), .val (.long x), .second, .val (.int (3 : Int32)), .unset, .unset] [(.int (2 : Int32))])) (fun t k => st1 _ k) ?_
  refine og_iloadN (pc' := 5) X1 hx (hb hby d3_4) rfl rfl ?_
  refine og_icmpNo (pc' := 8) X1 hx (hb hby d3_5) (tlt (by decide)).2.1 rfl ?_
  refine og_aloadN (pc' := 9) X1 hx (hb hby d3_8) rfl rfl rfl ?_
  obtain ⟨T2, X2, e2, st2⟩ := getF X1 hx hZ hown (host := "") (Or.inl (hw _ (List.mem_of_getElem? (i := 18) rfl))) Via.refl e1 F3_o (g := (mkF m 9 #[.val (.ref o), .val (.long x), .second, .val (.int (3 : Int32)), .unset, .unset] [(.ref o)])) rfl rfl (hb hby d3_9)
  refine own_Go.of (g' := (mkF m 12 #[.val (.ref o), .val (.long x), .second, .val (.int (3 : Int32)), .unset, .unset] [(.int (2 : Int32))])) (fun t k => st2 _ k) ?_
  refine og_aloadN (pc' := 13) X2 hx (hb hby d3_12) rfl rfl rfl ?_
  obtain ⟨T3, X3, e3, st3⟩ := getF X2 hx hZ hown (host := "") (Or.inl (hw _ (List.mem_of_getElem? (i := 11) rfl))) Via.refl e2 F1_o (g := (mkF m 13 #[.val (.ref o), .val (.long x), .second, .val (.int (3 : Int32)), .unset, .unset] [(.ref o), (.int (2 : Int32))])) rfl rfl (hb hby d3_13)
  refine own_Go.of (g' := (mkF m 16 #[.val (.ref o), .val (.long x), .second, .val (.int (3 : Int32)), .unset, .unset] [(.ref b), (.int (2 : Int32))])) (fun t k => st3 _ k) ?_
  obtain ⟨cl4, Ar4, q4, S4, M4, H4, G4⟩ := id V_b
  refine own_Go.of (g' := (mkF m 17 #[.val (.ref o), .val (.long x), .second, .val (.int (3 : Int32)), .unset, .unset] [(.int (2 : Int32)), (.int (2 : Int32))])) (fun t k => X3.arraylength hx (by rw [e3]; exact Ar4.1) (State.isArrayOf_alike hZ.alike Ar4.2.1) (g := (mkF m 16 #[.val (.ref o), .val (.long x), .second, .val (.int (3 : Int32)), .unset, .unset] [(.ref b), (.int (2 : Int32))])) rfl rfl (hb hby d3_16) _ (by rw [len_of S4 M4]; exact k)) ?_
  refine og_icmpNo (pc' := 20) X3 hx (hb hby d3_17) (teq (by decide)).2 rfl ?_
  refine og_iconst (pc' := 21) (n := 2) X3 hx (hb hby d3_20) rfl rfl ?_
  refine og_aloadN (pc' := 22) X3 hx (hb hby d3_21) rfl rfl rfl ?_
  obtain ⟨T5, X5, e5, st5⟩ := getF X3 hx hZ hown (host := "") (Or.inl (hw _ (List.mem_of_getElem? (i := 11) rfl))) Via.refl e3 F1_o (g := (mkF m 22 #[.val (.ref o), .val (.long x), .second, .val (.int (3 : Int32)), .unset, .unset] [(.ref o), (.int (2 : Int32))])) rfl rfl (hb hby d3_22)
  refine own_Go.of (g' := (mkF m 25 #[.val (.ref o), .val (.long x), .second, .val (.int (3 : Int32)), .unset, .unset] [(.ref b), (.int (2 : Int32))])) (fun t k => st5 _ k) ?_
  obtain ⟨cl6, Ar6, q6, S6, M6, H6, G6⟩ := id V_b
  refine own_Go.of (g' := (mkF m 26 #[.val (.ref o), .val (.long x), .second, .val (.int (3 : Int32)), .unset, .unset] [(.int (2 : Int32)), (.int (2 : Int32))])) (fun t k => X5.arraylength hx (by rw [e5]; exact Ar6.1) (State.isArrayOf_alike hZ.alike Ar6.2.1) (g := (mkF m 25 #[.val (.ref o), .val (.long x), .second, .val (.int (3 : Int32)), .unset, .unset] [(.ref b), (.int (2 : Int32))])) rfl rfl (hb hby d3_25) _ (by rw [len_of S6 M6]; exact k)) ?_
  refine og_imul (pc' := 27) X5 hx (hb hby d3_26) rfl ?_
  rw [show ((2 : Int32) * (2 : Int32)) = (4 : Int32) from by decide]
  refine og_iloadN (pc' := 28) X5 hx (hb hby d3_27) rfl rfl ?_
  obtain ⟨_, _, ⟨T7, L7, k7, n7⟩, -, X7, ⟨Lc7, hQ7, l7, y7, z7⟩, st7⟩ := Jvm.LawKit.callS X5 hx (y := (⟨"java/lang/Math", "min", "(II)I"⟩ : MethodName)) hown (mvT hZ (hw _ (List.mem_of_getElem? (i := 28) rfl))) (mvT hZ (hw _ (List.mem_of_getElem? (i := 29) rfl))) (mvT hZ (hw _ (List.mem_of_getElem? (i := 30) rfl))) (mvT hZ (hw _ (List.mem_of_getElem? (i := 31) rfl))) (by decide) (backOf (W := 0) (rmmn l Z a0 hw [] (4 : Int32) (3 : Int32) h0 n0 Z0 ) hZ (hw _ (List.mem_of_getElem? (i := 31) rfl)) (hw _ (List.mem_of_getElem? (i := 30) rfl)) (by decide) (by decide)) (g := (mkF m 28 #[.val (.ref o), .val (.long x), .second, .val (.int (3 : Int32)), .unset, .unset] [(.int (3 : Int32)), (.int (4 : Int32))])) rfl (by rw [hml]; rfl) (argsL := [(.int (4 : Int32)), (.int (3 : Int32))]) (rest := []) (lenOf pd_0 rfl) rfl (by show 2 * 0 + _ ≤ _; exact Nat.le_of_eq rfl) (hb hby d3_28) (fun _ _ => ⟨rfl, e5, (by decide : 0 + 0 ≤ _), (by decide : 0 + 0 ≤ _)⟩)
  dsimp only [Pt.U, Pt.locs, Pt.cells, Pt.slots] at X7 l7 y7 z7 st7 hQ7
  subst l7 y7 z7
  obtain ⟨rfl, N7q, e7⟩ := hQ7
  have N7 := Fr.app N0 N7q
  refine own_Go.of (g' := (mkF m 31 #[.val (.ref o), .val (.long x), .second, .val (.int (3 : Int32)), .unset, .unset] [(.int (own_min (4 : Int32) (3 : Int32)))])) (fun t k => st7 _ k) ?_
  rw [show (own_min (4 : Int32) (3 : Int32)) = (3 : Int32) from by decide]
  obtain ⟨T8, h8, k8, X8, e8, E8, A8, st8⟩ := newP X7 hx hZ (hw _ (List.mem_of_getElem? (i := 10) rfl)) e7 (g := (mkF m 31 #[.val (.ref o), .val (.long x), .second, .val (.int (3 : Int32)), .unset, .unset] [(.int (3 : Int32))])) rfl (hb hby d3_31) rfl (by decide) (cap := 3) (by decide) (by decide) (by decide) (by decide)
  obtain ⟨b8, g8⟩ : ∃ z, z = h0.size := ⟨_, rfl⟩
  rw [← g8] at A8 st8
  have ne8_1 : o ≠ b8 := Nat.ne_of_lt (Nat.lt_of_lt_of_le E_o.lt (Nat.le_of_eq g8.symm))
  have ne8_2 : b ≠ b8 := Nat.ne_of_lt (Nat.lt_of_lt_of_le V_b.lt (Nat.le_of_eq g8.symm))
  have g_b8 : n0 ≤ b8 := Nat.le_trans Z0 (Nat.le_of_eq g8.symm)
  have sz_b8 : h0.size ≤ b8 := Nat.le_trans (Keep.refl h0 [o]).1 (Nat.le_of_eq g8.symm)
  have f8_0 := E_o.ext E8
  have f8_1 := F1_o.ext E8
  have f8_2 := F2_o.ext E8
  have f8_3 := F3_o.ext E8
  have f8_4 := V_b.ext E8
  have V8 : Arv Z h8 b8 k8 .long (3 : Int32) [(.long (0 : Int64)), (.long (0 : Int64)), (.long (0 : Int64))] (.long (0 : Int64)) := (Arv.new A8 (by decide)).pad (pad_rep [] (.long (0 : Int64)) 3)
  have K8 : Keep h0 h8 [o] := (Keep.refl h0 [o]).ext E8
  have Z8 : n0 ≤ h8.size := Nat.le_trans Z0 K8.1
  refine own_Go.of (g' := (mkF m 33 #[.val (.ref o), .val (.long x), .second, .val (.int (3 : Int32)), .unset, .unset] [(.ref b8)])) (fun t k => st8 _ k) ?_
  refine og_astore (pc' := 35) (L' := #[.val (.ref o), .val (.long x), .second, .val (.int (3 : Int32)), .val (.ref b8), .unset]) X8 hx (hb hby d3_33) rfl rfl rfl ?_
  refine og_iconst (pc' := 36) (n := 0) X8 hx (hb hby d3_35) rfl rfl ?_
  refine og_istore (pc' := 38) (L' := #[.val (.ref o), .val (.long x), .second, .val (.int (3 : Int32)), .val (.ref b8), .val (.int (0 : Int32))]) X8 hx (hb hby d3_36) rfl rfl ?_
  refine og_iload (pc' := 40) X8 hx (hb hby d3_38) rfl rfl ?_
  refine og_aloadN (pc' := 41) X8 hx (hb hby d3_40) rfl rfl rfl ?_
  obtain ⟨T9, X9, e9, st9⟩ := getF X8 hx hZ hown (host := "") (Or.inl (hw _ (List.mem_of_getElem? (i := 18) rfl))) Via.refl e8 f8_3 (g := (mkF m 41 #[.val (.ref o), .val (.long x), .second, .val (.int (3 : Int32)), .val (.ref b8), .val (.int (0 : Int32))] [(.ref o), (.int (0 : Int32))])) rfl rfl (hb hby d3_41)
  refine own_Go.of (g' := (mkF m 44 #[.val (.ref o), .val (.long x), .second, .val (.int (3 : Int32)), .val (.ref b8), .val (.int (0 : Int32))] [(.int (2 : Int32)), (.int (0 : Int32))])) (fun t k => st9 _ k) ?_
  refine og_icmpNo (pc' := 47) X9 hx (hb hby d3_44) (tlt (by decide)).2.1 rfl ?_
  refine og_aload (pc' := 49) X9 hx (hb hby d3_47) rfl rfl rfl ?_
  refine og_iload (pc' := 51) X9 hx (hb hby d3_49) rfl rfl ?_
  refine og_aloadN (pc' := 52) X9 hx (hb hby d3_51) rfl rfl rfl ?_
  obtain ⟨T10, X10, e10, st10⟩ := getF X9 hx hZ hown (host := "") (Or.inl (hw _ (List.mem_of_getElem? (i := 11) rfl))) Via.refl e9 f8_1 (g := (mkF m 52 #[.val (.ref o), .val (.long x), .second, .val (.int (3 : Int32)), .val (.ref b8), .val (.int (0 : Int32))] [(.ref o), (.int (0 : Int32)), (.ref b8)])) rfl rfl (hb hby d3_52)
  refine own_Go.of (g' := (mkF m 55 #[.val (.ref o), .val (.long x), .second, .val (.int (3 : Int32)), .val (.ref b8), .val (.int (0 : Int32))] [(.ref b), (.int (0 : Int32)), (.ref b8)])) (fun t k => st10 _ k) ?_
  refine og_aloadN (pc' := 56) X10 hx (hb hby d3_55) rfl rfl rfl ?_
  obtain ⟨T11, X11, e11, st11⟩ := getF X10 hx hZ hown (host := "") (Or.inl (hw _ (List.mem_of_getElem? (i := 20) rfl))) Via.refl e10 f8_2 (g := (mkF m 56 #[.val (.ref o), .val (.long x), .second, .val (.int (3 : Int32)), .val (.ref b8), .val (.int (0 : Int32))] [(.ref o), (.ref b), (.int (0 : Int32)), (.ref b8)])) rfl rfl (hb hby d3_56)
  refine own_Go.of (g' := (mkF m 59 #[.val (.ref o), .val (.long x), .second, .val (.int (3 : Int32)), .val (.ref b8), .val (.int (0 : Int32))] [(.int (0 : Int32)), (.ref b), (.int (0 : Int32)), (.ref b8)])) (fun t k => st11 _ k) ?_
  refine og_iload (pc' := 61) X11 hx (hb hby d3_59) rfl rfl ?_
  refine og_iadd (pc' := 62) X11 hx (hb hby d3_61) rfl ?_
  rw [show ((0 : Int32) + (0 : Int32)) = (0 : Int32) from by decide]
  refine og_aloadN (pc' := 63) X11 hx (hb hby d3_62) rfl rfl rfl ?_
  obtain ⟨T12, X12, e12, st12⟩ := getF X11 hx hZ hown (host := "") (Or.inl (hw _ (List.mem_of_getElem? (i := 11) rfl))) Via.refl e11 f8_1 (g := (mkF m 63 #[.val (.ref o), .val (.long x), .second, .val (.int (3 : Int32)), .val (.ref b8), .val (.int (0 : Int32))] [(.ref o), (.int (0 : Int32)), (.ref b), (.int (0 : Int32)), (.ref b8)])) rfl rfl (hb hby d3_63)
  refine own_Go.of (g' := (mkF m 66 #[.val (.ref o), .val (.long x), .second, .val (.int (3 : Int32)), .val (.ref b8), .val (.int (0 : Int32))] [(.ref b), (.int (0 : Int32)), (.ref b), (.int (0 : Int32)), (.ref b8)])) (fun t k => st12 _ k) ?_
  obtain ⟨cl13, Ar13, q13, S13, M13, H13, G13⟩ := id f8_4
  refine own_Go.of (g' := (mkF m 67 #[.val (.ref o), .val (.long x), .second, .val (.int (3 : Int32)), .val (.ref b8), .val (.int (0 : Int32))] [(.int (2 : Int32)), (.int (0 : Int32)), (.ref b), (.int (0 : Int32)), (.ref b8)])) (fun t k => X12.arraylength hx (by rw [e12]; exact Ar13.1) (State.isArrayOf_alike hZ.alike Ar13.2.1) (g := (mkF m 66 #[.val (.ref o), .val (.long x), .second, .val (.int (3 : Int32)), .val (.ref b8), .val (.int (0 : Int32))] [(.ref b), (.int (0 : Int32)), (.ref b), (.int (0 : Int32)), (.ref b8)])) rfl rfl (hb hby d3_66) _ (by rw [len_of S13 M13]; exact k)) ?_
  refine og_irem (pc' := 68) X12 hx (hb hby d3_67) (by decide) rfl ?_
  rw [show ((0 : Int32) % (2 : Int32)) = (0 : Int32) from by decide]
  obtain ⟨cl14, Ar14, q14, S14, M14, H14, G14⟩ := id f8_4
  have hin14 : ¬ ((0 : Int32) < 0 ∨ cl14.slots.size ≤ ((0 : Int32)).toNatClampNeg) := inb_of S14 ⟨by decide, by decide⟩
  have hat14 : cl14.slots[((0 : Int32)).toNatClampNeg]? = some (.long v0) := Has.at H14 hin14 rfl
  refine own_Go.of (g' := (mkF m 69 #[.val (.ref o), .val (.long x), .second, .val (.int (3 : Int32)), .val (.ref b8), .val (.int (0 : Int32))] [(.long v0), (.int (0 : Int32)), (.ref b8)])) (fun t k => X12.laload hx (j := (0 : Int32)) (v := (.long v0)) (by rw [e12]; exact Ar14.1) (State.isArrayOf_alike hZ.alike Ar14.2.1) Ar14.2.2 hin14 hat14 (g := (mkF m 68 #[.val (.ref o), .val (.long x), .second, .val (.int (3 : Int32)), .val (.ref b8), .val (.int (0 : Int32))] [(.int (0 : Int32)), (.ref b), (.int (0 : Int32)), (.ref b8)])) rfl rfl (hb hby d3_68) _ k) ?_
  obtain ⟨cl15, Ar15, q15, S15, M15, H15, G15⟩ := id V8
  have hin15 : ¬ ((0 : Int32) < 0 ∨ cl15.slots.size ≤ ((0 : Int32)).toNatClampNeg) := inb_of S15 ⟨by decide, by decide⟩
  obtain ⟨T15, h15, X15, e15, W15, st15⟩ := stJ X12 hx hZ e12 Ar15 (j := (0 : Int32)) hin15 (g := (mkF m 69 #[.val (.ref o), .val (.long x), .second, .val (.int (3 : Int32)), .val (.ref b8), .val (.int (0 : Int32))] [(.long v0), (.int (0 : Int32)), (.ref b8)])) rfl rfl (hb hby d3_69)
  have V15 : Arv Z h15 b8 k8 .long (3 : Int32) [(.long v0), (.long (0 : Int64)), (.long (0 : Int64))] (.long (0 : Int64)) := Arv.set Ar15 q15 S15 M15 H15 G15 rfl W15 0 rfl (Nat.le_of_ble_eq_true rfl)
  have f15_0 := f8_0.wr W15
  have f15_1 := f8_1.other W15 (Or.inl ne8_1)
  have f15_2 := f8_2.other W15 (Or.inl ne8_1)
  have f15_3 := f8_3.other W15 (Or.inl ne8_1)
  have f15_4 := f8_4.other W15 ne8_2
  have K15 : Keep h0 h15 [o] := K8.wr W15 (Or.inr sz_b8)
  have Z15 : n0 ≤ h15.size := Nat.le_trans Z0 K15.1
  have N15 := Fr.snoc X15 N7 g_b8
  refine own_Go.of (g' := (mkF m 70 #[.val (.ref o), .val (.long x), .second, .val (.int (3 : Int32)), .val (.ref b8), .val (.int (0 : Int32))] [])) (fun t k => st15 _ k) ?_
  refine og_iinc (pc' := 73) (L' := #[.val (.ref o), .val (.long x), .second, .val (.int (3 : Int32)), .val (.ref b8), .val (.int ((0 : Int32) + (1 : Int32)))]) X15 hx (hb hby d3_70) rfl rfl rfl ?_
  rw [show ((0 : Int32) + (1 : Int32)) = (1 : Int32) from by decide]
  refine og_goto (pc' := 38) X15 hx (hb hby d3_73) (by decide) (by decide) ?_
  refine og_iload (pc' := 40) X15 hx (hb hby d3_38) rfl rfl ?_
  refine og_aloadN (pc' := 41) X15 hx (hb hby d3_40) rfl rfl rfl ?_
  obtain ⟨T16, X16, e16, st16⟩ := getF X15 hx hZ hown (host := "") (Or.inl (hw _ (List.mem_of_getElem? (i := 18) rfl))) Via.refl e15 f15_3 (g := (mkF m 41 #[.val (.ref o), .val (.long x), .second, .val (.int (3 : Int32)), .val (.ref b8), .val (.int (1 : Int32))] [(.ref o), (.int (1 : Int32))])) rfl rfl (hb hby d3_41)
  refine own_Go.of (g' := (mkF m 44 #[.val (.ref o), .val (.long x), .second, .val (.int (3 : Int32)), .val (.ref b8), .val (.int (1 : Int32))] [(.int (2 : Int32)), (.int (1 : Int32))])) (fun t k => st16 _ k) ?_
  refine og_icmpNo (pc' := 47) X16 hx (hb hby d3_44) (tlt (by decide)).2.1 rfl ?_
  refine og_aload (pc' := 49) X16 hx (hb hby d3_47) rfl rfl rfl ?_
  refine og_iload (pc' := 51) X16 hx (hb hby d3_49) rfl rfl ?_
  refine og_aloadN (pc' := 52) X16 hx (hb hby d3_51) rfl rfl rfl ?_
  obtain ⟨T17, X17, e17, st17⟩ := getF X16 hx hZ hown (host := "") (Or.inl (hw _ (List.mem_of_getElem? (i := 11) rfl))) Via.refl e16 f15_1 (g := (mkF m 52 #[.val (.ref o), .val (.long x), .second, .val (.int (3 : Int32)), .val (.ref b8), .val (.int (1 : Int32))] [(.ref o), (.int (1 : Int32)), (.ref b8)])) rfl rfl (hb hby d3_52)
  refine own_Go.of (g' := (mkF m 55 #[.val (.ref o), .val (.long x), .second, .val (.int (3 : Int32)), .val (.ref b8), .val (.int (1 : Int32))] [(.ref b), (.int (1 : Int32)), (.ref b8)])) (fun t k => st17 _ k) ?_
  refine og_aloadN (pc' := 56) X17 hx (hb hby d3_55) rfl rfl rfl ?_
  obtain ⟨T18, X18, e18, st18⟩ := getF X17 hx hZ hown (host := "") (Or.inl (hw _ (List.mem_of_getElem? (i := 20) rfl))) Via.refl e17 f15_2 (g := (mkF m 56 #[.val (.ref o), .val (.long x), .second, .val (.int (3 : Int32)), .val (.ref b8), .val (.int (1 : Int32))] [(.ref o), (.ref b), (.int (1 : Int32)), (.ref b8)])) rfl rfl (hb hby d3_56)
  refine own_Go.of (g' := (mkF m 59 #[.val (.ref o), .val (.long x), .second, .val (.int (3 : Int32)), .val (.ref b8), .val (.int (1 : Int32))] [(.int (0 : Int32)), (.ref b), (.int (1 : Int32)), (.ref b8)])) (fun t k => st18 _ k) ?_
  refine og_iload (pc' := 61) X18 hx (hb hby d3_59) rfl rfl ?_
  refine og_iadd (pc' := 62) X18 hx (hb hby d3_61) rfl ?_
  rw [show ((0 : Int32) + (1 : Int32)) = (1 : Int32) from by decide]
  refine og_aloadN (pc' := 63) X18 hx (hb hby d3_62) rfl rfl rfl ?_
  obtain ⟨T19, X19, e19, st19⟩ := getF X18 hx hZ hown (host := "") (Or.inl (hw _ (List.mem_of_getElem? (i := 11) rfl))) Via.refl e18 f15_1 (g := (mkF m 63 #[.val (.ref o), .val (.long x), .second, .val (.int (3 : Int32)), .val (.ref b8), .val (.int (1 : Int32))] [(.ref o), (.int (1 : Int32)), (.ref b), (.int (1 : Int32)), (.ref b8)])) rfl rfl (hb hby d3_63)
  refine own_Go.of (g' := (mkF m 66 #[.val (.ref o), .val (.long x), .second, .val (.int (3 : Int32)), .val (.ref b8), .val (.int (1 : Int32))] [(.ref b), (.int (1 : Int32)), (.ref b), (.int (1 : Int32)), (.ref b8)])) (fun t k => st19 _ k) ?_
  obtain ⟨cl20, Ar20, q20, S20, M20, H20, G20⟩ := id f15_4
  refine own_Go.of (g' := (mkF m 67 #[.val (.ref o), .val (.long x), .second, .val (.int (3 : Int32)), .val (.ref b8), .val (.int (1 : Int32))] [(.int (2 : Int32)), (.int (1 : Int32)), (.ref b), (.int (1 : Int32)), (.ref b8)])) (fun t k => X19.arraylength hx (by rw [e19]; exact Ar20.1) (State.isArrayOf_alike hZ.alike Ar20.2.1) (g := (mkF m 66 #[.val (.ref o), .val (.long x), .second, .val (.int (3 : Int32)), .val (.ref b8), .val (.int (1 : Int32))] [(.ref b), (.int (1 : Int32)), (.ref b), (.int (1 : Int32)), (.ref b8)])) rfl rfl (hb hby d3_66) _ (by rw [len_of S20 M20]; exact k)) ?_
  refine og_irem (pc' := 68) X19 hx (hb hby d3_67) (by decide) rfl ?_
  rw [show ((1 : Int32) % (2 : Int32)) = (1 : Int32) from by decide]
  obtain ⟨cl21, Ar21, q21, S21, M21, H21, G21⟩ := id f15_4
  have hin21 : ¬ ((1 : Int32) < 0 ∨ cl21.slots.size ≤ ((1 : Int32)).toNatClampNeg) := inb_of S21 ⟨by decide, by decide⟩
  have hat21 : cl21.slots[((1 : Int32)).toNatClampNeg]? = some (.long v1) := Has.at H21 hin21 rfl
  refine own_Go.of (g' := (mkF m 69 #[.val (.ref o), .val (.long x), .second, .val (.int (3 : Int32)), .val (.ref b8), .val (.int (1 : Int32))] [(.long v1), (.int (1 : Int32)), (.ref b8)])) (fun t k => X19.laload hx (j := (1 : Int32)) (v := (.long v1)) (by rw [e19]; exact Ar21.1) (State.isArrayOf_alike hZ.alike Ar21.2.1) Ar21.2.2 hin21 hat21 (g := (mkF m 68 #[.val (.ref o), .val (.long x), .second, .val (.int (3 : Int32)), .val (.ref b8), .val (.int (1 : Int32))] [(.int (1 : Int32)), (.ref b), (.int (1 : Int32)), (.ref b8)])) rfl rfl (hb hby d3_68) _ k) ?_
  obtain ⟨cl22, Ar22, q22, S22, M22, H22, G22⟩ := id V15
  have hin22 : ¬ ((1 : Int32) < 0 ∨ cl22.slots.size ≤ ((1 : Int32)).toNatClampNeg) := inb_of S22 ⟨by decide, by decide⟩
  obtain ⟨T22, h22, X22, e22, W22, st22⟩ := stJ X19 hx hZ e19 Ar22 (j := (1 : Int32)) hin22 (g := (mkF m 69 #[.val (.ref o), .val (.long x), .second, .val (.int (3 : Int32)), .val (.ref b8), .val (.int (1 : Int32))] [(.long v1), (.int (1 : Int32)), (.ref b8)])) rfl rfl (hb hby d3_69)
  have V22 : Arv Z h22 b8 k8 .long (3 : Int32) [(.long v0), (.long v1), (.long (0 : Int64))] (.long (0 : Int64)) := Arv.set Ar22 q22 S22 M22 H22 G22 rfl W22 1 rfl (Nat.le_of_ble_eq_true rfl)
  have f22_0 := f15_0.wr W22
  have f22_1 := f15_1.other W22 (Or.inl ne8_1)
  have f22_2 := f15_2.other W22 (Or.inl ne8_1)
  have f22_3 := f15_3.other W22 (Or.inl ne8_1)
  have f22_4 := f15_4.other W22 ne8_2
  have K22 : Keep h0 h22 [o] := K15.wr W22 (Or.inr sz_b8)
  have Z22 : n0 ≤ h22.size := Nat.le_trans Z0 K22.1
  have N22 := Fr.snoc X22 N15 g_b8
  refine own_Go.of (g' := (mkF m 70 #[.val (.ref o), .val (.long x), .second, .val (.int (3 : Int32)), .val (.ref b8), .val (.int (1 : Int32))] [])) (fun t k => st22 _ k) ?_
  refine og_iinc (pc' := 73) (L' := #[.val (.ref o), .val (.long x), .second, .val (.int (3 : Int32)), .val (.ref b8), .val (.int ((1 : Int32) + (1 : Int32)))]) X22 hx (hb hby d3_70) rfl rfl rfl ?_
  rw [show ((1 : Int32) + (1 : Int32)) = (2 : Int32) from by decide]
  refine og_goto (pc' := 38) X22 hx (hb hby d3_73) (by decide) (by decide) ?_
  refine og_iload (pc' := 40) X22 hx (hb hby d3_38) rfl rfl ?_
  refine og_aloadN (pc' := 41) X22 hx (hb hby d3_40) rfl rfl rfl ?_
  obtain ⟨T23, X23, e23, st23⟩ := getF X22 hx hZ hown (host := "") (Or.inl (hw _ (List.mem_of_getElem? (i := 18) rfl))) Via.refl e22 f22_3 (g := (mkF m 41 #[.val (.ref o), .val (.long x), .second, .val (.int (3 : Int32)), .val (.ref b8), .val (.int (2 : Int32))] [(.ref o), (.int (2 : Int32))])) rfl rfl (hb hby d3_41)
  refine own_Go.of (g' := (mkF m 44 #[.val (.ref o), .val (.long x), .second, .val (.int (3 : Int32)), .val (.ref b8), .val (.int (2 : Int32))] [(.int (2 : Int32)), (.int (2 : Int32))])) (fun t k => st23 _ k) ?_
  refine og_icmpYes (pc' := 76) X23 hx (hb hby d3_44) (flt (by decide)).2.1 (by decide) (by decide) ?_
  refine og_aloadN (pc' := 77) X23 hx (hb hby d3_76) rfl rfl rfl ?_
  refine og_aload (pc' := 79) X23 hx (hb hby d3_77) rfl rfl rfl ?_
  obtain ⟨T24, h24, X24, e24, W24, st24⟩ := putF X23 hx hZ hown (host := "") (Or.inl (hw _ (List.mem_of_getElem? (i := 11) rfl))) Via.refl e23 f22_1 f22_0 (Or.inl (hw _ (List.mem_of_getElem? (i := 12) rfl))) (hw _ (List.mem_of_getElem? (i := 2) rfl)) (ty := (.array .long)) (by decide) rfl rfl (g := (mkF m 79 #[.val (.ref o), .val (.long x), .second, .val (.int (3 : Int32)), .val (.ref b8), .val (.int (2 : Int32))] [(.ref b8), (.ref o)])) rfl rfl (hb hby d3_79)
  have w24 : Fld Z h24 o "com/example/ostracon/ostracon/LastValues" "values" "[J" (.ref b8) := f22_1.same W24
  have f24_0 := f22_0.wr W24
  have f24_1 := f22_2.other W24 (Or.inr (slot_ne (a0 := a0) (C := "com/example/ostracon/ostracon/LastValues") (Or.inl (hw _ (List.mem_of_getElem? (i := 21) rfl))) (Or.inl (hw _ (List.mem_of_getElem? (i := 12) rfl))) (by decide) (t := .int) (t' := (.array .long)) (by decide) (by decide)))
  have f24_2 := f22_3.other W24 (Or.inr (slot_ne (a0 := a0) (C := "com/example/ostracon/ostracon/LastValues") (Or.inl (hw _ (List.mem_of_getElem? (i := 19) rfl))) (Or.inl (hw _ (List.mem_of_getElem? (i := 12) rfl))) (by decide) (t := .int) (t' := (.array .long)) (by decide) (by decide)))
  have f24_3 := f22_4.other W24 (Ne.symm ne_ob)
  have f24_7 := V22.other W24 (Ne.symm ne8_1)
  have K24 : Keep h0 h24 [o] := K22.wr W24 (Or.inl (List.mem_of_getElem? (i := 0) rfl))
  have Z24 : n0 ≤ h24.size := Nat.le_trans Z0 K24.1
  have N24 := Fr.snoc X24 N22 g_o
  refine own_Go.of (g' := (mkF m 82 #[.val (.ref o), .val (.long x), .second, .val (.int (3 : Int32)), .val (.ref b8), .val (.int (2 : Int32))] [])) (fun t k => st24 _ k) ?_
  refine og_aloadN (pc' := 83) X24 hx (hb hby d3_82) rfl rfl rfl ?_
  refine og_iconst (pc' := 84) (n := 0) X24 hx (hb hby d3_83) rfl rfl ?_
  obtain ⟨T25, h25, X25, e25, W25, st25⟩ := putF X24 hx hZ hown (host := "") (Or.inl (hw _ (List.mem_of_getElem? (i := 20) rfl))) Via.refl e24 f24_1 f24_0 (Or.inl (hw _ (List.mem_of_getElem? (i := 21) rfl))) (hw _ (List.mem_of_getElem? (i := 2) rfl)) (ty := .int) (by decide) rfl rfl (g := (mkF m 84 #[.val (.ref o), .val (.long x), .second, .val (.int (3 : Int32)), .val (.ref b8), .val (.int (2 : Int32))] [(.int (0 : Int32)), (.ref o)])) rfl rfl (hb hby d3_84)
  have w25 : Fld Z h25 o "com/example/ostracon/ostracon/LastValues" "start" "I" (.int (0 : Int32)) := f24_1.same W25
  have f25_0 := f24_0.wr W25
  have f25_1 := f24_2.other W25 (Or.inr (slot_ne (a0 := a0) (C := "com/example/ostracon/ostracon/LastValues") (Or.inl (hw _ (List.mem_of_getElem? (i := 19) rfl))) (Or.inl (hw _ (List.mem_of_getElem? (i := 21) rfl))) (by decide) (t := .int) (t' := .int) (by decide) (by decide)))
  have f25_2 := f24_3.other W25 (Ne.symm ne_ob)
  have f25_6 := f24_7.other W25 (Ne.symm ne8_1)
  have f25_7 := w24.other W25 (Or.inr (slot_ne (a0 := a0) (C := "com/example/ostracon/ostracon/LastValues") (Or.inl (hw _ (List.mem_of_getElem? (i := 12) rfl))) (Or.inl (hw _ (List.mem_of_getElem? (i := 21) rfl))) (by decide) (t := (.array .long)) (t' := .int) (by decide) (by decide)))
  have K25 : Keep h0 h25 [o] := K24.wr W25 (Or.inl (List.mem_of_getElem? (i := 0) rfl))
  have Z25 : n0 ≤ h25.size := Nat.le_trans Z0 K25.1
  have N25 := Fr.snoc X25 N24 g_o
  refine own_Go.of (g' := (mkF m 87 #[.val (.ref o), .val (.long x), .second, .val (.int (3 : Int32)), .val (.ref b8), .val (.int (2 : Int32))] [])) (fun t k => st25 _ k) ?_
  refine og_aloadN (pc' := 88) X25 hx (hb hby d3_87) rfl rfl rfl ?_
  obtain ⟨T26, X26, e26, st26⟩ := getF X25 hx hZ hown (host := "") (Or.inl (hw _ (List.mem_of_getElem? (i := 11) rfl))) Via.refl e25 f25_7 (g := (mkF m 88 #[.val (.ref o), .val (.long x), .second, .val (.int (3 : Int32)), .val (.ref b8), .val (.int (2 : Int32))] [(.ref o)])) rfl rfl (hb hby d3_88)
  refine own_Go.of (g' := (mkF m 91 #[.val (.ref o), .val (.long x), .second, .val (.int (3 : Int32)), .val (.ref b8), .val (.int (2 : Int32))] [(.ref b8)])) (fun t k => st26 _ k) ?_
  refine og_aloadN (pc' := 92) X26 hx (hb hby d3_91) rfl rfl rfl ?_
  obtain ⟨T27, X27, e27, st27⟩ := getF X26 hx hZ hown (host := "") (Or.inl (hw _ (List.mem_of_getElem? (i := 20) rfl))) Via.refl e26 w25 (g := (mkF m 92 #[.val (.ref o), .val (.long x), .second, .val (.int (3 : Int32)), .val (.ref b8), .val (.int (2 : Int32))] [(.ref o), (.ref b8)])) rfl rfl (hb hby d3_92)
  refine own_Go.of (g' := (mkF m 95 #[.val (.ref o), .val (.long x), .second, .val (.int (3 : Int32)), .val (.ref b8), .val (.int (2 : Int32))] [(.int (0 : Int32)), (.ref b8)])) (fun t k => st27 _ k) ?_
  refine og_aloadN (pc' := 96) X27 hx (hb hby d3_95) rfl rfl rfl ?_
  obtain ⟨T28, X28, e28, st28⟩ := getF X27 hx hZ hown (host := "") (Or.inl (hw _ (List.mem_of_getElem? (i := 18) rfl))) Via.refl e27 f25_1 (g := (mkF m 96 #[.val (.ref o), .val (.long x), .second, .val (.int (3 : Int32)), .val (.ref b8), .val (.int (2 : Int32))] [(.ref o), (.int (0 : Int32)), (.ref b8)])) rfl rfl (hb hby d3_96)
  refine own_Go.of (g' := (mkF m 99 #[.val (.ref o), .val (.long x), .second, .val (.int (3 : Int32)), .val (.ref b8), .val (.int (2 : Int32))] [(.int (2 : Int32)), (.int (0 : Int32)), (.ref b8)])) (fun t k => st28 _ k) ?_
  refine og_iadd (pc' := 100) X28 hx (hb hby d3_99) rfl ?_
  rw [show ((0 : Int32) + (2 : Int32)) = (2 : Int32) from by decide]
  refine og_aloadN (pc' := 101) X28 hx (hb hby d3_100) rfl rfl rfl ?_
  obtain ⟨T29, X29, e29, st29⟩ := getF X28 hx hZ hown (host := "") (Or.inl (hw _ (List.mem_of_getElem? (i := 11) rfl))) Via.refl e28 f25_7 (g := (mkF m 101 #[.val (.ref o), .val (.long x), .second, .val (.int (3 : Int32)), .val (.ref b8), .val (.int (2 : Int32))] [(.ref o), (.int (2 : Int32)), (.ref b8)])) rfl rfl (hb hby d3_101)
  refine own_Go.of (g' := (mkF m 104 #[.val (.ref o), .val (.long x), .second, .val (.int (3 : Int32)), .val (.ref b8), .val (.int (2 : Int32))] [(.ref b8), (.int (2 : Int32)), (.ref b8)])) (fun t k => st29 _ k) ?_
  obtain ⟨cl30, Ar30, q30, S30, M30, H30, G30⟩ := id f25_6
  refine own_Go.of (g' := (mkF m 105 #[.val (.ref o), .val (.long x), .second, .val (.int (3 : Int32)), .val (.ref b8), .val (.int (2 : Int32))] [(.int (3 : Int32)), (.int (2 : Int32)), (.ref b8)])) (fun t k => X29.arraylength hx (by rw [e29]; exact Ar30.1) (State.isArrayOf_alike hZ.alike Ar30.2.1) (g := (mkF m 104 #[.val (.ref o), .val (.long x), .second, .val (.int (3 : Int32)), .val (.ref b8), .val (.int (2 : Int32))] [(.ref b8), (.int (2 : Int32)), (.ref b8)])) rfl rfl (hb hby d3_104) _ (by rw [len_of S30 M30]; exact k)) ?_
  refine og_irem (pc' := 106) X29 hx (hb hby d3_105) (by decide) rfl ?_
  rw [show ((2 : Int32) % (3 : Int32)) = (2 : Int32) from by decide]
  refine og_lloadN (pc' := 107) X29 hx (hb hby d3_106) rfl rfl ?_
  obtain ⟨cl31, Ar31, q31, S31, M31, H31, G31⟩ := id f25_6
  have hin31 : ¬ ((2 : Int32) < 0 ∨ cl31.slots.size ≤ ((2 : Int32)).toNatClampNeg) := inb_of S31 ⟨by decide, by decide⟩
  obtain ⟨T31, h31, X31, e31, W31, st31⟩ := stJ X29 hx hZ e29 Ar31 (j := (2 : Int32)) hin31 (g := (mkF m 107 #[.val (.ref o), .val (.long x), .second, .val (.int (3 : Int32)), .val (.ref b8), .val (.int (2 : Int32))] [(.long x), (.int (2 : Int32)), (.ref b8)])) rfl rfl (hb hby d3_107)
  have V31 : Arv Z h31 b8 k8 .long (3 : Int32) [(.long v0), (.long v1), (.long x)] (.long (0 : Int64)) := Arv.set Ar31 q31 S31 M31 H31 G31 rfl W31 2 rfl (Nat.le_of_ble_eq_true rfl)
  have f31_0 := f25_0.wr W31
  have f31_1 := f25_1.other W31 (Or.inl ne8_1)
  have f31_2 := f25_2.other W31 ne8_2
  have f31_6 := f25_7.other W31 (Or.inl ne8_1)
  have f31_7 := w25.other W31 (Or.inl ne8_1)
  have K31 : Keep h0 h31 [o] := K25.wr W31 (Or.inr sz_b8)
  have Z31 : n0 ≤ h31.size := Nat.le_trans Z0 K31.1
  have N31 := Fr.snoc X31 N25 g_b8
  refine own_Go.of (g' := (mkF m 108 #[.val (.ref o), .val (.long x), .second, .val (.int (3 : Int32)), .val (.ref b8), .val (.int (2 : Int32))] [])) (fun t k => st31 _ k) ?_
  refine og_aloadN (pc' := 109) X31 hx (hb hby d3_108) rfl rfl rfl ?_
  refine og_dup (pc' := 110) X31 hx (hb hby d3_109) rfl rfl ?_
  obtain ⟨T32, X32, e32, st32⟩ := getF X31 hx hZ hown (host := "") (Or.inl (hw _ (List.mem_of_getElem? (i := 18) rfl))) Via.refl e31 f31_1 (g := (mkF m 110 #[.val (.ref o), .val (.long x), .second, .val (.int (3 : Int32)), .val (.ref b8), .val (.int (2 : Int32))] [(.ref o), (.ref o)])) rfl rfl (hb hby d3_110)
  refine own_Go.of (g' := (mkF m 113 #[.val (.ref o), .val (.long x), .second, .val (.int (3 : Int32)), .val (.ref b8), .val (.int (2 : Int32))] [(.int (2 : Int32)), (.ref o)])) (fun t k => st32 _ k) ?_
  refine og_iconst (pc' := 114) (n := 1) X32 hx (hb hby d3_113) rfl rfl ?_
  refine og_iadd (pc' := 115) X32 hx (hb hby d3_114) rfl ?_
  rw [show ((2 : Int32) + (1 : Int32)) = (3 : Int32) from by decide]
  obtain ⟨T33, h33, X33, e33, W33, st33⟩ := putF X32 hx hZ hown (host := "") (Or.inl (hw _ (List.mem_of_getElem? (i := 18) rfl))) Via.refl e32 f31_1 f31_0 (Or.inl (hw _ (List.mem_of_getElem? (i := 19) rfl))) (hw _ (List.mem_of_getElem? (i := 2) rfl)) (ty := .int) (by decide) rfl rfl (g := (mkF m 115 #[.val (.ref o), .val (.long x), .second, .val (.int (3 : Int32)), .val (.ref b8), .val (.int (2 : Int32))] [(.int (3 : Int32)), (.ref o)])) rfl rfl (hb hby d3_115)
  have w33 : Fld Z h33 o "com/example/ostracon/ostracon/LastValues" "count" "I" (.int (3 : Int32)) := f31_1.same W33
  have f33_0 := f31_0.wr W33
  have f33_1 := f31_2.other W33 (Ne.symm ne_ob)
  have f33_5 := f31_6.other W33 (Or.inr (slot_ne (a0 := a0) (C := "com/example/ostracon/ostracon/LastValues") (Or.inl (hw _ (List.mem_of_getElem? (i := 12) rfl))) (Or.inl (hw _ (List.mem_of_getElem? (i := 19) rfl))) (by decide) (t := (.array .long)) (t' := .int) (by decide) (by decide)))
  have f33_6 := f31_7.other W33 (Or.inr (slot_ne (a0 := a0) (C := "com/example/ostracon/ostracon/LastValues") (Or.inl (hw _ (List.mem_of_getElem? (i := 21) rfl))) (Or.inl (hw _ (List.mem_of_getElem? (i := 19) rfl))) (by decide) (t := .int) (t' := .int) (by decide) (by decide)))
  have f33_7 := V31.other W33 (Ne.symm ne8_1)
  have K33 : Keep h0 h33 [o] := K31.wr W33 (Or.inl (List.mem_of_getElem? (i := 0) rfl))
  have Z33 : n0 ≤ h33.size := Nat.le_trans Z0 K33.1
  have N33 := Fr.snoc X33 N31 g_o
  refine own_Go.of (g' := (mkF m 118 #[.val (.ref o), .val (.long x), .second, .val (.int (3 : Int32)), .val (.ref b8), .val (.int (2 : Int32))] [])) (fun t k => st33 _ k) ?_
  refine og_ldc2_w (pc' := 121) X33 hx (hb hby d3_118) hown (mvT hZ (hw _ (List.mem_of_getElem? (i := 22) rfl))) rfl ?_
  obtain ⟨fs, hr, hrun, hended, hW, hsame⟩ := X33.leave (v := some (.long (-1 : Int64))) (fun h => by rw [Bd.returns] at h; cases h) (BodyLoose.notSynchronized Bd)
  refine ⟨_, _, retL X33 hx Bd.returns (hb hby d3_121) hr, hrun, hended, some (.long (-1 : Int64)), _, rfl, ?_, ⟨_, rfl⟩, hW, hsame.mono (by decide) (by decide)⟩
  show Qadd3_202 Z o x b k v0 v1 h0 n0 _ T33.heap _
  rw [e33]
  exact ⟨b8, k8, rfl, N33, K33, sz_b8, f33_0, f33_5, f33_6, w33, f33_7⟩

theorem pnnew303 : plainName "com/example/ostracon/ostracon/LastValues" = true := by first | (simp [plainName, overriddenIn]; done) | decide +kernel
theorem efnew303 (m : MethodId) (z0 : Addr) : entryFrame m #[(.ref z0)] 1 = mkF m 0 #[.val (.ref z0)] [] := by first | (simp [entryFrame, mkF, argsToLocals, Value.category]; done) | rfl
def Qnew303 (Z : State) (o : Addr) (b : Addr) (k : ClassId) (v0 : Int64) (v1 : Int64) (v2 : Int64) (h0 : Heap) (n0 : Nat) (v : Option Value) (h : Heap) (L : List Loc) : Prop := v = some (.long v2) ∧ Fr n0 L ∧ h = h0
set_option maxRecDepth 65536 in
set_option maxHeartbeats 40000000 in
theorem rmnew303 (l : Launch) (Z : State) (a0 : Array Value) (hw : ∀ d ∈ tables_1, d.before a0 Z = true) (ws : List Jvm.Cond) (o : Addr) (b : Addr) (k : ClassId) (v0 : Int64) (v1 : Int64) (v2 : Int64) (h0 : Heap) (n0 : Nat) (Z0 : n0 ≤ h0.size) (E_o : Exa Z h0 o "com/example/ostracon/ostracon/LastValues") (F1_o : Fld Z h0 o "com/example/ostracon/ostracon/LastValues" "values" "[J" (.ref b)) (F2_o : Fld Z h0 o "com/example/ostracon/ostracon/LastValues" "start" "I" (.int (0 : Int32))) (F3_o : Fld Z h0 o "com/example/ostracon/ostracon/LastValues" "count" "I" (.int (3 : Int32))) (V_b : Arv Z h0 b k .long (3 : Int32) [(.long v0), (.long v1), (.long v2)] (.long (0 : Int64))) :
    MetFree l (⟨"com/example/ostracon/ostracon/LastValues", "newest", "()J"⟩ : MethodName) (head1 (Jvm.Cond.code (⟨"com/example/ostracon/ostracon/LastValues", "newest", "()J"⟩ : MethodName) prog_19_method_5_code 1 (some .long) :: ws) ({ frames := 0, cells := 0, slots := 0, locals := 0 } : Room)) (fun a U => a = #[(.ref o)] ∧ Z.Warmed39 U.vm ∧ U.heap = h0) (fun _ _ _ _ _ => True) (fun _ U oc U' => ∃ v L, oc = .returned v ∧ Qnew303 Z o b k v0 v1 v2 h0 n0 v U'.heap L ∧ FrameEnd U oc U' L ({ frames := 0, cells := 0, slots := 0, locals := 0 } : Room).cells ({ frames := 0, cells := 0, slots := 0, locals := 0 } : Room).slots) := by
  refine MetFree.of_bodySF (plainFor_of_name pnnew303) hisR ?_
  intro p e s m args below meth c s₁ Bd hml0 hP hK
  obtain ⟨rfl, hZ, hh⟩ := hP
  have hx := Bd.exec
  have hby := Bd.bytes
  have hml : c.maxLocals = 1 := hml0
  have hown : s.vm.findClass "com/example/ostracon/ostracon/LastValues" = some m.cls := findClass_of_methodNamed Bd.named
  have hnm := (name_of_methodNamed Bd.named Bd.method).1
  have X0 : Stand p l e ({ frames := 0, cells := 0, slots := 0, locals := 0 } : Room) s m #[(.ref o)] below meth c s₁ [] 0 0 := Stand.of_body Bd
  have e0 : s₁.heap = h0 := by rw [← hh, Bd.state]; rfl
  have N0 := Fr.nil n0
  show own_Go p e below (fun s₂ oc => ∃ v L, oc = .returned v ∧ Qnew303 Z o b k v0 v1 v2 h0 n0 v s₂.heap L ∧ FrameEnd s oc s₂ L ({ frames := 0, cells := 0, slots := 0, locals := 0 } : Room).cells ({ frames := 0, cells := 0, slots := 0, locals := 0 } : Room).slots) s₁ (entryFrame m #[(.ref o)] 1)
  refine own_Go.of (g' := mkF m 0 #[.val (.ref o)] []) (fun t k => castTop (efnew303 m o) k) ?_
  refine og_aloadN (pc' := 1) X0 hx (hb hby d4_0) rfl rfl rfl ?_
  obtain ⟨T1, X1, e1, st1⟩ := getF X0 hx hZ hown (host := "") (Or.inl (hw _ (List.mem_of_getElem? (i := 11) rfl))) Via.refl e0 F1_o (g := (mkF m 1 #[.val (.ref o)] [(.ref o)])) rfl rfl (hb hby d4_1)
  refine own_Go.of (g' := (mkF m 4 #[.val (.ref o)] [(.ref b)])) (fun t k => st1 _ k) ?_
  refine og_aloadN (pc' := 5) X1 hx (hb hby d4_4) rfl rfl rfl ?_
  obtain ⟨T2, X2, e2, st2⟩ := getF X1 hx hZ hown (host := "") (Or.inl (hw _ (List.mem_of_getElem? (i := 20) rfl))) Via.refl e1 F2_o (g := (mkF m 5 #[.val (.ref o)] [(.ref o), (.ref b)])) rfl rfl (hb hby d4_5)
  refine own_Go.of (g' := (mkF m 8 #[.val (.ref o)] [(.int (0 : Int32)), (.ref b)])) (fun t k => st2 _ k) ?_
  refine og_aloadN (pc' := 9) X2 hx (hb hby d4_8) rfl rfl rfl ?_
  obtain ⟨T3, X3, e3, st3⟩ := getF X2 hx hZ hown (host := "") (Or.inl (hw _ (List.mem_of_getElem? (i := 18) rfl))) Via.refl e2 F3_o (g := (mkF m 9 #[.val (.ref o)] [(.ref o), (.int (0 : Int32)), (.ref b)])) rfl rfl (hb hby d4_9)
  refine own_Go.of (g' := (mkF m 12 #[.val (.ref o)] [(.int (3 : Int32)), (.int (0 : Int32)), (.ref b)])) (fun t k => st3 _ k) ?_
  refine og_iadd (pc' := 13) X3 hx (hb hby d4_12) rfl ?_
  rw [show ((0 : Int32) + (3 : Int32)) = (3 : Int32) from by decide]
  refine og_iconst (pc' := 14) (n := 1) X3 hx (hb hby d4_13) rfl rfl ?_
  refine og_isub (pc' := 15) X3 hx (hb hby d4_14) rfl ?_
  rw [show ((3 : Int32) - (1 : Int32)) = (2 : Int32) from by decide]
  refine og_aloadN (pc' := 16) X3 hx (hb hby d4_15) rfl rfl rfl ?_
  obtain ⟨T4, X4, e4, st4⟩ := getF X3 hx hZ hown (host := "") (Or.inl (hw _ (List.mem_of_getElem? (i := 11) rfl))) Via.refl e3 F1_o (g := (mkF m 16 #[.val (.ref o)] [(.ref o), (.int (2 : Int32)), (.ref b)])) rfl rfl (hb hby d4_16)
  refine own_Go.of (g' := (mkF m 19 #[.val (.ref o)] [(.ref b), (.int (2 : Int32)), (.ref b)])) (fun t k => st4 _ k) ?_
  obtain ⟨cl5, Ar5, q5, S5, M5, H5, G5⟩ := id V_b
  refine own_Go.of (g' := (mkF m 20 #[.val (.ref o)] [(.int (3 : Int32)), (.int (2 : Int32)), (.ref b)])) (fun t k => X4.arraylength hx (by rw [e4]; exact Ar5.1) (State.isArrayOf_alike hZ.alike Ar5.2.1) (g := (mkF m 19 #[.val (.ref o)] [(.ref b), (.int (2 : Int32)), (.ref b)])) rfl rfl (hb hby d4_19) _ (by rw [len_of S5 M5]; exact k)) ?_
  refine og_irem (pc' := 21) X4 hx (hb hby d4_20) (by decide) rfl ?_
  rw [show ((2 : Int32) % (3 : Int32)) = (2 : Int32) from by decide]
  obtain ⟨cl6, Ar6, q6, S6, M6, H6, G6⟩ := id V_b
  have hin6 : ¬ ((2 : Int32) < 0 ∨ cl6.slots.size ≤ ((2 : Int32)).toNatClampNeg) := inb_of S6 ⟨by decide, by decide⟩
  have hat6 : cl6.slots[((2 : Int32)).toNatClampNeg]? = some (.long v2) := Has.at H6 hin6 rfl
  refine own_Go.of (g' := (mkF m 22 #[.val (.ref o)] [(.long v2)])) (fun t k => X4.laload hx (j := (2 : Int32)) (v := (.long v2)) (by rw [e4]; exact Ar6.1) (State.isArrayOf_alike hZ.alike Ar6.2.1) Ar6.2.2 hin6 hat6 (g := (mkF m 21 #[.val (.ref o)] [(.int (2 : Int32)), (.ref b)])) rfl rfl (hb hby d4_21) _ k) ?_
  obtain ⟨fs, hr, hrun, hended, hW, hsame⟩ := X4.leave (v := some (.long v2)) (fun h => by rw [Bd.returns] at h; cases h) (BodyLoose.notSynchronized Bd)
  refine ⟨_, _, retL X4 hx Bd.returns (hb hby d4_22) hr, hrun, hended, some (.long v2), _, rfl, ?_, ⟨_, rfl⟩, hW, hsame.mono (by decide) (by decide)⟩
  show Qnew303 Z o b k v0 v1 v2 h0 n0 _ T4.heap _
  rw [e4]
  exact ⟨rfl, N0, rfl⟩

theorem pnadd3_303 : plainName "com/example/ostracon/ostracon/LastValues" = true := by first | (simp [plainName, overriddenIn]; done) | decide +kernel
theorem efadd3_303 (m : MethodId) (z0 : Addr) (z1 : Int64) : entryFrame m #[(.ref z0), (.long z1), (.int (3 : Int32))] 6 = mkF m 0 #[.val (.ref z0), .val (.long z1), .second, .val (.int (3 : Int32)), .unset, .unset] [] := by first | (simp [entryFrame, mkF, argsToLocals, Value.category]; done) | rfl
def Qadd3_303 (Z : State) (o : Addr) (x : Int64) (b : Addr) (k : ClassId) (v0 : Int64) (v1 : Int64) (v2 : Int64) (h0 : Heap) (n0 : Nat) (v : Option Value) (h : Heap) (L : List Loc) : Prop := v = some (.long v0) ∧ Fr n0 L ∧ Keep h0 h [o, b] ∧ Exa Z h o "com/example/ostracon/ostracon/LastValues" ∧ Fld Z h o "com/example/ostracon/ostracon/LastValues" "values" "[J" (.ref b) ∧ Fld Z h o "com/example/ostracon/ostracon/LastValues" "start" "I" (.int (1 : Int32)) ∧ Fld Z h o "com/example/ostracon/ostracon/LastValues" "count" "I" (.int (3 : Int32)) ∧ Arv Z h b k .long (3 : Int32) [(.long x), (.long v1), (.long v2)] (.long (0 : Int64))
set_option maxRecDepth 65536 in
set_option maxHeartbeats 40000000 in
theorem rmadd3_303 (l : Launch) (Z : State) (a0 : Array Value) (hw : ∀ d ∈ tables_1, d.before a0 Z = true) (ws : List Jvm.Cond) (o : Addr) (x : Int64) (b : Addr) (k : ClassId) (v0 : Int64) (v1 : Int64) (v2 : Int64) (h0 : Heap) (n0 : Nat) (Z0 : n0 ≤ h0.size) (E_o : Exa Z h0 o "com/example/ostracon/ostracon/LastValues") (F1_o : Fld Z h0 o "com/example/ostracon/ostracon/LastValues" "values" "[J" (.ref b)) (F2_o : Fld Z h0 o "com/example/ostracon/ostracon/LastValues" "start" "I" (.int (0 : Int32))) (F3_o : Fld Z h0 o "com/example/ostracon/ostracon/LastValues" "count" "I" (.int (3 : Int32))) (V_b : Arv Z h0 b k .long (3 : Int32) [(.long v0), (.long v1), (.long v2)] (.long (0 : Int64))) (g_o : n0 ≤ o) (g_b : n0 ≤ b) (ne_ob : o ≠ b) :
    MetFree l (⟨"com/example/ostracon/ostracon/LastValues", "add", "(JI)J"⟩ : MethodName) (head1 (Jvm.Cond.code (⟨"com/example/ostracon/ostracon/LastValues", "add", "(JI)J"⟩ : MethodName) prog_19_method_2_code 6 (some .long) :: ws) ({ frames := 0, cells := 0, slots := 0, locals := 0 } : Room)) (fun a U => a = #[(.ref o), (.long x), (.int (3 : Int32))] ∧ Z.Warmed39 U.vm ∧ U.heap = h0) (fun _ _ _ _ _ => True) (fun _ U oc U' => ∃ v L, oc = .returned v ∧ Qadd3_303 Z o x b k v0 v1 v2 h0 n0 v U'.heap L ∧ FrameEnd U oc U' L ({ frames := 0, cells := 0, slots := 0, locals := 0 } : Room).cells ({ frames := 0, cells := 0, slots := 0, locals := 0 } : Room).slots) := by
  refine MetFree.of_bodySF (plainFor_of_name pnadd3_303) hisR ?_
  intro p e s m args below meth c s₁ Bd hml0 hP hK
  obtain ⟨rfl, hZ, hh⟩ := hP
  have hx := Bd.exec
  have hby := Bd.bytes
  have hml : c.maxLocals = 6 := hml0
  have hown : s.vm.findClass "com/example/ostracon/ostracon/LastValues" = some m.cls := findClass_of_methodNamed Bd.named
  have hnm := (name_of_methodNamed Bd.named Bd.method).1
  have X0 : Stand p l e ({ frames := 0, cells := 0, slots := 0, locals := 0 } : Room) s m #[(.ref o), (.long x), (.int (3 : Int32))] below meth c s₁ [] 0 0 := Stand.of_body Bd
  have e0 : s₁.heap = h0 := by rw [← hh, Bd.state]; rfl
  have N0 := Fr.nil n0
  show own_Go p e below (fun s₂ oc => ∃ v L, oc = .returned v ∧ Qadd3_303 Z o x b k v0 v1 v2 h0 n0 v s₂.heap L ∧ FrameEnd s oc s₂ L ({ frames := 0, cells := 0, slots := 0, locals := 0 } : Room).cells ({ frames := 0, cells := 0, slots := 0, locals := 0 } : Room).slots) s₁ (entryFrame m #[(.ref o), (.long x), (.int (3 : Int32))] 6)
  refine own_Go.of (g' := mkF m 0 #[.val (.ref o), .val (.long x), .second, .val (.int (3 : Int32)), .unset, .unset] []) (fun t k => castTop (efadd3_303 m o x) k) ?_
  refine og_aloadN (pc' := 1) X0 hx (hb hby d3_0) rfl rfl rfl ?_
  obtain ⟨T1, X1, e1, st1⟩ := getF X0 hx hZ hown (host := "") (Or.inl (hw _ (List.mem_of_getElem? (i := 18) rfl))) Via.refl e0 F3_o (g := (mkF m 1 #[.val (.ref o), .val (.long x), .second, .val (.int (3 : Int32)), .unset, .unset] [(.ref o)])) rfl rfl (hb hby d3_1)
  refine own_Go.of (g' := (mkF m 4 #[.val (.ref o), .val (.long x), .second, .val (.int (3 : Int32)), .unset, .unset] [(.int (3 : Int32))])) (fun t k => st1 _ k) ?_
  refine og_iloadN (pc' := 5) X1 hx (hb hby d3_4) rfl rfl ?_
  refine og_icmpYes (pc' := 122) X1 hx (hb hby d3_5) (flt (by decide)).2.1 (by decide) (by decide) ?_
  refine og_aloadN (pc' := 123) X1 hx (hb hby d3_122) rfl rfl rfl ?_
  obtain ⟨T2, X2, e2, st2⟩ := getF X1 hx hZ hown (host := "") (Or.inl (hw _ (List.mem_of_getElem? (i := 11) rfl))) Via.refl e1 F1_o (g := (mkF m 123 #[.val (.ref o), .val (.long x), .second, .val (.int (3 : Int32)), .unset, .unset] [(.ref o)])) rfl rfl (hb hby d3_123)
  refine own_Go.of (g' := (mkF m 126 #[.val (.ref o), .val (.long x), .second, .val (.int (3 : Int32)), .unset, .unset] [(.ref b)])) (fun t k => st2 _ k) ?_
  refine og_aloadN (pc' := 127) X2 hx (hb hby d3_126) rfl rfl rfl ?_
  obtain ⟨T3, X3, e3, st3⟩ := getF X2 hx hZ hown (host := "") (Or.inl (hw _ (List.mem_of_getElem? (i := 20) rfl))) Via.refl e2 F2_o (g := (mkF m 127 #[.val (.ref o), .val (.long x), .second, .val (.int (3 : Int32)), .unset, .unset] [(.ref o), (.ref b)])) rfl rfl (hb hby d3_127)
  refine own_Go.of (g' := (mkF m 130 #[.val (.ref o), .val (.long x), .second, .val (.int (3 : Int32)), .unset, .unset] [(.int (0 : Int32)), (.ref b)])) (fun t k => st3 _ k) ?_
  obtain ⟨cl4, Ar4, q4, S4, M4, H4, G4⟩ := id V_b
  have hin4 : ¬ ((0 : Int32) < 0 ∨ cl4.slots.size ≤ ((0 : Int32)).toNatClampNeg) := inb_of S4 ⟨by decide, by decide⟩
  have hat4 : cl4.slots[((0 : Int32)).toNatClampNeg]? = some (.long v0) := Has.at H4 hin4 rfl
  refine own_Go.of (g' := (mkF m 131 #[.val (.ref o), .val (.long x), .second, .val (.int (3 : Int32)), .unset, .unset] [(.long v0)])) (fun t k => X3.laload hx (j := (0 : Int32)) (v := (.long v0)) (by rw [e3]; exact Ar4.1) (State.isArrayOf_alike hZ.alike Ar4.2.1) Ar4.2.2 hin4 hat4 (g := (mkF m 130 #[.val (.ref o), .val (.long x), .second, .val (.int (3 : Int32)), .unset, .unset] [(.int (0 : Int32)), (.ref b)])) rfl rfl (hb hby d3_130) _ k) ?_
  refine og_lstore (pc' := 133) (L' := #[.val (.ref o), .val (.long x), .second, .val (.int (3 : Int32)), .val (.long v0), .second]) X3 hx (hb hby d3_131) rfl rfl ?_
  refine og_aloadN (pc' := 134) X3 hx (hb hby d3_133) rfl rfl rfl ?_
  obtain ⟨T5, X5, e5, st5⟩ := getF X3 hx hZ hown (host := "") (Or.inl (hw _ (List.mem_of_getElem? (i := 11) rfl))) Via.refl e3 F1_o (g := (mkF m 134 #[.val (.ref o), .val (.long x), .second, .val (.int (3 : Int32)), .val (.long v0), .second] [(.ref o)])) rfl rfl (hb hby d3_134)
  refine own_Go.of (g' := (mkF m 137 #[.val (.ref o), .val (.long x), .second, .val (.int (3 : Int32)), .val (.long v0), .second] [(.ref b)])) (fun t k => st5 _ k) ?_
  refine og_aloadN (pc' := 138) X5 hx (hb hby d3_137) rfl rfl rfl ?_
  obtain ⟨T6, X6, e6, st6⟩ := getF X5 hx hZ hown (host := "") (Or.inl (hw _ (List.mem_of_getElem? (i := 20) rfl))) Via.refl e5 F2_o (g := (mkF m 138 #[.val (.ref o), .val (.long x), .second, .val (.int (3 : Int32)), .val (.long v0), .second] [(.ref o), (.ref b)])) rfl rfl (hb hby d3_138)
  refine own_Go.of (g' := (mkF m 141 #[.val (.ref o), .val (.long x), .second, .val (.int (3 : Int32)), .val (.long v0), .second] [(.int (0 : Int32)), (.ref b)])) (fun t k => st6 _ k) ?_
  refine og_lloadN (pc' := 142) X6 hx (hb hby d3_141) rfl rfl ?_
  obtain ⟨cl7, Ar7, q7, S7, M7, H7, G7⟩ := id V_b
  have hin7 : ¬ ((0 : Int32) < 0 ∨ cl7.slots.size ≤ ((0 : Int32)).toNatClampNeg) := inb_of S7 ⟨by decide, by decide⟩
  obtain ⟨T7, h7, X7, e7, W7, st7⟩ := stJ X6 hx hZ e6 Ar7 (j := (0 : Int32)) hin7 (g := (mkF m 142 #[.val (.ref o), .val (.long x), .second, .val (.int (3 : Int32)), .val (.long v0), .second] [(.long x), (.int (0 : Int32)), (.ref b)])) rfl rfl (hb hby d3_142)
  have V7 : Arv Z h7 b k .long (3 : Int32) [(.long x), (.long v1), (.long v2)] (.long (0 : Int64)) := Arv.set Ar7 q7 S7 M7 H7 G7 rfl W7 0 rfl (Nat.le_of_ble_eq_true rfl)
  have f7_0 := E_o.wr W7
  have f7_1 := F1_o.other W7 (Or.inl ne_ob)
  have f7_2 := F2_o.other W7 (Or.inl ne_ob)
  have f7_3 := F3_o.other W7 (Or.inl ne_ob)
  have K7 : Keep h0 h7 [o, b] := (Keep.refl h0 [o, b]).wr W7 (Or.inl (List.mem_of_getElem? (i := 1) rfl))
  have Z7 : n0 ≤ h7.size := Nat.le_trans Z0 K7.1
  have N7 := Fr.snoc X7 N0 g_b
  refine own_Go.of (g' := (mkF m 143 #[.val (.ref o), .val (.long x), .second, .val (.int (3 : Int32)), .val (.long v0), .second] [])) (fun t k => st7 _ k) ?_
  refine og_aloadN (pc' := 144) X7 hx (hb hby d3_143) rfl rfl rfl ?_
  refine og_aloadN (pc' := 145) X7 hx (hb hby d3_144) rfl rfl rfl ?_
  obtain ⟨T8, X8, e8, st8⟩ := getF X7 hx hZ hown (host := "") (Or.inl (hw _ (List.mem_of_getElem? (i := 20) rfl))) Via.refl e7 f7_2 (g := (mkF m 145 #[.val (.ref o), .val (.long x), .second, .val (.int (3 : Int32)), .val (.long v0), .second] [(.ref o), (.ref o)])) rfl rfl (hb hby d3_145)
  refine own_Go.of (g' := (mkF m 148 #[.val (.ref o), .val (.long x), .second, .val (.int (3 : Int32)), .val (.long v0), .second] [(.int (0 : Int32)), (.ref o)])) (fun t k => st8 _ k) ?_
  refine og_iconst (pc' := 149) (n := 1) X8 hx (hb hby d3_148) rfl rfl ?_
  refine og_iadd (pc' := 150) X8 hx (hb hby d3_149) rfl ?_
  rw [show ((0 : Int32) + (1 : Int32)) = (1 : Int32) from by decide]
  refine og_aloadN (pc' := 151) X8 hx (hb hby d3_150) rfl rfl rfl ?_
  obtain ⟨T9, X9, e9, st9⟩ := getF X8 hx hZ hown (host := "") (Or.inl (hw _ (List.mem_of_getElem? (i := 11) rfl))) Via.refl e8 f7_1 (g := (mkF m 151 #[.val (.ref o), .val (.long x), .second, .val (.int (3 : Int32)), .val (.long v0), .second] [(.ref o), (.int (1 : Int32)), (.ref o)])) rfl rfl (hb hby d3_151)
  refine own_Go.of (g' := (mkF m 154 #[.val (.ref o), .val (.long x), .second, .val (.int (3 : Int32)), .val (.long v0), .second] [(.ref b), (.int (1 : Int32)), (.ref o)])) (fun t k => st9 _ k) ?_
  obtain ⟨cl10, Ar10, q10, S10, M10, H10, G10⟩ := id V7
  refine own_Go.of (g' := (mkF m 155 #[.val (.ref o), .val (.long x), .second, .val (.int (3 : Int32)), .val (.long v0), .second] [(.int (3 : Int32)), (.int (1 : Int32)), (.ref o)])) (fun t k => X9.arraylength hx (by rw [e9]; exact Ar10.1) (State.isArrayOf_alike hZ.alike Ar10.2.1) (g := (mkF m 154 #[.val (.ref o), .val (.long x), .second, .val (.int (3 : Int32)), .val (.long v0), .second] [(.ref b), (.int (1 : Int32)), (.ref o)])) rfl rfl (hb hby d3_154) _ (by rw [len_of S10 M10]; exact k)) ?_
  refine og_irem (pc' := 156) X9 hx (hb hby d3_155) (by decide) rfl ?_
  rw [show ((1 : Int32) % (3 : Int32)) = (1 : Int32) from by decide]
  obtain ⟨T11, h11, X11, e11, W11, st11⟩ := putF X9 hx hZ hown (host := "") (Or.inl (hw _ (List.mem_of_getElem? (i := 20) rfl))) Via.refl e9 f7_2 f7_0 (Or.inl (hw _ (List.mem_of_getElem? (i := 21) rfl))) (hw _ (List.mem_of_getElem? (i := 2) rfl)) (ty := .int) (by decide) rfl rfl (g := (mkF m 156 #[.val (.ref o), .val (.long x), .second, .val (.int (3 : Int32)), .val (.long v0), .second] [(.int (1 : Int32)), (.ref o)])) rfl rfl (hb hby d3_156)
  have w11 : Fld Z h11 o "com/example/ostracon/ostracon/LastValues" "start" "I" (.int (1 : Int32)) := f7_2.same W11
  have f11_0 := f7_0.wr W11
  have f11_1 := f7_1.other W11 (Or.inr (slot_ne (a0 := a0) (C := "com/example/ostracon/ostracon/LastValues") (Or.inl (hw _ (List.mem_of_getElem? (i := 12) rfl))) (Or.inl (hw _ (List.mem_of_getElem? (i := 21) rfl))) (by decide) (t := (.array .long)) (t' := .int) (by decide) (by decide)))
  have f11_2 := f7_3.other W11 (Or.inr (slot_ne (a0 := a0) (C := "com/example/ostracon/ostracon/LastValues") (Or.inl (hw _ (List.mem_of_getElem? (i := 19) rfl))) (Or.inl (hw _ (List.mem_of_getElem? (i := 21) rfl))) (by decide) (t := .int) (t' := .int) (by decide) (by decide)))
  have f11_6 := V7.other W11 (Ne.symm ne_ob)
  have K11 : Keep h0 h11 [o, b] := K7.wr W11 (Or.inl (List.mem_of_getElem? (i := 0) rfl))
  have Z11 : n0 ≤ h11.size := Nat.le_trans Z0 K11.1
  have N11 := Fr.snoc X11 N7 g_o
  refine own_Go.of (g' := (mkF m 159 #[.val (.ref o), .val (.long x), .second, .val (.int (3 : Int32)), .val (.long v0), .second] [])) (fun t k => st11 _ k) ?_
  refine og_lload (pc' := 161) X11 hx (hb hby d3_159) rfl rfl ?_
  obtain ⟨fs, hr, hrun, hended, hW, hsame⟩ := X11.leave (v := some (.long v0)) (fun h => by rw [Bd.returns] at h; cases h) (BodyLoose.notSynchronized Bd)
  refine ⟨_, _, retL X11 hx Bd.returns (hb hby d3_161) hr, hrun, hended, some (.long v0), _, rfl, ?_, ⟨_, rfl⟩, hW, hsame.mono (by decide) (by decide)⟩
  show Qadd3_303 Z o x b k v0 v1 v2 h0 n0 _ T11.heap _
  rw [e11]
  exact ⟨rfl, N11, K11, f11_0, f11_1, w11, f11_2, f11_6⟩

theorem pnnew313 : plainName "com/example/ostracon/ostracon/LastValues" = true := by first | (simp [plainName, overriddenIn]; done) | decide +kernel
theorem efnew313 (m : MethodId) (z0 : Addr) : entryFrame m #[(.ref z0)] 1 = mkF m 0 #[.val (.ref z0)] [] := by first | (simp [entryFrame, mkF, argsToLocals, Value.category]; done) | rfl
def Qnew313 (Z : State) (o : Addr) (b : Addr) (k : ClassId) (v0 : Int64) (v1 : Int64) (v2 : Int64) (h0 : Heap) (n0 : Nat) (v : Option Value) (h : Heap) (L : List Loc) : Prop := v = some (.long v0) ∧ Fr n0 L ∧ h = h0
set_option maxRecDepth 65536 in
set_option maxHeartbeats 40000000 in
theorem rmnew313 (l : Launch) (Z : State) (a0 : Array Value) (hw : ∀ d ∈ tables_1, d.before a0 Z = true) (ws : List Jvm.Cond) (o : Addr) (b : Addr) (k : ClassId) (v0 : Int64) (v1 : Int64) (v2 : Int64) (h0 : Heap) (n0 : Nat) (Z0 : n0 ≤ h0.size) (E_o : Exa Z h0 o "com/example/ostracon/ostracon/LastValues") (F1_o : Fld Z h0 o "com/example/ostracon/ostracon/LastValues" "values" "[J" (.ref b)) (F2_o : Fld Z h0 o "com/example/ostracon/ostracon/LastValues" "start" "I" (.int (1 : Int32))) (F3_o : Fld Z h0 o "com/example/ostracon/ostracon/LastValues" "count" "I" (.int (3 : Int32))) (V_b : Arv Z h0 b k .long (3 : Int32) [(.long v0), (.long v1), (.long v2)] (.long (0 : Int64))) :
    MetFree l (⟨"com/example/ostracon/ostracon/LastValues", "newest", "()J"⟩ : MethodName) (head1 (Jvm.Cond.code (⟨"com/example/ostracon/ostracon/LastValues", "newest", "()J"⟩ : MethodName) prog_19_method_5_code 1 (some .long) :: ws) ({ frames := 0, cells := 0, slots := 0, locals := 0 } : Room)) (fun a U => a = #[(.ref o)] ∧ Z.Warmed39 U.vm ∧ U.heap = h0) (fun _ _ _ _ _ => True) (fun _ U oc U' => ∃ v L, oc = .returned v ∧ Qnew313 Z o b k v0 v1 v2 h0 n0 v U'.heap L ∧ FrameEnd U oc U' L ({ frames := 0, cells := 0, slots := 0, locals := 0 } : Room).cells ({ frames := 0, cells := 0, slots := 0, locals := 0 } : Room).slots) := by
  refine MetFree.of_bodySF (plainFor_of_name pnnew313) hisR ?_
  intro p e s m args below meth c s₁ Bd hml0 hP hK
  obtain ⟨rfl, hZ, hh⟩ := hP
  have hx := Bd.exec
  have hby := Bd.bytes
  have hml : c.maxLocals = 1 := hml0
  have hown : s.vm.findClass "com/example/ostracon/ostracon/LastValues" = some m.cls := findClass_of_methodNamed Bd.named
  have hnm := (name_of_methodNamed Bd.named Bd.method).1
  have X0 : Stand p l e ({ frames := 0, cells := 0, slots := 0, locals := 0 } : Room) s m #[(.ref o)] below meth c s₁ [] 0 0 := Stand.of_body Bd
  have e0 : s₁.heap = h0 := by rw [← hh, Bd.state]; rfl
  have N0 := Fr.nil n0
  show own_Go p e below (fun s₂ oc => ∃ v L, oc = .returned v ∧ Qnew313 Z o b k v0 v1 v2 h0 n0 v s₂.heap L ∧ FrameEnd s oc s₂ L ({ frames := 0, cells := 0, slots := 0, locals := 0 } : Room).cells ({ frames := 0, cells := 0, slots := 0, locals := 0 } : Room).slots) s₁ (entryFrame m #[(.ref o)] 1)
  refine own_Go.of (g' := mkF m 0 #[.val (.ref o)] []) (fun t k => castTop (efnew313 m o) k) ?_
  refine og_aloadN (pc' := 1) X0 hx (hb hby d4_0) rfl rfl rfl ?_
  obtain ⟨T1, X1, e1, st1⟩ := getF X0 hx hZ hown (host := "") (Or.inl (hw _ (List.mem_of_getElem? (i := 11) rfl))) Via.refl e0 F1_o (g := (mkF m 1 #[.val (.ref o)] [(.ref o)])) rfl rfl (hb hby d4_1)
  refine own_Go.of (g' := (mkF m 4 #[.val (.ref o)] [(.ref b)])) (fun t k => st1 _ k) ?_
  refine og_aloadN (pc' := 5) X1 hx (hb hby d4_4) rfl rfl rfl ?_
  obtain ⟨T2, X2, e2, st2⟩ := getF X1 hx hZ hown (host := "") (Or.inl (hw _ (List.mem_of_getElem? (i := 20) rfl))) Via.refl e1 F2_o (g := (mkF m 5 #[.val (.ref o)] [(.ref o), (.ref b)])) rfl rfl (hb hby d4_5)
  refine own_Go.of (g' := (mkF m 8 #[.val (.ref o)] [(.int (1 : Int32)), (.ref b)])) (fun t k => st2 _ k) ?_
  refine og_aloadN (pc' := 9) X2 hx (hb hby d4_8) rfl rfl rfl ?_
  obtain ⟨T3, X3, e3, st3⟩ := getF X2 hx hZ hown (host := "") (Or.inl (hw _ (List.mem_of_getElem? (i := 18) rfl))) Via.refl e2 F3_o (g := (mkF m 9 #[.val (.ref o)] [(.ref o), (.int (1 : Int32)), (.ref b)])) rfl rfl (hb hby d4_9)
  refine own_Go.of (g' := (mkF m 12 #[.val (.ref o)] [(.int (3 : Int32)), (.int (1 : Int32)), (.ref b)])) (fun t k => st3 _ k) ?_
  refine og_iadd (pc' := 13) X3 hx (hb hby d4_12) rfl ?_
  rw [show ((1 : Int32) + (3 : Int32)) = (4 : Int32) from by decide]
  refine og_iconst (pc' := 14) (n := 1) X3 hx (hb hby d4_13) rfl rfl ?_
  refine og_isub (pc' := 15) X3 hx (hb hby d4_14) rfl ?_
  rw [show ((4 : Int32) - (1 : Int32)) = (3 : Int32) from by decide]
  refine og_aloadN (pc' := 16) X3 hx (hb hby d4_15) rfl rfl rfl ?_
  obtain ⟨T4, X4, e4, st4⟩ := getF X3 hx hZ hown (host := "") (Or.inl (hw _ (List.mem_of_getElem? (i := 11) rfl))) Via.refl e3 F1_o (g := (mkF m 16 #[.val (.ref o)] [(.ref o), (.int (3 : Int32)), (.ref b)])) rfl rfl (hb hby d4_16)
  refine own_Go.of (g' := (mkF m 19 #[.val (.ref o)] [(.ref b), (.int (3 : Int32)), (.ref b)])) (fun t k => st4 _ k) ?_
  obtain ⟨cl5, Ar5, q5, S5, M5, H5, G5⟩ := id V_b
  refine own_Go.of (g' := (mkF m 20 #[.val (.ref o)] [(.int (3 : Int32)), (.int (3 : Int32)), (.ref b)])) (fun t k => X4.arraylength hx (by rw [e4]; exact Ar5.1) (State.isArrayOf_alike hZ.alike Ar5.2.1) (g := (mkF m 19 #[.val (.ref o)] [(.ref b), (.int (3 : Int32)), (.ref b)])) rfl rfl (hb hby d4_19) _ (by rw [len_of S5 M5]; exact k)) ?_
  refine og_irem (pc' := 21) X4 hx (hb hby d4_20) (by decide) rfl ?_
  rw [show ((3 : Int32) % (3 : Int32)) = (0 : Int32) from by decide]
  obtain ⟨cl6, Ar6, q6, S6, M6, H6, G6⟩ := id V_b
  have hin6 : ¬ ((0 : Int32) < 0 ∨ cl6.slots.size ≤ ((0 : Int32)).toNatClampNeg) := inb_of S6 ⟨by decide, by decide⟩
  have hat6 : cl6.slots[((0 : Int32)).toNatClampNeg]? = some (.long v0) := Has.at H6 hin6 rfl
  refine own_Go.of (g' := (mkF m 22 #[.val (.ref o)] [(.long v0)])) (fun t k => X4.laload hx (j := (0 : Int32)) (v := (.long v0)) (by rw [e4]; exact Ar6.1) (State.isArrayOf_alike hZ.alike Ar6.2.1) Ar6.2.2 hin6 hat6 (g := (mkF m 21 #[.val (.ref o)] [(.int (0 : Int32)), (.ref b)])) rfl rfl (hb hby d4_21) _ k) ?_
  obtain ⟨fs, hr, hrun, hended, hW, hsame⟩ := X4.leave (v := some (.long v0)) (fun h => by rw [Bd.returns] at h; cases h) (BodyLoose.notSynchronized Bd)
  refine ⟨_, _, retL X4 hx Bd.returns (hb hby d4_22) hr, hrun, hended, some (.long v0), _, rfl, ?_, ⟨_, rfl⟩, hW, hsame.mono (by decide) (by decide)⟩
  show Qnew313 Z o b k v0 v1 v2 h0 n0 _ T4.heap _
  rw [e4]
  exact ⟨rfl, N0, rfl⟩

theorem pnadd3_313 : plainName "com/example/ostracon/ostracon/LastValues" = true := by first | (simp [plainName, overriddenIn]; done) | decide +kernel
theorem efadd3_313 (m : MethodId) (z0 : Addr) (z1 : Int64) : entryFrame m #[(.ref z0), (.long z1), (.int (3 : Int32))] 6 = mkF m 0 #[.val (.ref z0), .val (.long z1), .second, .val (.int (3 : Int32)), .unset, .unset] [] := by first | (simp [entryFrame, mkF, argsToLocals, Value.category]; done) | rfl
def Qadd3_313 (Z : State) (o : Addr) (x : Int64) (b : Addr) (k : ClassId) (v0 : Int64) (v1 : Int64) (v2 : Int64) (h0 : Heap) (n0 : Nat) (v : Option Value) (h : Heap) (L : List Loc) : Prop := v = some (.long v1) ∧ Fr n0 L ∧ Keep h0 h [o, b] ∧ Exa Z h o "com/example/ostracon/ostracon/LastValues" ∧ Fld Z h o "com/example/ostracon/ostracon/LastValues" "values" "[J" (.ref b) ∧ Fld Z h o "com/example/ostracon/ostracon/LastValues" "start" "I" (.int (2 : Int32)) ∧ Fld Z h o "com/example/ostracon/ostracon/LastValues" "count" "I" (.int (3 : Int32)) ∧ Arv Z h b k .long (3 : Int32) [(.long v0), (.long x), (.long v2)] (.long (0 : Int64))
set_option maxRecDepth 65536 in
set_option maxHeartbeats 40000000 in
theorem rmadd3_313 (l : Launch) (Z : State) (a0 : Array Value) (hw : ∀ d ∈ tables_1, d.before a0 Z = true) (ws : List Jvm.Cond) (o : Addr) (x : Int64) (b : Addr) (k : ClassId) (v0 : Int64) (v1 : Int64) (v2 : Int64) (h0 : Heap) (n0 : Nat) (Z0 : n0 ≤ h0.size) (E_o : Exa Z h0 o "com/example/ostracon/ostracon/LastValues") (F1_o : Fld Z h0 o "com/example/ostracon/ostracon/LastValues" "values" "[J" (.ref b)) (F2_o : Fld Z h0 o "com/example/ostracon/ostracon/LastValues" "start" "I" (.int (1 : Int32))) (F3_o : Fld Z h0 o "com/example/ostracon/ostracon/LastValues" "count" "I" (.int (3 : Int32))) (V_b : Arv Z h0 b k .long (3 : Int32) [(.long v0), (.long v1), (.long v2)] (.long (0 : Int64))) (g_o : n0 ≤ o) (g_b : n0 ≤ b) (ne_ob : o ≠ b) :
    MetFree l (⟨"com/example/ostracon/ostracon/LastValues", "add", "(JI)J"⟩ : MethodName) (head1 (Jvm.Cond.code (⟨"com/example/ostracon/ostracon/LastValues", "add", "(JI)J"⟩ : MethodName) prog_19_method_2_code 6 (some .long) :: ws) ({ frames := 0, cells := 0, slots := 0, locals := 0 } : Room)) (fun a U => a = #[(.ref o), (.long x), (.int (3 : Int32))] ∧ Z.Warmed39 U.vm ∧ U.heap = h0) (fun _ _ _ _ _ => True) (fun _ U oc U' => ∃ v L, oc = .returned v ∧ Qadd3_313 Z o x b k v0 v1 v2 h0 n0 v U'.heap L ∧ FrameEnd U oc U' L ({ frames := 0, cells := 0, slots := 0, locals := 0 } : Room).cells ({ frames := 0, cells := 0, slots := 0, locals := 0 } : Room).slots) := by
  refine MetFree.of_bodySF (plainFor_of_name pnadd3_313) hisR ?_
  intro p e s m args below meth c s₁ Bd hml0 hP hK
  obtain ⟨rfl, hZ, hh⟩ := hP
  have hx := Bd.exec
  have hby := Bd.bytes
  have hml : c.maxLocals = 6 := hml0
  have hown : s.vm.findClass "com/example/ostracon/ostracon/LastValues" = some m.cls := findClass_of_methodNamed Bd.named
  have hnm := (name_of_methodNamed Bd.named Bd.method).1
  have X0 : Stand p l e ({ frames := 0, cells := 0, slots := 0, locals := 0 } : Room) s m #[(.ref o), (.long x), (.int (3 : Int32))] below meth c s₁ [] 0 0 := Stand.of_body Bd
  have e0 : s₁.heap = h0 := by rw [← hh, Bd.state]; rfl
  have N0 := Fr.nil n0
  show own_Go p e below (fun s₂ oc => ∃ v L, oc = .returned v ∧ Qadd3_313 Z o x b k v0 v1 v2 h0 n0 v s₂.heap L ∧ FrameEnd s oc s₂ L ({ frames := 0, cells := 0, slots := 0, locals := 0 } : Room).cells ({ frames := 0, cells := 0, slots := 0, locals := 0 } : Room).slots) s₁ (entryFrame m #[(.ref o), (.long x), (.int (3 : Int32))] 6)
  refine own_Go.of (g' := mkF m 0 #[.val (.ref o), .val (.long x), .second, .val (.int (3 : Int32)), .unset, .unset] []) (fun t k => castTop (efadd3_313 m o x) k) ?_
  refine og_aloadN (pc' := 1) X0 hx (hb hby d3_0) rfl rfl rfl ?_
  obtain ⟨T1, X1, e1, st1⟩ := getF X0 hx hZ hown (host := "") (Or.inl (hw _ (List.mem_of_getElem? (i := 18) rfl))) Via.refl e0 F3_o (g := (mkF m 1 #[.val (.ref o), .val (.long x), .second, .val (.int (3 : Int32)), .unset, .unset] [(.ref o)])) rfl rfl (hb hby d3_1)
  refine own_Go.of (g' := (mkF m 4 #[.val (.ref o), .val (.long x), .second, .val (.int (3 : Int32)), .unset, .unset] [(.int (3 : Int32))])) (fun t k => st1 _ k) ?_
  refine og_iloadN (pc' := 5) X1 hx (hb hby d3_4) rfl rfl ?_
  refine og_icmpYes (pc' := 122) X1 hx (hb hby d3_5) (flt (by decide)).2.1 (by decide) (by decide) ?_
  refine og_aloadN (pc' := 123) X1 hx (hb hby d3_122) rfl rfl rfl ?_
  obtain ⟨T2, X2, e2, st2⟩ := getF X1 hx hZ hown (host := "") (Or.inl (hw _ (List.mem_of_getElem? (i := 11) rfl))) Via.refl e1 F1_o (g := (mkF m 123 #[.val (.ref o), .val (.long x), .second, .val (.int (3 : Int32)), .unset, .unset] [(.ref o)])) rfl rfl (hb hby d3_123)
  refine own_Go.of (g' := (mkF m 126 #[.val (.ref o), .val (.long x), .second, .val (.int (3 : Int32)), .unset, .unset] [(.ref b)])) (fun t k => st2 _ k) ?_
  refine og_aloadN (pc' := 127) X2 hx (hb hby d3_126) rfl rfl rfl ?_
  obtain ⟨T3, X3, e3, st3⟩ := getF X2 hx hZ hown (host := "") (Or.inl (hw _ (List.mem_of_getElem? (i := 20) rfl))) Via.refl e2 F2_o (g := (mkF m 127 #[.val (.ref o), .val (.long x), .second, .val (.int (3 : Int32)), .unset, .unset] [(.ref o), (.ref b)])) rfl rfl (hb hby d3_127)
  refine own_Go.of (g' := (mkF m 130 #[.val (.ref o), .val (.long x), .second, .val (.int (3 : Int32)), .unset, .unset] [(.int (1 : Int32)), (.ref b)])) (fun t k => st3 _ k) ?_
  obtain ⟨cl4, Ar4, q4, S4, M4, H4, G4⟩ := id V_b
  have hin4 : ¬ ((1 : Int32) < 0 ∨ cl4.slots.size ≤ ((1 : Int32)).toNatClampNeg) := inb_of S4 ⟨by decide, by decide⟩
  have hat4 : cl4.slots[((1 : Int32)).toNatClampNeg]? = some (.long v1) := Has.at H4 hin4 rfl
  refine own_Go.of (g' := (mkF m 131 #[.val (.ref o), .val (.long x), .second, .val (.int (3 : Int32)), .unset, .unset] [(.long v1)])) (fun t k => X3.laload hx (j := (1 : Int32)) (v := (.long v1)) (by rw [e3]; exact Ar4.1) (State.isArrayOf_alike hZ.alike Ar4.2.1) Ar4.2.2 hin4 hat4 (g := (mkF m 130 #[.val (.ref o), .val (.long x), .second, .val (.int (3 : Int32)), .unset, .unset] [(.int (1 : Int32)), (.ref b)])) rfl rfl (hb hby d3_130) _ k) ?_
  refine og_lstore (pc' := 133) (L' := #[.val (.ref o), .val (.long x), .second, .val (.int (3 : Int32)), .val (.long v1), .second]) X3 hx (hb hby d3_131) rfl rfl ?_
  refine og_aloadN (pc' := 134) X3 hx (hb hby d3_133) rfl rfl rfl ?_
  obtain ⟨T5, X5, e5, st5⟩ := getF X3 hx hZ hown (host := "") (Or.inl (hw _ (List.mem_of_getElem? (i := 11) rfl))) Via.refl e3 F1_o (g := (mkF m 134 #[.val (.ref o), .val (.long x), .second, .val (.int (3 : Int32)), .val (.long v1), .second] [(.ref o)])) rfl rfl (hb hby d3_134)
  refine own_Go.of (g' := (mkF m 137 #[.val (.ref o), .val (.long x), .second, .val (.int (3 : Int32)), .val (.long v1), .second] [(.ref b)])) (fun t k => st5 _ k) ?_
  refine og_aloadN (pc' := 138) X5 hx (hb hby d3_137) rfl rfl rfl ?_
  obtain ⟨T6, X6, e6, st6⟩ := getF X5 hx hZ hown (host := "") (Or.inl (hw _ (List.mem_of_getElem? (i := 20) rfl))) Via.refl e5 F2_o (g := (mkF m 138 #[.val (.ref o), .val (.long x), .second, .val (.int (3 : Int32)), .val (.long v1), .second] [(.ref o), (.ref b)])) rfl rfl (hb hby d3_138)
  refine own_Go.of (g' := (mkF m 141 #[.val (.ref o), .val (.long x), .second, .val (.int (3 : Int32)), .val (.long v1), .second] [(.int (1 : Int32)), (.ref b)])) (fun t k => st6 _ k) ?_
  refine og_lloadN (pc' := 142) X6 hx (hb hby d3_141) rfl rfl ?_
  obtain ⟨cl7, Ar7, q7, S7, M7, H7, G7⟩ := id V_b
  have hin7 : ¬ ((1 : Int32) < 0 ∨ cl7.slots.size ≤ ((1 : Int32)).toNatClampNeg) := inb_of S7 ⟨by decide, by decide⟩
  obtain ⟨T7, h7, X7, e7, W7, st7⟩ := stJ X6 hx hZ e6 Ar7 (j := (1 : Int32)) hin7 (g := (mkF m 142 #[.val (.ref o), .val (.long x), .second, .val (.int (3 : Int32)), .val (.long v1), .second] [(.long x), (.int (1 : Int32)), (.ref b)])) rfl rfl (hb hby d3_142)
  have V7 : Arv Z h7 b k .long (3 : Int32) [(.long v0), (.long x), (.long v2)] (.long (0 : Int64)) := Arv.set Ar7 q7 S7 M7 H7 G7 rfl W7 1 rfl (Nat.le_of_ble_eq_true rfl)
  have f7_0 := E_o.wr W7
  have f7_1 := F1_o.other W7 (Or.inl ne_ob)
  have f7_2 := F2_o.other W7 (Or.inl ne_ob)
  have f7_3 := F3_o.other W7 (Or.inl ne_ob)
  have K7 : Keep h0 h7 [o, b] := (Keep.refl h0 [o, b]).wr W7 (Or.inl (List.mem_of_getElem? (i := 1) rfl))
  have Z7 : n0 ≤ h7.size := Nat.le_trans Z0 K7.1
  have N7 := Fr.snoc X7 N0 g_b
  refine own_Go.of (g' := (mkF m 143 #[.val (.ref o), .val (.long x), .second, .val (.int (3 : Int32)), .val (.long v1), .second] [])) (fun t k => st7 _ k) ?_
  refine og_aloadN (pc' := 144) X7 hx (hb hby d3_143) rfl rfl rfl ?_
  refine og_aloadN (pc' := 145) X7 hx (hb hby d3_144) rfl rfl rfl ?_
  obtain ⟨T8, X8, e8, st8⟩ := getF X7 hx hZ hown (host := "") (Or.inl (hw _ (List.mem_of_getElem? (i := 20) rfl))) Via.refl e7 f7_2 (g := (mkF m 145 #[.val (.ref o), .val (.long x), .second, .val (.int (3 : Int32)), .val (.long v1), .second] [(.ref o), (.ref o)])) rfl rfl (hb hby d3_145)
  refine own_Go.of (g' := (mkF m 148 #[.val (.ref o), .val (.long x), .second, .val (.int (3 : Int32)), .val (.long v1), .second] [(.int (1 : Int32)), (.ref o)])) (fun t k => st8 _ k) ?_
  refine og_iconst (pc' := 149) (n := 1) X8 hx (hb hby d3_148) rfl rfl ?_
  refine og_iadd (pc' := 150) X8 hx (hb hby d3_149) rfl ?_
  rw [show ((1 : Int32) + (1 : Int32)) = (2 : Int32) from by decide]
  refine og_aloadN (pc' := 151) X8 hx (hb hby d3_150) rfl rfl rfl ?_
  obtain ⟨T9, X9, e9, st9⟩ := getF X8 hx hZ hown (host := "") (Or.inl (hw _ (List.mem_of_getElem? (i := 11) rfl))) Via.refl e8 f7_1 (g := (mkF m 151 #[.val (.ref o), .val (.long x), .second, .val (.int (3 : Int32)), .val (.long v1), .second] [(.ref o), (.int (2 : Int32)), (.ref o)])) rfl rfl (hb hby d3_151)
  refine own_Go.of (g' := (mkF m 154 #[.val (.ref o), .val (.long x), .second, .val (.int (3 : Int32)), .val (.long v1), .second] [(.ref b), (.int (2 : Int32)), (.ref o)])) (fun t k => st9 _ k) ?_
  obtain ⟨cl10, Ar10, q10, S10, M10, H10, G10⟩ := id V7
  refine own_Go.of (g' := (mkF m 155 #[.val (.ref o), .val (.long x), .second, .val (.int (3 : Int32)), .val (.long v1), .second] [(.int (3 : Int32)), (.int (2 : Int32)), (.ref o)])) (fun t k => X9.arraylength hx (by rw [e9]; exact Ar10.1) (State.isArrayOf_alike hZ.alike Ar10.2.1) (g := (mkF m 154 #[.val (.ref o), .val (.long x), .second, .val (.int (3 : Int32)), .val (.long v1), .second] [(.ref b), (.int (2 : Int32)), (.ref o)])) rfl rfl (hb hby d3_154) _ (by rw [len_of S10 M10]; exact k)) ?_
  refine og_irem (pc' := 156) X9 hx (hb hby d3_155) (by decide) rfl ?_
  rw [show ((2 : Int32) % (3 : Int32)) = (2 : Int32) from by decide]
  obtain ⟨T11, h11, X11, e11, W11, st11⟩ := putF X9 hx hZ hown (host := "") (Or.inl (hw _ (List.mem_of_getElem? (i := 20) rfl))) Via.refl e9 f7_2 f7_0 (Or.inl (hw _ (List.mem_of_getElem? (i := 21) rfl))) (hw _ (List.mem_of_getElem? (i := 2) rfl)) (ty := .int) (by decide) rfl rfl (g := (mkF m 156 #[.val (.ref o), .val (.long x), .second, .val (.int (3 : Int32)), .val (.long v1), .second] [(.int (2 : Int32)), (.ref o)])) rfl rfl (hb hby d3_156)
  have w11 : Fld Z h11 o "com/example/ostracon/ostracon/LastValues" "start" "I" (.int (2 : Int32)) := f7_2.same W11
  have f11_0 := f7_0.wr W11
  have f11_1 := f7_1.other W11 (Or.inr (slot_ne (a0 := a0) (C := "com/example/ostracon/ostracon/LastValues") (Or.inl (hw _ (List.mem_of_getElem? (i := 12) rfl))) (Or.inl (hw _ (List.mem_of_getElem? (i := 21) rfl))) (by decide) (t := (.array .long)) (t' := .int) (by decide) (by decide)))
  have f11_2 := f7_3.other W11 (Or.inr (slot_ne (a0 := a0) (C := "com/example/ostracon/ostracon/LastValues") (Or.inl (hw _ (List.mem_of_getElem? (i := 19) rfl))) (Or.inl (hw _ (List.mem_of_getElem? (i := 21) rfl))) (by decide) (t := .int) (t' := .int) (by decide) (by decide)))
  have f11_6 := V7.other W11 (Ne.symm ne_ob)
  have K11 : Keep h0 h11 [o, b] := K7.wr W11 (Or.inl (List.mem_of_getElem? (i := 0) rfl))
  have Z11 : n0 ≤ h11.size := Nat.le_trans Z0 K11.1
  have N11 := Fr.snoc X11 N7 g_o
  refine own_Go.of (g' := (mkF m 159 #[.val (.ref o), .val (.long x), .second, .val (.int (3 : Int32)), .val (.long v1), .second] [])) (fun t k => st11 _ k) ?_
  refine og_lload (pc' := 161) X11 hx (hb hby d3_159) rfl rfl ?_
  obtain ⟨fs, hr, hrun, hended, hW, hsame⟩ := X11.leave (v := some (.long v1)) (fun h => by rw [Bd.returns] at h; cases h) (BodyLoose.notSynchronized Bd)
  refine ⟨_, _, retL X11 hx Bd.returns (hb hby d3_161) hr, hrun, hended, some (.long v1), _, rfl, ?_, ⟨_, rfl⟩, hW, hsame.mono (by decide) (by decide)⟩
  show Qadd3_313 Z o x b k v0 v1 v2 h0 n0 _ T11.heap _
  rw [e11]
  exact ⟨rfl, N11, K11, f11_0, f11_1, w11, f11_2, f11_6⟩

theorem pnnew323 : plainName "com/example/ostracon/ostracon/LastValues" = true := by first | (simp [plainName, overriddenIn]; done) | decide +kernel
theorem efnew323 (m : MethodId) (z0 : Addr) : entryFrame m #[(.ref z0)] 1 = mkF m 0 #[.val (.ref z0)] [] := by first | (simp [entryFrame, mkF, argsToLocals, Value.category]; done) | rfl
def Qnew323 (Z : State) (o : Addr) (b : Addr) (k : ClassId) (v0 : Int64) (v1 : Int64) (v2 : Int64) (h0 : Heap) (n0 : Nat) (v : Option Value) (h : Heap) (L : List Loc) : Prop := v = some (.long v1) ∧ Fr n0 L ∧ h = h0
set_option maxRecDepth 65536 in
set_option maxHeartbeats 40000000 in
theorem rmnew323 (l : Launch) (Z : State) (a0 : Array Value) (hw : ∀ d ∈ tables_1, d.before a0 Z = true) (ws : List Jvm.Cond) (o : Addr) (b : Addr) (k : ClassId) (v0 : Int64) (v1 : Int64) (v2 : Int64) (h0 : Heap) (n0 : Nat) (Z0 : n0 ≤ h0.size) (E_o : Exa Z h0 o "com/example/ostracon/ostracon/LastValues") (F1_o : Fld Z h0 o "com/example/ostracon/ostracon/LastValues" "values" "[J" (.ref b)) (F2_o : Fld Z h0 o "com/example/ostracon/ostracon/LastValues" "start" "I" (.int (2 : Int32))) (F3_o : Fld Z h0 o "com/example/ostracon/ostracon/LastValues" "count" "I" (.int (3 : Int32))) (V_b : Arv Z h0 b k .long (3 : Int32) [(.long v0), (.long v1), (.long v2)] (.long (0 : Int64))) :
    MetFree l (⟨"com/example/ostracon/ostracon/LastValues", "newest", "()J"⟩ : MethodName) (head1 (Jvm.Cond.code (⟨"com/example/ostracon/ostracon/LastValues", "newest", "()J"⟩ : MethodName) prog_19_method_5_code 1 (some .long) :: ws) ({ frames := 0, cells := 0, slots := 0, locals := 0 } : Room)) (fun a U => a = #[(.ref o)] ∧ Z.Warmed39 U.vm ∧ U.heap = h0) (fun _ _ _ _ _ => True) (fun _ U oc U' => ∃ v L, oc = .returned v ∧ Qnew323 Z o b k v0 v1 v2 h0 n0 v U'.heap L ∧ FrameEnd U oc U' L ({ frames := 0, cells := 0, slots := 0, locals := 0 } : Room).cells ({ frames := 0, cells := 0, slots := 0, locals := 0 } : Room).slots) := by
  refine MetFree.of_bodySF (plainFor_of_name pnnew323) hisR ?_
  intro p e s m args below meth c s₁ Bd hml0 hP hK
  obtain ⟨rfl, hZ, hh⟩ := hP
  have hx := Bd.exec
  have hby := Bd.bytes
  have hml : c.maxLocals = 1 := hml0
  have hown : s.vm.findClass "com/example/ostracon/ostracon/LastValues" = some m.cls := findClass_of_methodNamed Bd.named
  have hnm := (name_of_methodNamed Bd.named Bd.method).1
  have X0 : Stand p l e ({ frames := 0, cells := 0, slots := 0, locals := 0 } : Room) s m #[(.ref o)] below meth c s₁ [] 0 0 := Stand.of_body Bd
  have e0 : s₁.heap = h0 := by rw [← hh, Bd.state]; rfl
  have N0 := Fr.nil n0
  show own_Go p e below (fun s₂ oc => ∃ v L, oc = .returned v ∧ Qnew323 Z o b k v0 v1 v2 h0 n0 v s₂.heap L ∧ FrameEnd s oc s₂ L ({ frames := 0, cells := 0, slots := 0, locals := 0 } : Room).cells ({ frames := 0, cells := 0, slots := 0, locals := 0 } : Room).slots) s₁ (entryFrame m #[(.ref o)] 1)
  refine own_Go.of (g' := mkF m 0 #[.val (.ref o)] []) (fun t k => castTop (efnew323 m o) k) ?_
  refine og_aloadN (pc' := 1) X0 hx (hb hby d4_0) rfl rfl rfl ?_
  obtain ⟨T1, X1, e1, st1⟩ := getF X0 hx hZ hown (host := "") (Or.inl (hw _ (List.mem_of_getElem? (i := 11) rfl))) Via.refl e0 F1_o (g := (mkF m 1 #[.val (.ref o)] [(.ref o)])) rfl rfl (hb hby d4_1)
  refine own_Go.of (g' := (mkF m 4 #[.val (.ref o)] [(.ref b)])) (fun t k => st1 _ k) ?_
  refine og_aloadN (pc' := 5) X1 hx (hb hby d4_4) rfl rfl rfl ?_
  obtain ⟨T2, X2, e2, st2⟩ := getF X1 hx hZ hown (host := "") (Or.inl (hw _ (List.mem_of_getElem? (i := 20) rfl))) Via.refl e1 F2_o (g := (mkF m 5 #[.val (.ref o)] [(.ref o), (.ref b)])) rfl rfl (hb hby d4_5)
  refine own_Go.of (g' := (mkF m 8 #[.val (.ref o)] [(.int (2 : Int32)), (.ref b)])) (fun t k => st2 _ k) ?_
  refine og_aloadN (pc' := 9) X2 hx (hb hby d4_8) rfl rfl rfl ?_
  obtain ⟨T3, X3, e3, st3⟩ := getF X2 hx hZ hown (host := "") (Or.inl (hw _ (List.mem_of_getElem? (i := 18) rfl))) Via.refl e2 F3_o (g := (mkF m 9 #[.val (.ref o)] [(.ref o), (.int (2 : Int32)), (.ref b)])) rfl rfl (hb hby d4_9)
  refine own_Go.of (g' := (mkF m 12 #[.val (.ref o)] [(.int (3 : Int32)), (.int (2 : Int32)), (.ref b)])) (fun t k => st3 _ k) ?_
  refine og_iadd (pc' := 13) X3 hx (hb hby d4_12) rfl ?_
  rw [show ((2 : Int32) + (3 : Int32)) = (5 : Int32) from by decide]
  refine og_iconst (pc' := 14) (n := 1) X3 hx (hb hby d4_13) rfl rfl ?_
  refine og_isub (pc' := 15) X3 hx (hb hby d4_14) rfl ?_
  rw [show ((5 : Int32) - (1 : Int32)) = (4 : Int32) from by decide]
  refine og_aloadN (pc' := 16) X3 hx (hb hby d4_15) rfl rfl rfl ?_
  obtain ⟨T4, X4, e4, st4⟩ := getF X3 hx hZ hown (host := "") (Or.inl (hw _ (List.mem_of_getElem? (i := 11) rfl))) Via.refl e3 F1_o (g := (mkF m 16 #[.val (.ref o)] [(.ref o), (.int (4 : Int32)), (.ref b)])) rfl rfl (hb hby d4_16)
  refine own_Go.of (g' := (mkF m 19 #[.val (.ref o)] [(.ref b), (.int (4 : Int32)), (.ref b)])) (fun t k => st4 _ k) ?_
  obtain ⟨cl5, Ar5, q5, S5, M5, H5, G5⟩ := id V_b
  refine own_Go.of (g' := (mkF m 20 #[.val (.ref o)] [(.int (3 : Int32)), (.int (4 : Int32)), (.ref b)])) (fun t k => X4.arraylength hx (by rw [e4]; exact Ar5.1) (State.isArrayOf_alike hZ.alike Ar5.2.1) (g := (mkF m 19 #[.val (.ref o)] [(.ref b), (.int (4 : Int32)), (.ref b)])) rfl rfl (hb hby d4_19) _ (by rw [len_of S5 M5]; exact k)) ?_
  refine og_irem (pc' := 21) X4 hx (hb hby d4_20) (by decide) rfl ?_
  rw [show ((4 : Int32) % (3 : Int32)) = (1 : Int32) from by decide]
  obtain ⟨cl6, Ar6, q6, S6, M6, H6, G6⟩ := id V_b
  have hin6 : ¬ ((1 : Int32) < 0 ∨ cl6.slots.size ≤ ((1 : Int32)).toNatClampNeg) := inb_of S6 ⟨by decide, by decide⟩
  have hat6 : cl6.slots[((1 : Int32)).toNatClampNeg]? = some (.long v1) := Has.at H6 hin6 rfl
  refine own_Go.of (g' := (mkF m 22 #[.val (.ref o)] [(.long v1)])) (fun t k => X4.laload hx (j := (1 : Int32)) (v := (.long v1)) (by rw [e4]; exact Ar6.1) (State.isArrayOf_alike hZ.alike Ar6.2.1) Ar6.2.2 hin6 hat6 (g := (mkF m 21 #[.val (.ref o)] [(.int (1 : Int32)), (.ref b)])) rfl rfl (hb hby d4_21) _ k) ?_
  obtain ⟨fs, hr, hrun, hended, hW, hsame⟩ := X4.leave (v := some (.long v1)) (fun h => by rw [Bd.returns] at h; cases h) (BodyLoose.notSynchronized Bd)
  refine ⟨_, _, retL X4 hx Bd.returns (hb hby d4_22) hr, hrun, hended, some (.long v1), _, rfl, ?_, ⟨_, rfl⟩, hW, hsame.mono (by decide) (by decide)⟩
  show Qnew323 Z o b k v0 v1 v2 h0 n0 _ T4.heap _
  rw [e4]
  exact ⟨rfl, N0, rfl⟩

theorem pnadd4_100 : plainName "com/example/ostracon/ostracon/LastValues" = true := by first | (simp [plainName, overriddenIn]; done) | decide +kernel
theorem efadd4_100 (m : MethodId) (z0 : Addr) (z1 : Int64) : entryFrame m #[(.ref z0), (.long z1), (.int (4 : Int32))] 6 = mkF m 0 #[.val (.ref z0), .val (.long z1), .second, .val (.int (4 : Int32)), .unset, .unset] [] := by first | (simp [entryFrame, mkF, argsToLocals, Value.category]; done) | rfl
def Qadd4_100 (Z : State) (o : Addr) (x : Int64) (b : Addr) (k : ClassId) (v0 : Int64) (h0 : Heap) (n0 : Nat) (v : Option Value) (h : Heap) (L : List Loc) : Prop := v = some (.long (-1 : Int64)) ∧ Fr n0 L ∧ Keep h0 h [o, b] ∧ Exa Z h o "com/example/ostracon/ostracon/LastValues" ∧ Fld Z h o "com/example/ostracon/ostracon/LastValues" "values" "[J" (.ref b) ∧ Fld Z h o "com/example/ostracon/ostracon/LastValues" "start" "I" (.int (0 : Int32)) ∧ Fld Z h o "com/example/ostracon/ostracon/LastValues" "count" "I" (.int (1 : Int32)) ∧ Arv Z h b k .long (1 : Int32) [(.long x)] (.long (0 : Int64))
set_option maxRecDepth 65536 in
set_option maxHeartbeats 40000000 in
theorem rmadd4_100 (l : Launch) (Z : State) (a0 : Array Value) (hw : ∀ d ∈ tables_1, d.before a0 Z = true) (ws : List Jvm.Cond) (o : Addr) (x : Int64) (b : Addr) (k : ClassId) (v0 : Int64) (h0 : Heap) (n0 : Nat) (Z0 : n0 ≤ h0.size) (E_o : Exa Z h0 o "com/example/ostracon/ostracon/LastValues") (F1_o : Fld Z h0 o "com/example/ostracon/ostracon/LastValues" "values" "[J" (.ref b)) (F2_o : Fld Z h0 o "com/example/ostracon/ostracon/LastValues" "start" "I" (.int (0 : Int32))) (F3_o : Fld Z h0 o "com/example/ostracon/ostracon/LastValues" "count" "I" (.int (0 : Int32))) (V_b : Arv Z h0 b k .long (1 : Int32) [(.long v0)] (.long (0 : Int64))) (g_o : n0 ≤ o) (g_b : n0 ≤ b) (ne_ob : o ≠ b) :
    MetFree l (⟨"com/example/ostracon/ostracon/LastValues", "add", "(JI)J"⟩ : MethodName) (head1 (Jvm.Cond.code (⟨"com/example/ostracon/ostracon/LastValues", "add", "(JI)J"⟩ : MethodName) prog_19_method_2_code 6 (some .long) :: ws) ({ frames := 0, cells := 0, slots := 0, locals := 0 } : Room)) (fun a U => a = #[(.ref o), (.long x), (.int (4 : Int32))] ∧ Z.Warmed39 U.vm ∧ U.heap = h0) (fun _ _ _ _ _ => True) (fun _ U oc U' => ∃ v L, oc = .returned v ∧ Qadd4_100 Z o x b k v0 h0 n0 v U'.heap L ∧ FrameEnd U oc U' L ({ frames := 0, cells := 0, slots := 0, locals := 0 } : Room).cells ({ frames := 0, cells := 0, slots := 0, locals := 0 } : Room).slots) := by
  refine MetFree.of_bodySF (plainFor_of_name pnadd4_100) hisR ?_
  intro p e s m args below meth c s₁ Bd hml0 hP hK
  obtain ⟨rfl, hZ, hh⟩ := hP
  have hx := Bd.exec
  have hby := Bd.bytes
  have hml : c.maxLocals = 6 := hml0
  have hown : s.vm.findClass "com/example/ostracon/ostracon/LastValues" = some m.cls := findClass_of_methodNamed Bd.named
  have hnm := (name_of_methodNamed Bd.named Bd.method).1
  have X0 : Stand p l e ({ frames := 0, cells := 0, slots := 0, locals := 0 } : Room) s m #[(.ref o), (.long x), (.int (4 : Int32))] below meth c s₁ [] 0 0 := Stand.of_body Bd
  have e0 : s₁.heap = h0 := by rw [← hh, Bd.state]; rfl
  have N0 := Fr.nil n0
  show own_Go p e below (fun s₂ oc => ∃ v L, oc = .returned v ∧ Qadd4_100 Z o x b k v0 h0 n0 v s₂.heap L ∧ FrameEnd s oc s₂ L ({ frames := 0, cells := 0, slots := 0, locals := 0 } : Room).cells ({ frames := 0, cells := 0, slots := 0, locals := 0 } : Room).slots) s₁ (entryFrame m #[(.ref o), (.long x), (.int (4 : Int32))] 6)
  refine own_Go.of (g' := mkF m 0 #[.val (.ref o), .val (.long x), .second, .val (.int (4 : Int32)), .unset, .unset] []) (fun t k => castTop (efadd4_100 m o x) k) ?_
  refine og_aloadN (pc' := 1) X0 hx (hb hby d3_0) rfl rfl rfl ?_
  obtain ⟨T1, X1, e1, st1⟩ := getF X0 hx hZ hown (host := "") (Or.inl (hw _ (List.mem_of_getElem? (i := 18) rfl))) Via.refl e0 F3_o (g := (mkF m 1 #[.val (.ref o), .val (.long x), .second, .val (.int (4 : Int32)), .unset, .unset] [(.ref o)])) rfl rfl (hb hby d3_1)
  refine own_Go.of (g' := (mkF m 4 #[.val (.ref o), .val (.long x), .second, .val (.int (4 : Int32)), .unset, .unset] [(.int (0 : Int32))])) (fun t k => st1 _ k) ?_
  refine og_iloadN (pc' := 5) X1 hx (hb hby d3_4) rfl rfl ?_
  refine og_icmpNo (pc' := 8) X1 hx (hb hby d3_5) (tlt (by decide)).2.1 rfl ?_
  refine og_aloadN (pc' := 9) X1 hx (hb hby d3_8) rfl rfl rfl ?_
  obtain ⟨T2, X2, e2, st2⟩ := getF X1 hx hZ hown (host := "") (Or.inl (hw _ (List.mem_of_getElem? (i := 18) rfl))) Via.refl e1 F3_o (g := (mkF m 9 #[.val (.ref o), .val (.long x), .second, .val (.int (4 : Int32)), .unset, .unset] [(.ref o)])) rfl rfl (hb hby d3_9)
  refine own_Go.of (g' := (mkF m 12 #[.val (.ref o), .val (.long x), .second, .val (.int (4 : Int32)), .unset, .unset] [(.int (0 : Int32))])) (fun t k => st2 _ k) ?_
  refine og_aloadN (pc' := 13) X2 hx (hb hby d3_12) rfl rfl rfl ?_
  obtain ⟨T3, X3, e3, st3⟩ := getF X2 hx hZ hown (host := "") (Or.inl (hw _ (List.mem_of_getElem? (i := 11) rfl))) Via.refl e2 F1_o (g := (mkF m 13 #[.val (.ref o), .val (.long x), .second, .val (.int (4 : Int32)), .unset, .unset] [(.ref o), (.int (0 : Int32))])) rfl rfl (hb hby d3_13)
  refine own_Go.of (g' := (mkF m 16 #[.val (.ref o), .val (.long x), .second, .val (.int (4 : Int32)), .unset, .unset] [(.ref b), (.int (0 : Int32))])) (fun t k => st3 _ k) ?_
  obtain ⟨cl4, Ar4, q4, S4, M4, H4, G4⟩ := id V_b
  refine own_Go.of (g' := (mkF m 17 #[.val (.ref o), .val (.long x), .second, .val (.int (4 : Int32)), .unset, .unset] [(.int (1 : Int32)), (.int (0 : Int32))])) (fun t k => X3.arraylength hx (by rw [e3]; exact Ar4.1) (State.isArrayOf_alike hZ.alike Ar4.2.1) (g := (mkF m 16 #[.val (.ref o), .val (.long x), .second, .val (.int (4 : Int32)), .unset, .unset] [(.ref b), (.int (0 : Int32))])) rfl rfl (hb hby d3_16) _ (by rw [len_of S4 M4]; exact k)) ?_
  refine og_icmpYes (pc' := 87) X3 hx (hb hby d3_17) (feq (by decide)).2 (by decide) (by decide) ?_
  refine og_aloadN (pc' := 88) X3 hx (hb hby d3_87) rfl rfl rfl ?_
  obtain ⟨T5, X5, e5, st5⟩ := getF X3 hx hZ hown (host := "") (Or.inl (hw _ (List.mem_of_getElem? (i := 11) rfl))) Via.refl e3 F1_o (g := (mkF m 88 #[.val (.ref o), .val (.long x), .second, .val (.int (4 : Int32)), .unset, .unset] [(.ref o)])) rfl rfl (hb hby d3_88)
  refine own_Go.of (g' := (mkF m 91 #[.val (.ref o), .val (.long x), .second, .val (.int (4 : Int32)), .unset, .unset] [(.ref b)])) (fun t k => st5 _ k) ?_
  refine og_aloadN (pc' := 92) X5 hx (hb hby d3_91) rfl rfl rfl ?_
  obtain ⟨T6, X6, e6, st6⟩ := getF X5 hx hZ hown (host := "") (Or.inl (hw _ (List.mem_of_getElem? (i := 20) rfl))) Via.refl e5 F2_o (g := (mkF m 92 #[.val (.ref o), .val (.long x), .second, .val (.int (4 : Int32)), .unset, .unset] [(.ref o), (.ref b)])) rfl rfl (hb hby d3_92)
  refine own_Go.of (g' := (mkF m 95 #[.val (.ref o), .val (.long x), .second, .val (.int (4 : Int32)), .unset, .unset] [(.int (0 : Int32)), (.ref b)])) (fun t k => st6 _ k) ?_
  refine og_aloadN (pc' := 96) X6 hx (hb hby d3_95) rfl rfl rfl ?_
  obtain ⟨T7, X7, e7, st7⟩ := getF X6 hx hZ hown (host := "") (Or.inl (hw _ (List.mem_of_getElem? (i := 18) rfl))) Via.refl e6 F3_o (g := (mkF m 96 #[.val (.ref o), .val (.long x), .second, .val (.int (4 : Int32)), .unset, .unset] [(.ref o), (.int (0 : Int32)), (.ref b)])) rfl rfl (hb hby d3_96)
  refine own_Go.of (g' := (mkF m 99 #[.val (.ref o), .val (.long x), .second, .val (.int (4 : Int32)), .unset, .unset] [(.int (0 : Int32)), (.int (0 : Int32)), (.ref b)])) (fun t k => st7 _ k) ?_
  refine og_iadd (pc' := 100) X7 hx (hb hby d3_99) rfl ?_
  rw [show ((0 : Int32) + (0 : Int32)) = (0 : Int32) from by decide]
  refine og_aloadN (pc' := 101) X7 hx (hb hby d3_100) rfl rfl rfl ?_
  obtain ⟨T8, X8, e8, st8⟩ := getF X7 hx hZ hown (host := "") (Or.inl (hw _ (List.mem_of_getElem? (i := 11) rfl))) Via.refl e7 F1_o (g := (mkF m 101 #[.val (.ref o), .val (.long x), .second, .val (.int (4 : Int32)), .unset, .unset] [(.ref o), (.int (0 : Int32)), (.ref b)])) rfl rfl (hb hby d3_101)
  refine own_Go.of (g' := (mkF m 104 #[.val (.ref o), .val (.long x), .second, .val (.int (4 : Int32)), .unset, .unset] [(.ref b), (.int (0 : Int32)), (.ref b)])) (fun t k => st8 _ k) ?_
  obtain ⟨cl9, Ar9, q9, S9, M9, H9, G9⟩ := id V_b
  refine own_Go.of (g' := (mkF m 105 #[.val (.ref o), .val (.long x), .second, .val (.int (4 : Int32)), .unset, .unset] [(.int (1 : Int32)), (.int (0 : Int32)), (.ref b)])) (fun t k => X8.arraylength hx (by rw [e8]; exact Ar9.1) (State.isArrayOf_alike hZ.alike Ar9.2.1) (g := (mkF m 104 #[.val (.ref o), .val (.long x), .second, .val (.int (4 : Int32)), .unset, .unset] [(.ref b), (.int (0 : Int32)), (.ref b)])) rfl rfl (hb hby d3_104) _ (by rw [len_of S9 M9]; exact k)) ?_
  refine og_irem (pc' := 106) X8 hx (hb hby d3_105) (by decide) rfl ?_
  rw [show ((0 : Int32) % (1 : Int32)) = (0 : Int32) from by decide]
  refine og_lloadN (pc' := 107) X8 hx (hb hby d3_106) rfl rfl ?_
  obtain ⟨cl10, Ar10, q10, S10, M10, H10, G10⟩ := id V_b
  have hin10 : ¬ ((0 : Int32) < 0 ∨ cl10.slots.size ≤ ((0 : Int32)).toNatClampNeg) := inb_of S10 ⟨by decide, by decide⟩
  obtain ⟨T10, h10, X10, e10, W10, st10⟩ := stJ X8 hx hZ e8 Ar10 (j := (0 : Int32)) hin10 (g := (mkF m 107 #[.val (.ref o), .val (.long x), .second, .val (.int (4 : Int32)), .unset, .unset] [(.long x), (.int (0 : Int32)), (.ref b)])) rfl rfl (hb hby d3_107)
  have V10 : Arv Z h10 b k .long (1 : Int32) [(.long x)] (.long (0 : Int64)) := Arv.set Ar10 q10 S10 M10 H10 G10 rfl W10 0 rfl (Nat.le_of_ble_eq_true rfl)
  have f10_0 := E_o.wr W10
  have f10_1 := F1_o.other W10 (Or.inl ne_ob)
  have f10_2 := F2_o.other W10 (Or.inl ne_ob)
  have f10_3 := F3_o.other W10 (Or.inl ne_ob)
  have K10 : Keep h0 h10 [o, b] := (Keep.refl h0 [o, b]).wr W10 (Or.inl (List.mem_of_getElem? (i := 1) rfl))
  have Z10 : n0 ≤ h10.size := Nat.le_trans Z0 K10.1
  have N10 := Fr.snoc X10 N0 g_b
  refine own_Go.of (g' := (mkF m 108 #[.val (.ref o), .val (.long x), .second, .val (.int (4 : Int32)), .unset, .unset] [])) (fun t k => st10 _ k) ?_
  refine og_aloadN (pc' := 109) X10 hx (hb hby d3_108) rfl rfl rfl ?_
  refine og_dup (pc' := 110) X10 hx (hb hby d3_109) rfl rfl ?_
  obtain ⟨T11, X11, e11, st11⟩ := getF X10 hx hZ hown (host := "") (Or.inl (hw _ (List.mem_of_getElem? (i := 18) rfl))) Via.refl e10 f10_3 (g := (mkF m 110 #[.val (.ref o), .val (.long x), .second, .val (.int (4 : Int32)), .unset, .unset] [(.ref o), (.ref o)])) rfl rfl (hb hby d3_110)
  refine own_Go.of (g' := (mkF m 113 #[.val (.ref o), .val (.long x), .second, .val (.int (4 : Int32)), .unset, .unset] [(.int (0 : Int32)), (.ref o)])) (fun t k => st11 _ k) ?_
  refine og_iconst (pc' := 114) (n := 1) X11 hx (hb hby d3_113) rfl rfl ?_
  refine og_iadd (pc' := 115) X11 hx (hb hby d3_114) rfl ?_
  rw [show ((0 : Int32) + (1 : Int32)) = (1 : Int32) from by decide]
  obtain ⟨T12, h12, X12, e12, W12, st12⟩ := putF X11 hx hZ hown (host := "") (Or.inl (hw _ (List.mem_of_getElem? (i := 18) rfl))) Via.refl e11 f10_3 f10_0 (Or.inl (hw _ (List.mem_of_getElem? (i := 19) rfl))) (hw _ (List.mem_of_getElem? (i := 2) rfl)) (ty := .int) (by decide) rfl rfl (g := (mkF m 115 #[.val (.ref o), .val (.long x), .second, .val (.int (4 : Int32)), .unset, .unset] [(.int (1 : Int32)), (.ref o)])) rfl rfl (hb hby d3_115)
  have w12 : Fld Z h12 o "com/example/ostracon/ostracon/LastValues" "count" "I" (.int (1 : Int32)) := f10_3.same W12
  have f12_0 := f10_0.wr W12
  have f12_1 := f10_1.other W12 (Or.inr (slot_ne (a0 := a0) (C := "com/example/ostracon/ostracon/LastValues") (Or.inl (hw _ (List.mem_of_getElem? (i := 12) rfl))) (Or.inl (hw _ (List.mem_of_getElem? (i := 19) rfl))) (by decide) (t := (.array .long)) (t' := .int) (by decide) (by decide)))
  have f12_2 := f10_2.other W12 (Or.inr (slot_ne (a0 := a0) (C := "com/example/ostracon/ostracon/LastValues") (Or.inl (hw _ (List.mem_of_getElem? (i := 21) rfl))) (Or.inl (hw _ (List.mem_of_getElem? (i := 19) rfl))) (by decide) (t := .int) (t' := .int) (by decide) (by decide)))
  have f12_6 := V10.other W12 (Ne.symm ne_ob)
  have K12 : Keep h0 h12 [o, b] := K10.wr W12 (Or.inl (List.mem_of_getElem? (i := 0) rfl))
  have Z12 : n0 ≤ h12.size := Nat.le_trans Z0 K12.1
  have N12 := Fr.snoc X12 N10 g_o
  refine own_Go.of (g' := (mkF m 118 #[.val (.ref o), .val (.long x), .second, .val (.int (4 : Int32)), .unset, .unset] [])) (fun t k => st12 _ k) ?_
  refine og_ldc2_w (pc' := 121) X12 hx (hb hby d3_118) hown (mvT hZ (hw _ (List.mem_of_getElem? (i := 22) rfl))) rfl ?_
  obtain ⟨fs, hr, hrun, hended, hW, hsame⟩ := X12.leave (v := some (.long (-1 : Int64))) (fun h => by rw [Bd.returns] at h; cases h) (BodyLoose.notSynchronized Bd)
  refine ⟨_, _, retL X12 hx Bd.returns (hb hby d3_121) hr, hrun, hended, some (.long (-1 : Int64)), _, rfl, ?_, ⟨_, rfl⟩, hW, hsame.mono (by decide) (by decide)⟩
  show Qadd4_100 Z o x b k v0 h0 n0 _ T12.heap _
  rw [e12]
  exact ⟨rfl, N12, K12, f12_0, f12_1, f12_2, w12, f12_6⟩

theorem pnadd4_101 : plainName "com/example/ostracon/ostracon/LastValues" = true := by first | (simp [plainName, overriddenIn]; done) | decide +kernel
theorem efadd4_101 (m : MethodId) (z0 : Addr) (z1 : Int64) : entryFrame m #[(.ref z0), (.long z1), (.int (4 : Int32))] 6 = mkF m 0 #[.val (.ref z0), .val (.long z1), .second, .val (.int (4 : Int32)), .unset, .unset] [] := by first | (simp [entryFrame, mkF, argsToLocals, Value.category]; done) | rfl
def Qadd4_101 (Z : State) (o : Addr) (x : Int64) (b : Addr) (k : ClassId) (v0 : Int64) (h0 : Heap) (n0 : Nat) (v : Option Value) (h : Heap) (L : List Loc) : Prop := ∃ (b2 : Addr) (k2 : ClassId), v = some (.long (-1 : Int64)) ∧ Fr n0 L ∧ Keep h0 h [o] ∧ h0.size ≤ b2 ∧ Exa Z h o "com/example/ostracon/ostracon/LastValues" ∧ Fld Z h o "com/example/ostracon/ostracon/LastValues" "values" "[J" (.ref b2) ∧ Fld Z h o "com/example/ostracon/ostracon/LastValues" "start" "I" (.int (0 : Int32)) ∧ Fld Z h o "com/example/ostracon/ostracon/LastValues" "count" "I" (.int (2 : Int32)) ∧ Arv Z h b2 k2 .long (2 : Int32) [(.long v0), (.long x)] (.long (0 : Int64))
set_option maxRecDepth 65536 in
set_option maxHeartbeats 40000000 in
theorem rmadd4_101 (l : Launch) (Z : State) (a0 : Array Value) (hw : ∀ d ∈ tables_1, d.before a0 Z = true) (ws : List Jvm.Cond) (o : Addr) (x : Int64) (b : Addr) (k : ClassId) (v0 : Int64) (h0 : Heap) (n0 : Nat) (Z0 : n0 ≤ h0.size) (E_o : Exa Z h0 o "com/example/ostracon/ostracon/LastValues") (F1_o : Fld Z h0 o "com/example/ostracon/ostracon/LastValues" "values" "[J" (.ref b)) (F2_o : Fld Z h0 o "com/example/ostracon/ostracon/LastValues" "start" "I" (.int (0 : Int32))) (F3_o : Fld Z h0 o "com/example/ostracon/ostracon/LastValues" "count" "I" (.int (1 : Int32))) (V_b : Arv Z h0 b k .long (1 : Int32) [(.long v0)] (.long (0 : Int64))) (g_o : n0 ≤ o) (g_b : n0 ≤ b) (ne_ob : o ≠ b) :
    MetFree l (⟨"com/example/ostracon/ostracon/LastValues", "add", "(JI)J"⟩ : MethodName) (head1 (Jvm.Cond.code (⟨"com/example/ostracon/ostracon/LastValues", "add", "(JI)J"⟩ : MethodName) prog_19_method_2_code 6 (some .long) :: ws) ({ frames := 1, cells := 1, slots := 2, locals := 13 } : Room)) (fun a U => a = #[(.ref o), (.long x), (.int (4 : Int32))] ∧ Z.Warmed39 U.vm ∧ U.heap = h0) (fun _ _ _ _ _ => True) (fun _ U oc U' => ∃ v L, oc = .returned v ∧ Qadd4_101 Z o x b k v0 h0 n0 v U'.heap L ∧ FrameEnd U oc U' L ({ frames := 1, cells := 1, slots := 2, locals := 13 } : Room).cells ({ frames := 1, cells := 1, slots := 2, locals := 13 } : Room).slots) := by
  refine MetFree.of_bodySF (plainFor_of_name pnadd4_101) hisR ?_
  intro p e s m args below meth c s₁ Bd hml0 hP hK
  obtain ⟨rfl, hZ, hh⟩ := hP
  have hx := Bd.exec
  have hby := Bd.bytes
  have hml : c.maxLocals = 6 := hml0
  have hown : s.vm.findClass "com/example/ostracon/ostracon/LastValues" = some m.cls := findClass_of_methodNamed Bd.named
  have hnm := (name_of_methodNamed Bd.named Bd.method).1
  have X0 : Stand p l e ({ frames := 1, cells := 1, slots := 2, locals := 13 } : Room) s m #[(.ref o), (.long x), (.int (4 : Int32))] below meth c s₁ [] 0 0 := Stand.of_body Bd
  have e0 : s₁.heap = h0 := by rw [← hh, Bd.state]; rfl
  have N0 := Fr.nil n0
  show own_Go p e below (fun s₂ oc => ∃ v L, oc = .returned v ∧ Qadd4_101 Z o x b k v0 h0 n0 v s₂.heap L ∧ FrameEnd s oc s₂ L ({ frames := 1, cells := 1, slots := 2, locals := 13 } : Room).cells ({ frames := 1, cells := 1, slots := 2, locals := 13 } : Room).slots) s₁ (entryFrame m #[(.ref o), (.long x), (.int (4 : Int32))] 6)
  refine own_Go.of (g' := mkF m 0 #[.val (.ref o), .val (.long x), .second, .val (.int (4 : Int32)), .unset, .unset] []) (fun t k => castTop (efadd4_101 m o x) k) ?_
  refine og_aloadN (pc' := 1) X0 hx (hb hby d3_0) rfl rfl rfl ?_
  obtain ⟨T1, X1, e1, st1⟩ := getF X0 hx hZ hown (host := "") (Or.inl (hw _ (List.mem_of_getElem? (i := 18) rfl))) Via.refl e0 F3_o (g := (mkF m 1 #[.val (.ref o), .val (.long x), .second, .val (.int (4 : Int32)), .unset, .unset] [(.ref o)])) rfl rfl (hb hby d3_1)
  refine own_Go.of (g' := (mkF m 4 #[.val (.ref o), .val (.long x), .second, .val (.int (4 : Int32)), .unset, .unset] [(.int (1 : Int32))])) (fun t k => st1 _ k) ?_
  refine og_iloadN (pc' := 5) X1 hx (hb hby d3_4) rfl rfl ?_
  refine og_icmpNo (pc' := 8) X1 hx (hb hby d3_5) (tlt (by decide)).2.1 rfl ?_
  refine og_aloadN (pc' := 9) X1 hx (hb hby d3_8) rfl rfl rfl ?_
  obtain ⟨T2, X2, e2, st2⟩ := getF X1 hx hZ hown (host := "") (Or.inl (hw _ (List.mem_of_getElem? (i := 18) rfl))) Via.refl e1 F3_o (g := (mkF m 9 #[.val (.ref o), .val (.long x), .second, .val (.int (4 : Int32)), .unset, .unset] [(.ref o)])) rfl rfl (hb hby d3_9)
  refine own_Go.of (g' := (mkF m 12 #[.val (.ref o), .val (.long x), .second, .val (.int (4 : Int32)), .unset, .unset] [(.int (1 : Int32))])) (fun t k => st2 _ k) ?_
  refine og_aloadN (pc' := 13) X2 hx (hb hby d3_12) rfl rfl rfl ?_
  obtain ⟨T3, X3, e3, st3⟩ := getF X2 hx hZ hown (host := "") (Or.inl (hw _ (List.mem_of_getElem? (i := 11) rfl))) Via.refl e2 F1_o (g := (mkF m 13 #[.val (.ref o), .val (.long x), .second, .val (.int (4 : Int32)), .unset, .unset] [(.ref o), (.int (1 : Int32))])) rfl rfl (hb hby d3_13)
  refine own_Go.of (g' := (mkF m 16 #[.val (.ref o), .val (.long x), .second, .val (.int (4 : Int32)), .unset, .unset] [(.ref b), (.int (1 : Int32))])) (fun t k => st3 _ k) ?_
  obtain ⟨cl4, Ar4, q4, S4, M4, H4, G4⟩ := id V_b
  refine own_Go.of (g' := (mkF m 17 #[.val (.ref o), .val (.long x), .second, .val (.int (4 : Int32)), .unset, .unset] [(.int (1 : Int32)), (.int (1 : Int32))])) (fun t k => X3.arraylength hx (by rw [e3]; exact Ar4.1) (State.isArrayOf_alike hZ.alike Ar4.2.1) (g := (mkF m 16 #[.val (.ref o), .val (.long x), .second, .val (.int (4 : Int32)), .unset, .unset] [(.ref b), (.int (1 : Int32))])) rfl rfl (hb hby d3_16) _ (by rw [len_of S4 M4]; exact k)) ?_
  refine og_icmpNo (pc' := 20) X3 hx (hb hby d3_17) (teq (by decide)).2 rfl ?_
  refine og_iconst (pc' := 21) (n := 2) X3 hx (hb hby d3_20) rfl rfl ?_
  refine og_aloadN (pc' := 22) X3 hx (hb hby d3_21) rfl rfl rfl ?_
  obtain ⟨T5, X5, e5, st5⟩ := getF X3 hx hZ hown (host := "") (Or.inl (hw _ (List.mem_of_getElem? (i := 11) rfl))) Via.refl e3 F1_o (g := (mkF m 22 #[.val (.ref o), .val (.long x), .second, .val (.int (4 : Int32)), .unset, .unset] [(.ref o), (.int (2 : Int32))])) rfl rfl (hb hby d3_22)
  refine own_Go.of (g' := (mkF m 25 #[.val (.ref o), .val (.long x), .second, .val (.int (4 : Int32)), .unset, .unset] [(.ref b), (.int (2 : Int32))])) (fun t k => st5 _ k) ?_
  obtain ⟨cl6, Ar6, q6, S6, M6, H6, G6⟩ := id V_b
  refine own_Go.of (g' := (mkF m 26 #[.val (.ref o), .val (.long x), .second, .val (.int (4 : Int32)), .unset, .unset] [(.int (1 : Int32)), (.int (2 : Int32))])) (fun t k => X5.arraylength hx (by rw [e5]; exact Ar6.1) (State.isArrayOf_alike hZ.alike Ar6.2.1) (g := (mkF m 25 #[.val (.ref o), .val (.long x), .second, .val (.int (4 : Int32)), .unset, .unset] [(.ref b), (.int (2 : Int32))])) rfl rfl (hb hby d3_25) _ (by rw [len_of S6 M6]; exact k)) ?_
  refine og_imul (pc' := 27) X5 hx (hb hby d3_26) rfl ?_
  rw [show ((2 : Int32) * (1 : Int32)) = (2 : Int32) from by decide]
  refine og_iloadN (pc' := 28) X5 hx (hb hby d3_27) rfl rfl ?_
  obtain ⟨_, _, ⟨T7, L7, k7, n7⟩, -, X7, ⟨Lc7, hQ7, l7, y7, z7⟩, st7⟩ := Jvm.LawKit.callS X5 hx (y := (⟨"java/lang/Math", "min", "(II)I"⟩ : MethodName)) hown (mvT hZ (hw _ (List.mem_of_getElem? (i := 28) rfl))) (mvT hZ (hw _ (List.mem_of_getElem? (i := 29) rfl))) (mvT hZ (hw _ (List.mem_of_getElem? (i := 30) rfl))) (mvT hZ (hw _ (List.mem_of_getElem? (i := 31) rfl))) (by decide) (backOf (W := 0) (rmmn l Z a0 hw [] (2 : Int32) (4 : Int32) h0 n0 Z0 ) hZ (hw _ (List.mem_of_getElem? (i := 31) rfl)) (hw _ (List.mem_of_getElem? (i := 30) rfl)) (by decide) (by decide)) (g := (mkF m 28 #[.val (.ref o), .val (.long x), .second, .val (.int (4 : Int32)), .unset, .unset] [(.int (4 : Int32)), (.int (2 : Int32))])) rfl (by rw [hml]; rfl) (argsL := [(.int (2 : Int32)), (.int (4 : Int32))]) (rest := []) (lenOf pd_0 rfl) rfl (by show 2 * 0 + _ ≤ _; exact Nat.le_of_eq rfl) (hb hby d3_28) (fun _ _ => ⟨rfl, e5, (by decide : 0 + 0 ≤ _), (by decide : 0 + 0 ≤ _)⟩)
  dsimp only [Pt.U, Pt.locs, Pt.cells, Pt.slots] at X7 l7 y7 z7 st7 hQ7
  subst l7 y7 z7
  obtain ⟨rfl, N7q, e7⟩ := hQ7
  have N7 := Fr.app N0 N7q
  refine own_Go.of (g' := (mkF m 31 #[.val (.ref o), .val (.long x), .second, .val (.int (4 : Int32)), .unset, .unset] [(.int (own_min (2 : Int32) (4 : Int32)))])) (fun t k => st7 _ k) ?_
  rw [show (own_min (2 : Int32) (4 : Int32)) = (2 : Int32) from by decide]
  obtain ⟨T8, h8, k8, X8, e8, E8, A8, st8⟩ := newP X7 hx hZ (hw _ (List.mem_of_getElem? (i := 10) rfl)) e7 (g := (mkF m 31 #[.val (.ref o), .val (.long x), .second, .val (.int (4 : Int32)), .unset, .unset] [(.int (2 : Int32))])) rfl (hb hby d3_31) rfl (by decide) (cap := 2) (by decide) (by decide) (by decide) (by decide)
  obtain ⟨b8, g8⟩ : ∃ z, z = h0.size := ⟨_, rfl⟩
  rw [← g8] at A8 st8
  have ne8_1 : o ≠ b8 := Nat.ne_of_lt (Nat.lt_of_lt_of_le E_o.lt (Nat.le_of_eq g8.symm))
  have ne8_2 : b ≠ b8 := Nat.ne_of_lt (Nat.lt_of_lt_of_le V_b.lt (Nat.le_of_eq g8.symm))
  have g_b8 : n0 ≤ b8 := Nat.le_trans Z0 (Nat.le_of_eq g8.symm)
  have sz_b8 : h0.size ≤ b8 := Nat.le_trans (Keep.refl h0 [o]).1 (Nat.le_of_eq g8.symm)
  have f8_0 := E_o.ext E8
  have f8_1 := F1_o.ext E8
  have f8_2 := F2_o.ext E8
  have f8_3 := F3_o.ext E8
  have f8_4 := V_b.ext E8
  have V8 : Arv Z h8 b8 k8 .long (2 : Int32) [(.long (0 : Int64)), (.long (0 : Int64))] (.long (0 : Int64)) := (Arv.new A8 (by decide)).pad (pad_rep [] (.long (0 : Int64)) 2)
  have K8 : Keep h0 h8 [o] := (Keep.refl h0 [o]).ext E8
  have Z8 : n0 ≤ h8.size := Nat.le_trans Z0 K8.1
  refine own_Go.of (g' := (mkF m 33 #[.val (.ref o), .val (.long x), .second, .val (.int (4 : Int32)), .unset, .unset] [(.ref b8)])) (fun t k => st8 _ k) ?_
  refine og_astore (pc' := 35) (L' := #[.val (.ref o), .val (.long x), .second, .val (.int (4 : Int32)), .val (.ref b8), .unset]) X8 hx (hb hby d3_33) rfl rfl rfl ?_
  refine og_iconst (pc' := 36) (n := 0) X8 hx (hb hby d3_35) rfl rfl ?_
  refine og_istore (pc' := 38) (L' := #[.val (.ref o), .val (.long x), .second, .val (.int (4 : Int32)), .val (.ref b8), .val (.int (0 : Int32))]) X8 hx (hb hby d3_36) rfl rfl ?_
  refine og_iload (pc' := 40) X8 hx (hb hby d3_38) rfl rfl ?_
  refine og_aloadN (pc' := 41) X8 hx (hb hby d3_40) rfl rfl rfl ?_
  obtain ⟨T9, X9, e9, st9⟩ := getF X8 hx hZ hown (host := "") (Or.inl (hw _ (List.mem_of_getElem? (i := 18) rfl))) Via.refl e8 f8_3 (g := (mkF m 41 #[.val (.ref o), .val (.long x), .second, .val (.int (4 : Int32)), .val (.ref b8), .val (.int (0 : Int32))] [(.ref o), (.int (0 : Int32))])) rfl rfl (hb hby d3_41)
  refine own_Go.of (g' := (mkF m 44 #[.val (.ref o), .val (.long x), .second, .val (.int (4 : Int32)), .val (.ref b8), .val (.int (0 : Int32))] [(.int (1 : Int32)), (.int (0 : Int32))])) (fun t k => st9 _ k) ?_
  refine og_icmpNo (pc' := 47) X9 hx (hb hby d3_44) (tlt (by decide)).2.1 rfl ?_
  refine og_aload (pc' := 49) X9 hx (hb hby d3_47) rfl rfl rfl ?_
  refine og_iload (pc' := 51) X9 hx (hb hby d3_49) rfl rfl ?_
  refine og_aloadN (pc' := 52) X9 hx (hb hby d3_51) rfl rfl rfl ?_
  obtain ⟨T10, X10, e10, st10⟩ := getF X9 hx hZ hown (host := "") (Or.inl (hw _ (List.mem_of_getElem? (i := 11) rfl))) Via.refl e9 f8_1 (g := (mkF m 52 #[.val (.ref o), .val (.long x), .second, .val (.int (4 : Int32)), .val (.ref b8), .val (.int (0 : Int32))] [(.ref o), (.int (0 : Int32)), (.ref b8)])) rfl rfl (hb hby d3_52)
  refine own_Go.of (g' := (mkF m 55 #[.val (.ref o), .val (.long x), .second, .val (.int (4 : Int32)), .val (.ref b8), .val (.int (0 : Int32))] [(.ref b), (.int (0 : Int32)), (.ref b8)])) (fun t k => st10 _ k) ?_
  refine og_aloadN (pc' := 56) X10 hx (hb hby d3_55) rfl rfl rfl ?_
  obtain ⟨T11, X11, e11, st11⟩ := getF X10 hx hZ hown (host := "") (Or.inl (hw _ (List.mem_of_getElem? (i := 20) rfl))) Via.refl e10 f8_2 (g := (mkF m 56 #[.val (.ref o), .val (.long x), .second, .val (.int (4 : Int32)), .val (.ref b8), .val (.int (0 : Int32))] [(.ref o), (.ref b), (.int (0 : Int32)), (.ref b8)])) rfl rfl (hb hby d3_56)
  refine own_Go.of (g' := (mkF m 59 #[.val (.ref o), .val (.long x), .second, .val (.int (4 : Int32)), .val (.ref b8), .val (.int (0 : Int32))] [(.int (0 : Int32)), (.ref b), (.int (0 : Int32)), (.ref b8)])) (fun t k => st11 _ k) ?_
  refine og_iload (pc' := 61) X11 hx (hb hby d3_59) rfl rfl ?_
  refine og_iadd (pc' := 62) X11 hx (hb hby d3_61) rfl ?_
  rw [show ((0 : Int32) + (0 : Int32)) = (0 : Int32) from by decide]
  refine og_aloadN (pc' := 63) X11 hx (hb hby d3_62) rfl rfl rfl ?_
  obtain ⟨T12, X12, e12, st12⟩ := getF X11 hx hZ hown (host := "") (Or.inl (hw _ (List.mem_of_getElem? (i := 11) rfl))) Via.refl e11 f8_1 (g := (mkF m 63 #[.val (.ref o), .val (.long x), .second, .val (.int (4 : Int32)), .val (.ref b8), .val (.int (0 : Int32))] [(.ref o), (.int (0 : Int32)), (.ref b), (.int (0 : Int32)), (.ref b8)])) rfl rfl (hb hby d3_63)
  refine own_Go.of (g' := (mkF m 66 #[.val (.ref o), .val (.long x), .second, .val (.int (4 : Int32)), .val (.ref b8), .val (.int (0 : Int32))] [(.ref b), (.int (0 : Int32)), (.ref b), (.int (0 : Int32)), (.ref b8)])) (fun t k => st12 _ k) ?_
  obtain ⟨cl13, Ar13, q13, S13, M13, H13, G13⟩ := id f8_4
  refine own_Go.of (g' := (mkF m 67 #[.val (.ref o), .val (.long x), .second, .val (.int (4 : Int32)), .val (.ref b8), .val (.int (0 : Int32))] [(.int (1 : Int32)), (.int (0 : Int32)), (.ref b), (.int (0 : Int32)), (.ref b8)])) (fun t k => X12.arraylength hx (by rw [e12]; exact Ar13.1) (State.isArrayOf_alike hZ.alike Ar13.2.1) (g := (mkF m 66 #[.val (.ref o), .val (.long x), .second, .val (.int (4 : Int32)), .val (.ref b8), .val (.int (0 : Int32))] [(.ref b), (.int (0 : Int32)), (.ref b), (.int (0 : Int32)), (.ref b8)])) rfl rfl (hb hby d3_66) _ (by rw [len_of S13 M13]; exact k)) ?_
  refine og_irem (pc' := 68) X12 hx (hb hby d3_67) (by decide) rfl ?_
  rw [show ((0 : Int32) % (1 : Int32)) = (0 : Int32) from by decide]
  obtain ⟨cl14, Ar14, q14, S14, M14, H14, G14⟩ := id f8_4
  have hin14 : ¬ ((0 : Int32) < 0 ∨ cl14.slots.size ≤ ((0 : Int32)).toNatClampNeg) := inb_of S14 ⟨by decide, by decide⟩
  have hat14 : cl14.slots[((0 : Int32)).toNatClampNeg]? = some (.long v0) := Has.at H14 hin14 rfl
  refine own_Go.of (g' := (mkF m 69 #[.val (.ref o), .val (.long x), .second, .val (.int (4 : Int32)), .val (.ref b8), .val (.int (0 : Int32))] [(.long v0), (.int (0 : Int32)), (.ref b8)])) (fun t k => X12.laload hx (j := (0 : Int32)) (v := (.long v0)) (by rw [e12]; exact Ar14.1) (State.isArrayOf_alike hZ.alike Ar14.2.1) Ar14.2.2 hin14 hat14 (g := (mkF m 68 #[.val (.ref o), .val (.long x), .second, .val (.int (4 : Int32)), .val (.ref b8), .val (.int (0 : Int32))] [(.int (0 : Int32)), (.ref b), (.int (0 : Int32)), (.ref b8)])) rfl rfl (hb hby d3_68) _ k) ?_
  obtain ⟨cl15, Ar15, q15, S15, M15, H15, G15⟩ := id V8
  have hin15 : ¬ ((0 : Int32) < 0 ∨ cl15.slots.size ≤ ((0 : Int32)).toNatClampNeg) := inb_of S15 ⟨by decide, by decide⟩
  obtain ⟨T15, h15, X15, e15, W15, st15⟩ := stJ X12 hx hZ e12 Ar15 (j := (0 : Int32)) hin15 (g := (mkF m 69 #[.val (.ref o), .val (.long x), .second, .val (.int (4 : Int32)), .val (.ref b8), .val (.int (0 : Int32))] [(.long v0), (.int (0 : Int32)), (.ref b8)])) rfl rfl (hb hby d3_69)
  have V15 : Arv Z h15 b8 k8 .long (2 : Int32) [(.long v0), (.long (0 : Int64))] (.long (0 : Int64)) := Arv.set Ar15 q15 S15 M15 H15 G15 rfl W15 0 rfl (Nat.le_of_ble_eq_true rfl)
  have f15_0 := f8_0.wr W15
  have f15_1 := f8_1.other W15 (Or.inl ne8_1)
  have f15_2 := f8_2.other W15 (Or.inl ne8_1)
  have f15_3 := f8_3.other W15 (Or.inl ne8_1)
  have f15_4 := f8_4.other W15 ne8_2
  have K15 : Keep h0 h15 [o] := K8.wr W15 (Or.inr sz_b8)
  have Z15 : n0 ≤ h15.size := Nat.le_trans Z0 K15.1
  have N15 := Fr.snoc X15 N7 g_b8
  refine own_Go.of (g' := (mkF m 70 #[.val (.ref o), .val (.long x), .second, .val (.int (4 : Int32)), .val (.ref b8), .val (.int (0 : Int32))] [])) (fun t k => st15 _ k) ?_
  refine og_iinc (pc' := 73) (L' := #[.val (.ref o), .val (.long x), .second, .val (.int (4 : Int32)), .val (.ref b8), .val (.int ((0 : Int32) + (1 : Int32)))]) X15 hx (hb hby d3_70) rfl rfl rfl ?_
  rw [show ((0 : Int32) + (1 : Int32)) = (1 : Int32) from by decide]
  refine og_goto (pc' := 38) X15 hx (hb hby d3_73) (by decide) (by decide) ?_
  refine og_iload (pc' := 40) X15 hx (hb hby d3_38) rfl rfl ?_
  refine og_aloadN (pc' := 41) X15 hx (hb hby d3_40) rfl rfl rfl ?_
  obtain ⟨T16, X16, e16, st16⟩ := getF X15 hx hZ hown (host := "") (Or.inl (hw _ (List.mem_of_getElem? (i := 18) rfl))) Via.refl e15 f15_3 (g := (mkF m 41 #[.val (.ref o), .val (.long x), .second, .val (.int (4 : Int32)), .val (.ref b8), .val (.int (1 : Int32))] [(.ref o), (.int (1 : Int32))])) rfl rfl (hb hby d3_41)
  refine own_Go.of (g' := (mkF m 44 #[.val (.ref o), .val (.long x), .second, .val (.int (4 : Int32)), .val (.ref b8), .val (.int (1 : Int32))] [(.int (1 : Int32)), (.int (1 : Int32))])) (fun t k => st16 _ k) ?_
  refine og_icmpYes (pc' := 76) X16 hx (hb hby d3_44) (flt (by decide)).2.1 (by decide) (by decide) ?_
  refine og_aloadN (pc' := 77) X16 hx (hb hby d3_76) rfl rfl rfl ?_
  refine og_aload (pc' := 79) X16 hx (hb hby d3_77) rfl rfl rfl ?_
  obtain ⟨T17, h17, X17, e17, W17, st17⟩ := putF X16 hx hZ hown (host := "") (Or.inl (hw _ (List.mem_of_getElem? (i := 11) rfl))) Via.refl e16 f15_1 f15_0 (Or.inl (hw _ (List.mem_of_getElem? (i := 12) rfl))) (hw _ (List.mem_of_getElem? (i := 2) rfl)) (ty := (.array .long)) (by decide) rfl rfl (g := (mkF m 79 #[.val (.ref o), .val (.long x), .second, .val (.int (4 : Int32)), .val (.ref b8), .val (.int (1 : Int32))] [(.ref b8), (.ref o)])) rfl rfl (hb hby d3_79)
  have w17 : Fld Z h17 o "com/example/ostracon/ostracon/LastValues" "values" "[J" (.ref b8) := f15_1.same W17
  have f17_0 := f15_0.wr W17
  have f17_1 := f15_2.other W17 (Or.inr (slot_ne (a0 := a0) (C := "com/example/ostracon/ostracon/LastValues") (Or.inl (hw _ (List.mem_of_getElem? (i := 21) rfl))) (Or.inl (hw _ (List.mem_of_getElem? (i := 12) rfl))) (by decide) (t := .int) (t' := (.array .long)) (by decide) (by decide)))
  have f17_2 := f15_3.other W17 (Or.inr (slot_ne (a0 := a0) (C := "com/example/ostracon/ostracon/LastValues") (Or.inl (hw _ (List.mem_of_getElem? (i := 19) rfl))) (Or.inl (hw _ (List.mem_of_getElem? (i := 12) rfl))) (by decide) (t := .int) (t' := (.array .long)) (by decide) (by decide)))
  have f17_3 := f15_4.other W17 (Ne.symm ne_ob)
  have f17_7 := V15.other W17 (Ne.symm ne8_1)
  have K17 : Keep h0 h17 [o] := K15.wr W17 (Or.inl (List.mem_of_getElem? (i := 0) rfl))
  have Z17 : n0 ≤ h17.size := Nat.le_trans Z0 K17.1
  have N17 := Fr.snoc X17 N15 g_o
  refine own_Go.of (g' := (mkF m 82 #[.val (.ref o), .val (.long x), .second, .val (.int (4 : Int32)), .val (.ref b8), .val (.int (1 : Int32))] [])) (fun t k => st17 _ k) ?_
  refine og_aloadN (pc' := 83) X17 hx (hb hby d3_82) rfl rfl rfl ?_
  refine og_iconst (pc' := 84) (n := 0) X17 hx (hb hby d3_83) rfl rfl ?_
  obtain ⟨T18, h18, X18, e18, W18, st18⟩ := putF X17 hx hZ hown (host := "") (Or.inl (hw _ (List.mem_of_getElem? (i := 20) rfl))) Via.refl e17 f17_1 f17_0 (Or.inl (hw _ (List.mem_of_getElem? (i := 21) rfl))) (hw _ (List.mem_of_getElem? (i := 2) rfl)) (ty := .int) (by decide) rfl rfl (g := (mkF m 84 #[.val (.ref o), .val (.long x), .second, .val (.int (4 : Int32)), .val (.ref b8), .val (.int (1 : Int32))] [(.int (0 : Int32)), (.ref o)])) rfl rfl (hb hby d3_84)
  have w18 : Fld Z h18 o "com/example/ostracon/ostracon/LastValues" "start" "I" (.int (0 : Int32)) := f17_1.same W18
  have f18_0 := f17_0.wr W18
  have f18_1 := f17_2.other W18 (Or.inr (slot_ne (a0 := a0) (C := "com/example/ostracon/ostracon/LastValues") (Or.inl (hw _ (List.mem_of_getElem? (i := 19) rfl))) (Or.inl (hw _ (List.mem_of_getElem? (i := 21) rfl))) (by decide) (t := .int) (t' := .int) (by decide) (by decide)))
  have f18_2 := f17_3.other W18 (Ne.symm ne_ob)
  have f18_6 := f17_7.other W18 (Ne.symm ne8_1)
  have f18_7 := w17.other W18 (Or.inr (slot_ne (a0 := a0) (C := "com/example/ostracon/ostracon/LastValues") (Or.inl (hw _ (List.mem_of_getElem? (i := 12) rfl))) (Or.inl (hw _ (List.mem_of_getElem? (i := 21) rfl))) (by decide) (t := (.array .long)) (t' := .int) (by decide) (by decide)))
  have K18 : Keep h0 h18 [o] := K17.wr W18 (Or.inl (List.mem_of_getElem? (i := 0) rfl))
  have Z18 : n0 ≤ h18.size := Nat.le_trans Z0 K18.1
  have N18 := Fr.snoc X18 N17 g_o
  refine own_Go.of (g' := (mkF m 87 #[.val (.ref o), .val (.long x), .second, .val (.int (4 : Int32)), .val (.ref b8), .val (.int (1 : Int32))] [])) (fun t k => st18 _ k) ?_
  refine og_aloadN (pc' := 88) X18 hx (hb hby d3_87) rfl rfl rfl ?_
  obtain ⟨T19, X19, e19, st19⟩ := getF X18 hx hZ hown (host := "") (Or.inl (hw _ (List.mem_of_getElem? (i := 11) rfl))) Via.refl e18 f18_7 (g := (mkF m 88 #[.val (.ref o), .val (.long x), .second, .val (.int (4 : Int32)), .val (.ref b8), .val (.int (1 : Int32))] [(.ref o)])) rfl rfl (hb hby d3_88)
  refine own_Go.of (g' := (mkF m 91 #[.val (.ref o), .val (.long x), .second, .val (.int (4 : Int32)), .val (.ref b8), .val (.int (1 : Int32))] [(.ref b8)])) (fun t k => st19 _ k) ?_
  refine og_aloadN (pc' := 92) X19 hx (hb hby d3_91) rfl rfl rfl ?_
  obtain ⟨T20, X20, e20, st20⟩ := getF X19 hx hZ hown (host := "") (Or.inl (hw _ (List.mem_of_getElem? (i := 20) rfl))) Via.refl e19 w18 (g := (mkF m 92 #[.val (.ref o), .val (.long x), .second, .val (.int (4 : Int32)), .val (.ref b8), .val (.int (1 : Int32))] [(.ref o), (.ref b8)])) rfl rfl (hb hby d3_92)
  refine own_Go.of (g' := (mkF m 95 #[.val (.ref o), .val (.long x), .second, .val (.int (4 : Int32)), .val (.ref b8), .val (.int (1 : Int32))] [(.int (0 : Int32)), (.ref b8)])) (fun t k => st20 _ k) ?_
  refine og_aloadN (pc' := 96) X20 hx (hb hby d3_95) rfl rfl rfl ?_
  obtain ⟨T21, X21, e21, st21⟩ := getF X20 hx hZ hown (host := "") (Or.inl (hw _ (List.mem_of_getElem? (i := 18) rfl))) Via.refl e20 f18_1 (g := (mkF m 96 #[.val (.ref o), .val (.long x), .second, .val (.int (4 : Int32)), .val (.ref b8), .val (.int (1 : Int32))] [(.ref o), (.int (0 : Int32)), (.ref b8)])) rfl rfl (hb hby d3_96)
  refine own_Go.of (g' := (mkF m 99 #[.val (.ref o), .val (.long x), .second, .val (.int (4 : Int32)), .val (.ref b8), .val (.int (1 : Int32))] [(.int (1 : Int32)), (.int (0 : Int32)), (.ref b8)])) (fun t k => st21 _ k) ?_
  refine og_iadd (pc' := 100) X21 hx (hb hby d3_99) rfl ?_
  rw [show ((0 : Int32) + (1 : Int32)) = (1 : Int32) from by decide]
  refine og_aloadN (pc' := 101) X21 hx (hb hby d3_100) rfl rfl rfl ?_
  obtain ⟨T22, X22, e22, st22⟩ := getF X21 hx hZ hown (host := "") (Or.inl (hw _ (List.mem_of_getElem? (i := 11) rfl))) Via.refl e21 f18_7 (g := (mkF m 101 #[.val (.ref o), .val (.long x), .second, .val (.int (4 : Int32)), .val (.ref b8), .val (.int (1 : Int32))] [(.ref o), (.int (1 : Int32)), (.ref b8)])) rfl rfl (hb hby d3_101)
  refine own_Go.of (g' := (mkF m 104 #[.val (.ref o), .val (.long x), .second, .val (.int (4 : Int32)), .val (.ref b8), .val (.int (1 : Int32))] [(.ref b8), (.int (1 : Int32)), (.ref b8)])) (fun t k => st22 _ k) ?_
  obtain ⟨cl23, Ar23, q23, S23, M23, H23, G23⟩ := id f18_6
  refine own_Go.of (g' := (mkF m 105 #[.val (.ref o), .val (.long x), .second, .val (.int (4 : Int32)), .val (.ref b8), .val (.int (1 : Int32))] [(.int (2 : Int32)), (.int (1 : Int32)), (.ref b8)])) (fun t k => X22.arraylength hx (by rw [e22]; exact Ar23.1) (State.isArrayOf_alike hZ.alike Ar23.2.1) (g := (mkF m 104 #[.val (.ref o), .val (.long x), .second, .val (.int (4 : Int32)), .val (.ref b8), .val (.int (1 : Int32))] [(.ref b8), (.int (1 : Int32)), (.ref b8)])) rfl rfl (hb hby d3_104) _ (by rw [len_of S23 M23]; exact k)) ?_
  refine og_irem (pc' := 106) X22 hx (hb hby d3_105) (by decide) rfl ?_
  rw [show ((1 : Int32) % (2 : Int32)) = (1 : Int32) from by decide]
  refine og_lloadN (pc' := 107) X22 hx (hb hby d3_106) rfl rfl ?_
  obtain ⟨cl24, Ar24, q24, S24, M24, H24, G24⟩ := id f18_6
  have hin24 : ¬ ((1 : Int32) < 0 ∨ cl24.slots.size ≤ ((1 : Int32)).toNatClampNeg) := inb_of S24 ⟨by decide, by decide⟩
  obtain ⟨T24, h24, X24, e24, W24, st24⟩ := stJ X22 hx hZ e22 Ar24 (j := (1 : Int32)) hin24 (g := (mkF m 107 #[.val (.ref o), .val (.long x), .second, .val (.int (4 : Int32)), .val (.ref b8), .val (.int (1 : Int32))] [(.long x), (.int (1 : Int32)), (.ref b8)])) rfl rfl (hb hby d3_107)
  have V24 : Arv Z h24 b8 k8 .long (2 : Int32) [(.long v0), (.long x)] (.long (0 : Int64)) := Arv.set Ar24 q24 S24 M24 H24 G24 rfl W24 1 rfl (Nat.le_of_ble_eq_true rfl)
  have f24_0 := f18_0.wr W24
  have f24_1 := f18_1.other W24 (Or.inl ne8_1)
  have f24_2 := f18_2.other W24 ne8_2
  have f24_6 := f18_7.other W24 (Or.inl ne8_1)
  have f24_7 := w18.other W24 (Or.inl ne8_1)
  have K24 : Keep h0 h24 [o] := K18.wr W24 (Or.inr sz_b8)
  have Z24 : n0 ≤ h24.size := Nat.le_trans Z0 K24.1
  have N24 := Fr.snoc X24 N18 g_b8
  refine own_Go.of (g' := (mkF m 108 #[.val (.ref o), .val (.long x), .second, .val (.int (4 : Int32)), .val (.ref b8), .val (.int (1 : Int32))] [])) (fun t k => st24 _ k) ?_
  refine og_aloadN (pc' := 109) X24 hx (hb hby d3_108) rfl rfl rfl ?_
  refine og_dup (pc' := 110) X24 hx (hb hby d3_109) rfl rfl ?_
  obtain ⟨T25, X25, e25, st25⟩ := getF X24 hx hZ hown (host := "") (Or.inl (hw _ (List.mem_of_getElem? (i := 18) rfl))) Via.refl e24 f24_1 (g := (mkF m 110 #[.val (.ref o), .val (.long x), .second, .val (.int (4 : Int32)), .val (.ref b8), .val (.int (1 : Int32))] [(.ref o), (.ref o)])) rfl rfl (hb hby d3_110)
  refine own_Go.of (g' := (mkF m 113 #[.val (.ref o), .val (.long x), .second, .val (.int (4 : Int32)), .val (.ref b8), .val (.int (1 : Int32))] [(.int (1 : Int32)), (.ref o)])) (fun t k => st25 _ k) ?_
  refine og_iconst (pc' := 114) (n := 1) X25 hx (hb hby d3_113) rfl rfl ?_
  refine og_iadd (pc' := 115) X25 hx (hb hby d3_114) rfl ?_
  rw [show ((1 : Int32) + (1 : Int32)) = (2 : Int32) from by decide]
  obtain ⟨T26, h26, X26, e26, W26, st26⟩ := putF X25 hx hZ hown (host := "") (Or.inl (hw _ (List.mem_of_getElem? (i := 18) rfl))) Via.refl e25 f24_1 f24_0 (Or.inl (hw _ (List.mem_of_getElem? (i := 19) rfl))) (hw _ (List.mem_of_getElem? (i := 2) rfl)) (ty := .int) (by decide) rfl rfl (g := (mkF m 115 #[.val (.ref o), .val (.long x), .second, .val (.int (4 : Int32)), .val (.ref b8), .val (.int (1 : Int32))] [(.int (2 : Int32)), (.ref o)])) rfl rfl (hb hby d3_115)
  have w26 : Fld Z h26 o "com/example/ostracon/ostracon/LastValues" "count" "I" (.int (2 : Int32)) := f24_1.same W26
  have f26_0 := f24_0.wr W26
  have f26_1 := f24_2.other W26 (Ne.symm ne_ob)
  have f26_5 := f24_6.other W26 (Or.inr (slot_ne (a0 := a0) (C := "com/example/ostracon/ostracon/LastValues") (Or.inl (hw _ (List.mem_of_getElem? (i := 12) rfl))) (Or.inl (hw _ (List.mem_of_getElem? (i := 19) rfl))) (by decide) (t := (.array .long)) (t' := .int) (by decide) (by decide)))
  have f26_6 := f24_7.other W26 (Or.inr (slot_ne (a0 := a0) (C := "com/example/ostracon/ostracon/LastValues") (Or.inl (hw _ (List.mem_of_getElem? (i := 21) rfl))) (Or.inl (hw _ (List.mem_of_getElem? (i := 19) rfl))) (by decide) (t := .int) (t' := .int) (by decide) (by decide)))
  have f26_7 := V24.other W26 (Ne.symm ne8_1)
  have K26 : Keep h0 h26 [o] := K24.wr W26 (Or.inl (List.mem_of_getElem? (i := 0) rfl))
  have Z26 : n0 ≤ h26.size := Nat.le_trans Z0 K26.1
  have N26 := Fr.snoc X26 N24 g_o
  refine own_Go.of (g' := (mkF m 118 #[.val (.ref o), .val (.long x), .second, .val (.int (4 : Int32)), .val (.ref b8), .val (.int (1 : Int32))] [])) (fun t k => st26 _ k) ?_
  refine og_ldc2_w (pc' := 121) X26 hx (hb hby d3_118) hown (mvT hZ (hw _ (List.mem_of_getElem? (i := 22) rfl))) rfl ?_
  obtain ⟨fs, hr, hrun, hended, hW, hsame⟩ := X26.leave (v := some (.long (-1 : Int64))) (fun h => by rw [Bd.returns] at h; cases h) (BodyLoose.notSynchronized Bd)
  refine ⟨_, _, retL X26 hx Bd.returns (hb hby d3_121) hr, hrun, hended, some (.long (-1 : Int64)), _, rfl, ?_, ⟨_, rfl⟩, hW, hsame.mono (by decide) (by decide)⟩
  show Qadd4_101 Z o x b k v0 h0 n0 _ T26.heap _
  rw [e26]
  exact ⟨b8, k8, rfl, N26, K26, sz_b8, f26_0, f26_5, f26_6, w26, f26_7⟩

theorem pnadd4_202 : plainName "com/example/ostracon/ostracon/LastValues" = true := by first | (simp [plainName, overriddenIn]; done) | decide +kernel
theorem efadd4_202 (m : MethodId) (z0 : Addr) (z1 : Int64) : entryFrame m #[(.ref z0), (.long z1), (.int (4 : Int32))] 6 = mkF m 0 #[.val (.ref z0), .val (.long z1), .second, .val (.int (4 : Int32)), .unset, .unset] [] := by first | (simp [entryFrame, mkF, argsToLocals, Value.category]; done) | rfl
def Qadd4_202 (Z : State) (o : Addr) (x : Int64) (b : Addr) (k : ClassId) (v0 : Int64) (v1 : Int64) (h0 : Heap) (n0 : Nat) (v : Option Value) (h : Heap) (L : List Loc) : Prop := ∃ (b2 : Addr) (k2 : ClassId), v = some (.long (-1 : Int64)) ∧ Fr n0 L ∧ Keep h0 h [o] ∧ h0.size ≤ b2 ∧ Exa Z h o "com/example/ostracon/ostracon/LastValues" ∧ Fld Z h o "com/example/ostracon/ostracon/LastValues" "values" "[J" (.ref b2) ∧ Fld Z h o "com/example/ostracon/ostracon/LastValues" "start" "I" (.int (0 : Int32)) ∧ Fld Z h o "com/example/ostracon/ostracon/LastValues" "count" "I" (.int (3 : Int32)) ∧ Arv Z h b2 k2 .long (4 : Int32) [(.long v0), (.long v1), (.long x), (.long (0 : Int64))] (.long (0 : Int64))
set_option maxRecDepth 65536 in
set_option maxHeartbeats 40000000 in
theorem rmadd4_202 (l : Launch) (Z : State) (a0 : Array Value) (hw : ∀ d ∈ tables_1, d.before a0 Z = true) (ws : List Jvm.Cond) (o : Addr) (x : Int64) (b : Addr) (k : ClassId) (v0 : Int64) (v1 : Int64) (h0 : Heap) (n0 : Nat) (Z0 : n0 ≤ h0.size) (E_o : Exa Z h0 o "com/example/ostracon/ostracon/LastValues") (F1_o : Fld Z h0 o "com/example/ostracon/ostracon/LastValues" "values" "[J" (.ref b)) (F2_o : Fld Z h0 o "com/example/ostracon/ostracon/LastValues" "start" "I" (.int (0 : Int32))) (F3_o : Fld Z h0 o "com/example/ostracon/ostracon/LastValues" "count" "I" (.int (2 : Int32))) (V_b : Arv Z h0 b k .long (2 : Int32) [(.long v0), (.long v1)] (.long (0 : Int64))) (g_o : n0 ≤ o) (g_b : n0 ≤ b) (ne_ob : o ≠ b) :
    MetFree l (⟨"com/example/ostracon/ostracon/LastValues", "add", "(JI)J"⟩ : MethodName) (head1 (Jvm.Cond.code (⟨"com/example/ostracon/ostracon/LastValues", "add", "(JI)J"⟩ : MethodName) prog_19_method_2_code 6 (some .long) :: ws) ({ frames := 1, cells := 1, slots := 4, locals := 13 } : Room)) (fun a U => a = #[(.ref o), (.long x), (.int (4 : Int32))] ∧ Z.Warmed39 U.vm ∧ U.heap = h0) (fun _ _ _ _ _ => True) (fun _ U oc U' => ∃ v L, oc = .returned v ∧ Qadd4_202 Z o x b k v0 v1 h0 n0 v U'.heap L ∧ FrameEnd U oc U' L ({ frames := 1, cells := 1, slots := 4, locals := 13 } : Room).cells ({ frames := 1, cells := 1, slots := 4, locals := 13 } : Room).slots) := by
  refine MetFree.of_bodySF (plainFor_of_name pnadd4_202) hisR ?_
  intro p e s m args below meth c s₁ Bd hml0 hP hK
  obtain ⟨rfl, hZ, hh⟩ := hP
  have hx := Bd.exec
  have hby := Bd.bytes
  have hml : c.maxLocals = 6 := hml0
  have hown : s.vm.findClass "com/example/ostracon/ostracon/LastValues" = some m.cls := findClass_of_methodNamed Bd.named
  have hnm := (name_of_methodNamed Bd.named Bd.method).1
  have X0 : Stand p l e ({ frames := 1, cells := 1, slots := 4, locals := 13 } : Room) s m #[(.ref o), (.long x), (.int (4 : Int32))] below meth c s₁ [] 0 0 := Stand.of_body Bd
  have e0 : s₁.heap = h0 := by rw [← hh, Bd.state]; rfl
  have N0 := Fr.nil n0
  show own_Go p e below (fun s₂ oc => ∃ v L, oc = .returned v ∧ Qadd4_202 Z o x b k v0 v1 h0 n0 v s₂.heap L ∧ FrameEnd s oc s₂ L ({ frames := 1, cells := 1, slots := 4, locals := 13 } : Room).cells ({ frames := 1, cells := 1, slots := 4, locals := 13 } : Room).slots) s₁ (entryFrame m #[(.ref o), (.long x), (.int (4 : Int32))] 6)
  refine own_Go.of (g' := mkF m 0 #[.val (.ref o), .val (.long x), .second, .val (.int (4 : Int32)), .unset, .unset] []) (fun t k => castTop (efadd4_202 m o x) k) ?_
  refine og_aloadN (pc' := 1) X0 hx (hb hby d3_0) rfl rfl rfl ?_
  obtain ⟨T1, X1, e1, st1⟩ := getF X0 hx hZ hown (host := "") (Or.inl (hw _ (List.mem_of_getElem? (i := 18) rfl))) Via.refl e0 F3_o (g := (mkF m 1 #[.val (.ref o), .val (.long x), .second, .val (.int (4 : Int32)), .unset, .unset] [(.ref o)])) rfl rfl (hb hby d3_1)
  refine own_Go.of (g' := (mkF m 4 #[.val (.ref o), .val (.long x), .second, .val (.int (4 : Int32)), .unset, .unset] [(.int (2 : Int32))])) (fun t k => st1 _ k) ?_
  refine og_iloadN (pc' := 5) X1 hx (hb hby d3_4) rfl rfl ?_
  refine og_icmpNo (pc' := 8) X1 hx (hb hby d3_5) (tlt (by decide)).2.1 rfl ?_
  refine og_aloadN (pc' := 9) X1 hx (hb hby d3_8) rfl rfl rfl ?_
  obtain ⟨T2, X2, e2, st2⟩ := getF X1 hx hZ hown (host := "") (Or.inl (hw _ (List.mem_of_getElem? (i := 18) rfl))) Via.refl e1 F3_o (g := (mkF m 9 #[.val (.ref o), .val (.long x), .second, .val (.int (4 : Int32)), .unset, .unset] [(.ref o)])) rfl rfl (hb hby d3_9)
  refine own_Go.of (g' := (mkF m 12 #[.val (.ref o), .val (.long x), .second, .val (.int (4 : Int32)), .unset, .unset] [(.int (2 : Int32))])) (fun t k => st2 _ k) ?_
  refine og_aloadN (pc' := 13) X2 hx (hb hby d3_12) rfl rfl rfl ?_
  obtain ⟨T3, X3, e3, st3⟩ := getF X2 hx hZ hown (host := "") (Or.inl (hw _ (List.mem_of_getElem? (i := 11) rfl))) Via.refl e2 F1_o (g := (mkF m 13 #[.val (.ref o), .val (.long x), .second, .val (.int (4 : Int32)), .unset, .unset] [(.ref o), (.int (2 : Int32))])) rfl rfl (hb hby d3_13)
  refine own_Go.of (g' := (mkF m 16 #[.val (.ref o), .val (.long x), .second, .val (.int (4 : Int32)), .unset, .unset] [(.ref b), (.int (2 : Int32))])) (fun t k => st3 _ k) ?_
  obtain ⟨cl4, Ar4, q4, S4, M4, H4, G4⟩ := id V_b
  refine own_Go.of (g' := (mkF m 17 #[.val (.ref o), .val (.long x), .second, .val (.int (4 : Int32)), .unset, .unset] [(.int (2 : Int32)), (.int (2 : Int32))])) (fun t k => X3.arraylength hx (by rw [e3]; exact Ar4.1) (State.isArrayOf_alike hZ.alike Ar4.2.1) (g := (mkF m 16 #[.val (.ref o), .val (.long x), .second, .val (.int (4 : Int32)), .unset, .unset] [(.ref b), (.int (2 : Int32))])) rfl rfl (hb hby d3_16) _ (by rw [len_of S4 M4]; exact k)) ?_
  refine og_icmpNo (pc' := 20) X3 hx (hb hby d3_17) (teq (by decide)).2 rfl ?_
  refine og_iconst (pc' := 21) (n := 2) X3 hx (hb hby d3_20) rfl rfl ?_
  refine og_aloadN (pc' := 22) X3 hx (hb hby d3_21) rfl rfl rfl ?_
  obtain ⟨T5, X5, e5, st5⟩ := getF X3 hx hZ hown (host := "") (Or.inl (hw _ (List.mem_of_getElem? (i := 11) rfl))) Via.refl e3 F1_o (g := (mkF m 22 #[.val (.ref o), .val (.long x), .second, .val (.int (4 : Int32)), .unset, .unset] [(.ref o), (.int (2 : Int32))])) rfl rfl (hb hby d3_22)
  refine own_Go.of (g' := (mkF m 25 #[.val (.ref o), .val (.long x), .second, .val (.int (4 : Int32)), .unset, .unset] [(.ref b), (.int (2 : Int32))])) (fun t k => st5 _ k) ?_
  obtain ⟨cl6, Ar6, q6, S6, M6, H6, G6⟩ := id V_b
  refine own_Go.of (g' := (mkF m 26 #[.val (.ref o), .val (.long x), .second, .val (.int (4 : Int32)), .unset, .unset] [(.int (2 : Int32)), (.int (2 : Int32))])) (fun t k => X5.arraylength hx (by rw [e5]; exact Ar6.1) (State.isArrayOf_alike hZ.alike Ar6.2.1) (g := (mkF m 25 #[.val (.ref o), .val (.long x), .second, .val (.int (4 : Int32)), .unset, .unset] [(.ref b), (.int (2 : Int32))])) rfl rfl (hb hby d3_25) _ (by rw [len_of S6 M6]; exact k)) ?_
  refine og_imul (pc' := 27) X5 hx (hb hby d3_26) rfl ?_
  rw [show ((2 : Int32) * (2 : Int32)) = (4 : Int32) from by decide]
  refine og_iloadN (pc' := 28) X5 hx (hb hby d3_27) rfl rfl ?_
  obtain ⟨_, _, ⟨T7, L7, k7, n7⟩, -, X7, ⟨Lc7, hQ7, l7, y7, z7⟩, st7⟩ := Jvm.LawKit.callS X5 hx (y := (⟨"java/lang/Math", "min", "(II)I"⟩ : MethodName)) hown (mvT hZ (hw _ (List.mem_of_getElem? (i := 28) rfl))) (mvT hZ (hw _ (List.mem_of_getElem? (i := 29) rfl))) (mvT hZ (hw _ (List.mem_of_getElem? (i := 30) rfl))) (mvT hZ (hw _ (List.mem_of_getElem? (i := 31) rfl))) (by decide) (backOf (W := 0) (rmmn l Z a0 hw [] (4 : Int32) (4 : Int32) h0 n0 Z0 ) hZ (hw _ (List.mem_of_getElem? (i := 31) rfl)) (hw _ (List.mem_of_getElem? (i := 30) rfl)) (by decide) (by decide)) (g := (mkF m 28 #[.val (.ref o), .val (.long x), .second, .val (.int (4 : Int32)), .unset, .unset] [(.int (4 : Int32)), (.int (4 : Int32))])) rfl (by rw [hml]; rfl) (argsL := [(.int (4 : Int32)), (.int (4 : Int32))]) (rest := []) (lenOf pd_0 rfl) rfl (by show 2 * 0 + _ ≤ _; exact Nat.le_of_eq rfl) (hb hby d3_28) (fun _ _ => ⟨rfl, e5, (by decide : 0 + 0 ≤ _), (by decide : 0 + 0 ≤ _)⟩)
  dsimp only [Pt.U, Pt.locs, Pt.cells, Pt.slots] at X7 l7 y7 z7 st7 hQ7
  subst l7 y7 z7
  obtain ⟨rfl, N7q, e7⟩ := hQ7
  have N7 := Fr.app N0 N7q
  refine own_Go.of (g' := (mkF m 31 #[.val (.ref o), .val (.long x), .second, .val (.int (4 : Int32)), .unset, .unset] [(.int (own_min (4 : Int32) (4 : Int32)))])) (fun t k => st7 _ k) ?_
  rw [show (own_min (4 : Int32) (4 : Int32)) = (4 : Int32) from by decide]
  obtain ⟨T8, h8, k8, X8, e8, E8, A8, st8⟩ := newP X7 hx hZ (hw _ (List.mem_of_getElem? (i := 10) rfl)) e7 (g := (mkF m 31 #[.val (.ref o), .val (.long x), .second, .val (.int (4 : Int32)), .unset, .unset] [(.int (4 : Int32))])) rfl (hb hby d3_31) rfl (by decide) (cap := 4) (by decide) (by decide) (by decide) (by decide)
  obtain ⟨b8, g8⟩ : ∃ z, z = h0.size := ⟨_, rfl⟩
  rw [← g8] at A8 st8
  have ne8_1 : o ≠ b8 := Nat.ne_of_lt (Nat.lt_of_lt_of_le E_o.lt (Nat.le_of_eq g8.symm))
  have ne8_2 : b ≠ b8 := Nat.ne_of_lt (Nat.lt_of_lt_of_le V_b.lt (Nat.le_of_eq g8.symm))
  have g_b8 : n0 ≤ b8 := Nat.le_trans Z0 (Nat.le_of_eq g8.symm)
  have sz_b8 : h0.size ≤ b8 := Nat.le_trans (Keep.refl h0 [o]).1 (Nat.le_of_eq g8.symm)
  have f8_0 := E_o.ext E8
  have f8_1 := F1_o.ext E8
  have f8_2 := F2_o.ext E8
  have f8_3 := F3_o.ext E8
  have f8_4 := V_b.ext E8
  have V8 : Arv Z h8 b8 k8 .long (4 : Int32) [(.long (0 : Int64)), (.long (0 : Int64)), (.long (0 : Int64)), (.long (0 : Int64))] (.long (0 : Int64)) := (Arv.new A8 (by decide)).pad (pad_rep [] (.long (0 : Int64)) 4)
  have K8 : Keep h0 h8 [o] := (Keep.refl h0 [o]).ext E8
  have Z8 : n0 ≤ h8.size := Nat.le_trans Z0 K8.1
  refine own_Go.of (g' := (mkF m 33 #[.val (.ref o), .val (.long x), .second, .val (.int (4 : Int32)), .unset, .unset] [(.ref b8)])) (fun t k => st8 _ k) ?_
  refine og_astore (pc' := 35) (L' := #[.val (.ref o), .val (.long x), .second, .val (.int (4 : Int32)), .val (.ref b8), .unset]) X8 hx (hb hby d3_33) rfl rfl rfl ?_
  refine og_iconst (pc' := 36) (n := 0) X8 hx (hb hby d3_35) rfl rfl ?_
  refine og_istore (pc' := 38) (L' := #[.val (.ref o), .val (.long x), .second, .val (.int (4 : Int32)), .val (.ref b8), .val (.int (0 : Int32))]) X8 hx (hb hby d3_36) rfl rfl ?_
  refine og_iload (pc' := 40) X8 hx (hb hby d3_38) rfl rfl ?_
  refine og_aloadN (pc' := 41) X8 hx (hb hby d3_40) rfl rfl rfl ?_
  obtain ⟨T9, X9, e9, st9⟩ := getF X8 hx hZ hown (host := "") (Or.inl (hw _ (List.mem_of_getElem? (i := 18) rfl))) Via.refl e8 f8_3 (g := (mkF m 41 #[.val (.ref o), .val (.long x), .second, .val (.int (4 : Int32)), .val (.ref b8), .val (.int (0 : Int32))] [(.ref o), (.int (0 : Int32))])) rfl rfl (hb hby d3_41)
  refine own_Go.of (g' := (mkF m 44 #[.val (.ref o), .val (.long x), .second, .val (.int (4 : Int32)), .val (.ref b8), .val (.int (0 : Int32))] [(.int (2 : Int32)), (.int (0 : Int32))])) (fun t k => st9 _ k) ?_
  refine og_icmpNo (pc' := 47) X9 hx (hb hby d3_44) (tlt (by decide)).2.1 rfl ?_
  refine og_aload (pc' := 49) X9 hx (hb hby d3_47) rfl rfl rfl ?_
  refine og_iload (pc' := 51) X9 hx (hb hby d3_49) rfl rfl ?_
  refine og_aloadN (pc' := 52) X9 hx (hb hby d3_51) rfl rfl rfl ?_
  obtain ⟨T10, X10, e10, st10⟩ := getF X9 hx hZ hown (host := "") (Or.inl (hw _ (List.mem_of_getElem? (i := 11) rfl))) Via.refl e9 f8_1 (g := (mkF m 52 #[.val (.ref o), .val (.long x), .second, .val (.int (4 : Int32)), .val (.ref b8), .val (.int (0 : Int32))] [(.ref o), (.int (0 : Int32)), (.ref b8)])) rfl rfl (hb hby d3_52)
  refine own_Go.of (g' := (mkF m 55 #[.val (.ref o), .val (.long x), .second, .val (.int (4 : Int32)), .val (.ref b8), .val (.int (0 : Int32))] [(.ref b), (.int (0 : Int32)), (.ref b8)])) (fun t k => st10 _ k) ?_
  refine og_aloadN (pc' := 56) X10 hx (hb hby d3_55) rfl rfl rfl ?_
  obtain ⟨T11, X11, e11, st11⟩ := getF X10 hx hZ hown (host := "") (Or.inl (hw _ (List.mem_of_getElem? (i := 20) rfl))) Via.refl e10 f8_2 (g := (mkF m 56 #[.val (.ref o), .val (.long x), .second, .val (.int (4 : Int32)), .val (.ref b8), .val (.int (0 : Int32))] [(.ref o), (.ref b), (.int (0 : Int32)), (.ref b8)])) rfl rfl (hb hby d3_56)
  refine own_Go.of (g' := (mkF m 59 #[.val (.ref o), .val (.long x), .second, .val (.int (4 : Int32)), .val (.ref b8), .val (.int (0 : Int32))] [(.int (0 : Int32)), (.ref b), (.int (0 : Int32)), (.ref b8)])) (fun t k => st11 _ k) ?_
  refine og_iload (pc' := 61) X11 hx (hb hby d3_59) rfl rfl ?_
  refine og_iadd (pc' := 62) X11 hx (hb hby d3_61) rfl ?_
  rw [show ((0 : Int32) + (0 : Int32)) = (0 : Int32) from by decide]
  refine og_aloadN (pc' := 63) X11 hx (hb hby d3_62) rfl rfl rfl ?_
  obtain ⟨T12, X12, e12, st12⟩ := getF X11 hx hZ hown (host := "") (Or.inl (hw _ (List.mem_of_getElem? (i := 11) rfl))) Via.refl e11 f8_1 (g := (mkF m 63 #[.val (.ref o), .val (.long x), .second, .val (.int (4 : Int32)), .val (.ref b8), .val (.int (0 : Int32))] [(.ref o), (.int (0 : Int32)), (.ref b), (.int (0 : Int32)), (.ref b8)])) rfl rfl (hb hby d3_63)
  refine own_Go.of (g' := (mkF m 66 #[.val (.ref o), .val (.long x), .second, .val (.int (4 : Int32)), .val (.ref b8), .val (.int (0 : Int32))] [(.ref b), (.int (0 : Int32)), (.ref b), (.int (0 : Int32)), (.ref b8)])) (fun t k => st12 _ k) ?_
  obtain ⟨cl13, Ar13, q13, S13, M13, H13, G13⟩ := id f8_4
  refine own_Go.of (g' := (mkF m 67 #[.val (.ref o), .val (.long x), .second, .val (.int (4 : Int32)), .val (.ref b8), .val (.int (0 : Int32))] [(.int (2 : Int32)), (.int (0 : Int32)), (.ref b), (.int (0 : Int32)), (.ref b8)])) (fun t k => X12.arraylength hx (by rw [e12]; exact Ar13.1) (State.isArrayOf_alike hZ.alike Ar13.2.1) (g := (mkF m 66 #[.val (.ref o), .val (.long x), .second, .val (.int (4 : Int32)), .val (.ref b8), .val (.int (0 : Int32))] [(.ref b), (.int (0 : Int32)), (.ref b), (.int (0 : Int32)), (.ref b8)])) rfl rfl (hb hby d3_66) _ (by rw [len_of S13 M13]; exact k)) ?_
  refine og_irem (pc' := 68) X12 hx (hb hby d3_67) (by decide) rfl ?_
  rw [show ((0 : Int32) % (2 : Int32)) = (0 : Int32) from by decide]
  obtain ⟨cl14, Ar14, q14, S14, M14, H14, G14⟩ := id f8_4
  have hin14 : ¬ ((0 : Int32) < 0 ∨ cl14.slots.size ≤ ((0 : Int32)).toNatClampNeg) := inb_of S14 ⟨by decide, by decide⟩
  have hat14 : cl14.slots[((0 : Int32)).toNatClampNeg]? = some (.long v0) := Has.at H14 hin14 rfl
  refine own_Go.of (g' := (mkF m 69 #[.val (.ref o), .val (.long x), .second, .val (.int (4 : Int32)), .val (.ref b8), .val (.int (0 : Int32))] [(.long v0), (.int (0 : Int32)), (.ref b8)])) (fun t k => X12.laload hx (j := (0 : Int32)) (v := (.long v0)) (by rw [e12]; exact Ar14.1) (State.isArrayOf_alike hZ.alike Ar14.2.1) Ar14.2.2 hin14 hat14 (g := (mkF m 68 #[.val (.ref o), .val (.long x), .second, .val (.int (4 : Int32)), .val (.ref b8), .val (.int (0 : Int32))] [(.int (0 : Int32)), (.ref b), (.int (0 : Int32)), (.ref b8)])) rfl rfl (hb hby d3_68) _ k) ?_
  obtain ⟨cl15, Ar15, q15, S15, M15, H15, G15⟩ := id V8
  have hin15 : ¬ ((0 : Int32) < 0 ∨ cl15.slots.size ≤ ((0 : Int32)).toNatClampNeg) := inb_of S15 ⟨by decide, by decide⟩
  obtain ⟨T15, h15, X15, e15, W15, st15⟩ := stJ X12 hx hZ e12 Ar15 (j := (0 : Int32)) hin15 (g := (mkF m 69 #[.val (.ref o), .val (.long x), .second, .val (.int (4 : Int32)), .val (.ref b8), .val (.int (0 : Int32))] [(.long v0), (.int (0 : Int32)), (.ref b8)])) rfl rfl (hb hby d3_69)
  have V15 : Arv Z h15 b8 k8 .long (4 : Int32) [(.long v0), (.long (0 : Int64)), (.long (0 : Int64)), (.long (0 : Int64))] (.long (0 : Int64)) := Arv.set Ar15 q15 S15 M15 H15 G15 rfl W15 0 rfl (Nat.le_of_ble_eq_true rfl)
  have f15_0 := f8_0.wr W15
  have f15_1 := f8_1.other W15 (Or.inl ne8_1)
  have f15_2 := f8_2.other W15 (Or.inl ne8_1)
  have f15_3 := f8_3.other W15 (Or.inl ne8_1)
  have f15_4 := f8_4.other W15 ne8_2
  have K15 : Keep h0 h15 [o] := K8.wr W15 (Or.inr sz_b8)
  have Z15 : n0 ≤ h15.size := Nat.le_trans Z0 K15.1
  have N15 := Fr.snoc X15 N7 g_b8
  refine own_Go.of (g' := (mkF m 70 #[.val (.ref o), .val (.long x), .second, .val (.int (4 : Int32)), .val (.ref b8), .val (.int (0 : Int32))] [])) (fun t k => st15 _ k) ?_
  refine og_iinc (pc' := 73) (L' := #[.val (.ref o), .val (.long x), .second, .val (.int (4 : Int32)), .val (.ref b8), .val (.int ((0 : Int32) + (1 : Int32)))]) X15 hx (hb hby d3_70) rfl rfl rfl ?_
  rw [show ((0 : Int32) + (1 : Int32)) = (1 : Int32) from by decide]
  refine og_goto (pc' := 38) X15 hx (hb hby d3_73) (by decide) (by decide) ?_
  refine og_iload (pc' := 40) X15 hx (hb hby d3_38) rfl rfl ?_
  refine og_aloadN (pc' := 41) X15 hx (hb hby d3_40) rfl rfl rfl ?_
  obtain ⟨T16, X16, e16, st16⟩ := getF X15 hx hZ hown (host := "") (Or.inl (hw _ (List.mem_of_getElem? (i := 18) rfl))) Via.refl e15 f15_3 (g := (mkF m 41 #[.val (.ref o), .val (.long x), .second, .val (.int (4 : Int32)), .val (.ref b8), .val (.int (1 : Int32))] [(.ref o), (.int (1 : Int32))])) rfl rfl (hb hby d3_41)
  refine own_Go.of (g' := (mkF m 44 #[.val (.ref o), .val (.long x), .second, .val (.int (4 : Int32)), .val (.ref b8), .val (.int (1 : Int32))] [(.int (2 : Int32)), (.int (1 : Int32))])) (fun t k => st16 _ k) ?_
  refine og_icmpNo (pc' := 47) X16 hx (hb hby d3_44) (tlt (by decide)).2.1 rfl ?_
  refine og_aload (pc' := 49) X16 hx (hb hby d3_47) rfl rfl rfl ?_
  refine og_iload (pc' := 51) X16 hx (hb hby d3_49) rfl rfl ?_
  refine og_aloadN (pc' := 52) X16 hx (hb hby d3_51) rfl rfl rfl ?_
  obtain ⟨T17, X17, e17, st17⟩ := getF X16 hx hZ hown (host := "") (Or.inl (hw _ (List.mem_of_getElem? (i := 11) rfl))) Via.refl e16 f15_1 (g := (mkF m 52 #[.val (.ref o), .val (.long x), .second, .val (.int (4 : Int32)), .val (.ref b8), .val (.int (1 : Int32))] [(.ref o), (.int (1 : Int32)), (.ref b8)])) rfl rfl (hb hby d3_52)
  refine own_Go.of (g' := (mkF m 55 #[.val (.ref o), .val (.long x), .second, .val (.int (4 : Int32)), .val (.ref b8), .val (.int (1 : Int32))] [(.ref b), (.int (1 : Int32)), (.ref b8)])) (fun t k => st17 _ k) ?_
  refine og_aloadN (pc' := 56) X17 hx (hb hby d3_55) rfl rfl rfl ?_
  obtain ⟨T18, X18, e18, st18⟩ := getF X17 hx hZ hown (host := "") (Or.inl (hw _ (List.mem_of_getElem? (i := 20) rfl))) Via.refl e17 f15_2 (g := (mkF m 56 #[.val (.ref o), .val (.long x), .second, .val (.int (4 : Int32)), .val (.ref b8), .val (.int (1 : Int32))] [(.ref o), (.ref b), (.int (1 : Int32)), (.ref b8)])) rfl rfl (hb hby d3_56)
  refine own_Go.of (g' := (mkF m 59 #[.val (.ref o), .val (.long x), .second, .val (.int (4 : Int32)), .val (.ref b8), .val (.int (1 : Int32))] [(.int (0 : Int32)), (.ref b), (.int (1 : Int32)), (.ref b8)])) (fun t k => st18 _ k) ?_
  refine og_iload (pc' := 61) X18 hx (hb hby d3_59) rfl rfl ?_
  refine og_iadd (pc' := 62) X18 hx (hb hby d3_61) rfl ?_
  rw [show ((0 : Int32) + (1 : Int32)) = (1 : Int32) from by decide]
  refine og_aloadN (pc' := 63) X18 hx (hb hby d3_62) rfl rfl rfl ?_
  obtain ⟨T19, X19, e19, st19⟩ := getF X18 hx hZ hown (host := "") (Or.inl (hw _ (List.mem_of_getElem? (i := 11) rfl))) Via.refl e18 f15_1 (g := (mkF m 63 #[.val (.ref o), .val (.long x), .second, .val (.int (4 : Int32)), .val (.ref b8), .val (.int (1 : Int32))] [(.ref o), (.int (1 : Int32)), (.ref b), (.int (1 : Int32)), (.ref b8)])) rfl rfl (hb hby d3_63)
  refine own_Go.of (g' := (mkF m 66 #[.val (.ref o), .val (.long x), .second, .val (.int (4 : Int32)), .val (.ref b8), .val (.int (1 : Int32))] [(.ref b), (.int (1 : Int32)), (.ref b), (.int (1 : Int32)), (.ref b8)])) (fun t k => st19 _ k) ?_
  obtain ⟨cl20, Ar20, q20, S20, M20, H20, G20⟩ := id f15_4
  refine own_Go.of (g' := (mkF m 67 #[.val (.ref o), .val (.long x), .second, .val (.int (4 : Int32)), .val (.ref b8), .val (.int (1 : Int32))] [(.int (2 : Int32)), (.int (1 : Int32)), (.ref b), (.int (1 : Int32)), (.ref b8)])) (fun t k => X19.arraylength hx (by rw [e19]; exact Ar20.1) (State.isArrayOf_alike hZ.alike Ar20.2.1) (g := (mkF m 66 #[.val (.ref o), .val (.long x), .second, .val (.int (4 : Int32)), .val (.ref b8), .val (.int (1 : Int32))] [(.ref b), (.int (1 : Int32)), (.ref b), (.int (1 : Int32)), (.ref b8)])) rfl rfl (hb hby d3_66) _ (by rw [len_of S20 M20]; exact k)) ?_
  refine og_irem (pc' := 68) X19 hx (hb hby d3_67) (by decide) rfl ?_
  rw [show ((1 : Int32) % (2 : Int32)) = (1 : Int32) from by decide]
  obtain ⟨cl21, Ar21, q21, S21, M21, H21, G21⟩ := id f15_4
  have hin21 : ¬ ((1 : Int32) < 0 ∨ cl21.slots.size ≤ ((1 : Int32)).toNatClampNeg) := inb_of S21 ⟨by decide, by decide⟩
  have hat21 : cl21.slots[((1 : Int32)).toNatClampNeg]? = some (.long v1) := Has.at H21 hin21 rfl
  refine own_Go.of (g' := (mkF m 69 #[.val (.ref o), .val (.long x), .second, .val (.int (4 : Int32)), .val (.ref b8), .val (.int (1 : Int32))] [(.long v1), (.int (1 : Int32)), (.ref b8)])) (fun t k => X19.laload hx (j := (1 : Int32)) (v := (.long v1)) (by rw [e19]; exact Ar21.1) (State.isArrayOf_alike hZ.alike Ar21.2.1) Ar21.2.2 hin21 hat21 (g := (mkF m 68 #[.val (.ref o), .val (.long x), .second, .val (.int (4 : Int32)), .val (.ref b8), .val (.int (1 : Int32))] [(.int (1 : Int32)), (.ref b), (.int (1 : Int32)), (.ref b8)])) rfl rfl (hb hby d3_68) _ k) ?_
  obtain ⟨cl22, Ar22, q22, S22, M22, H22, G22⟩ := id V15
  have hin22 : ¬ ((1 : Int32) < 0 ∨ cl22.slots.size ≤ ((1 : Int32)).toNatClampNeg) := inb_of S22 ⟨by decide, by decide⟩
  obtain ⟨T22, h22, X22, e22, W22, st22⟩ := stJ X19 hx hZ e19 Ar22 (j := (1 : Int32)) hin22 (g := (mkF m 69 #[.val (.ref o), .val (.long x), .second, .val (.int (4 : Int32)), .val (.ref b8), .val (.int (1 : Int32))] [(.long v1), (.int (1 : Int32)), (.ref b8)])) rfl rfl (hb hby d3_69)
  have V22 : Arv Z h22 b8 k8 .long (4 : Int32) [(.long v0), (.long v1), (.long (0 : Int64)), (.long (0 : Int64))] (.long (0 : Int64)) := Arv.set Ar22 q22 S22 M22 H22 G22 rfl W22 1 rfl (Nat.le_of_ble_eq_true rfl)
  have f22_0 := f15_0.wr W22
  have f22_1 := f15_1.other W22 (Or.inl ne8_1)
  have f22_2 := f15_2.other W22 (Or.inl ne8_1)
  have f22_3 := f15_3.other W22 (Or.inl ne8_1)
  have f22_4 := f15_4.other W22 ne8_2
  have K22 : Keep h0 h22 [o] := K15.wr W22 (Or.inr sz_b8)
  have Z22 : n0 ≤ h22.size := Nat.le_trans Z0 K22.1
  have N22 := Fr.snoc X22 N15 g_b8
  refine own_Go.of (g' := (mkF m 70 #[.val (.ref o), .val (.long x), .second, .val (.int (4 : Int32)), .val (.ref b8), .val (.int (1 : Int32))] [])) (fun t k => st22 _ k) ?_
  refine og_iinc (pc' := 73) (L' := #[.val (.ref o), .val (.long x), .second, .val (.int (4 : Int32)), .val (.ref b8), .val (.int ((1 : Int32) + (1 : Int32)))]) X22 hx (hb hby d3_70) rfl rfl rfl ?_
  rw [show ((1 : Int32) + (1 : Int32)) = (2 : Int32) from by decide]
  refine og_goto (pc' := 38) X22 hx (hb hby d3_73) (by decide) (by decide) ?_
  refine og_iload (pc' := 40) X22 hx (hb hby d3_38) rfl rfl ?_
  refine og_aloadN (pc' := 41) X22 hx (hb hby d3_40) rfl rfl rfl ?_
  obtain ⟨T23, X23, e23, st23⟩ := getF X22 hx hZ hown (host := "") (Or.inl (hw _ (List.mem_of_getElem? (i := 18) rfl))) Via.refl e22 f22_3 (g := (mkF m 41 #[.val (.ref o), .val (.long x), .second, .val (.int (4 : Int32)), .val (.ref b8), .val (.int (2 : Int32))] [(.ref o), (.int (2 : Int32))])) rfl rfl (hb hby d3_41)
  refine own_Go.of (g' := (mkF m 44 #[.val (.ref o), .val (.long x), .second, .val (.int (4 : Int32)), .val (.ref b8), .val (.int (2 : Int32))] [(.int (2 : Int32)), (.int (2 : Int32))])) (fun t k => st23 _ k) ?_
  refine og_icmpYes (pc' := 76) X23 hx (hb hby d3_44) (flt (by decide)).2.1 (by decide) (by decide) ?_
  refine og_aloadN (pc' := 77) X23 hx (hb hby d3_76) rfl rfl rfl ?_
  refine og_aload (pc' := 79) X23 hx (hb hby d3_77) rfl rfl rfl ?_
  obtain ⟨T24, h24, X24, e24, W24, st24⟩ := putF X23 hx hZ hown (host := "") (Or.inl (hw _ (List.mem_of_getElem? (i := 11) rfl))) Via.refl e23 f22_1 f22_0 (Or.inl (hw _ (List.mem_of_getElem? (i := 12) rfl))) (hw _ (List.mem_of_getElem? (i := 2) rfl)) (ty := (.array .long)) (by decide) rfl rfl (g := (mkF m 79 #[.val (.ref o), .val (.long x), .second, .val (.int (4 : Int32)), .val (.ref b8), .val (.int (2 : Int32))] [(.ref b8), (.ref o)])) rfl rfl (hb hby d3_79)
  have w24 : Fld Z h24 o "com/example/ostracon/ostracon/LastValues" "values" "[J" (.ref b8) := f22_1.same W24
  have f24_0 := f22_0.wr W24
  have f24_1 := f22_2.other W24 (Or.inr (slot_ne (a0 := a0) (C := "com/example/ostracon/ostracon/LastValues") (Or.inl (hw _ (List.mem_of_getElem? (i := 21) rfl))) (Or.inl (hw _ (List.mem_of_getElem? (i := 12) rfl))) (by decide) (t := .int) (t' := (.array .long)) (by decide) (by decide)))
  have f24_2 := f22_3.other W24 (Or.inr (slot_ne (a0 := a0) (C := "com/example/ostracon/ostracon/LastValues") (Or.inl (hw _ (List.mem_of_getElem? (i := 19) rfl))) (Or.inl (hw _ (List.mem_of_getElem? (i := 12) rfl))) (by decide) (t := .int) (t' := (.array .long)) (by decide) (by decide)))
  have f24_3 := f22_4.other W24 (Ne.symm ne_ob)
  have f24_7 := V22.other W24 (Ne.symm ne8_1)
  have K24 : Keep h0 h24 [o] := K22.wr W24 (Or.inl (List.mem_of_getElem? (i := 0) rfl))
  have Z24 : n0 ≤ h24.size := Nat.le_trans Z0 K24.1
  have N24 := Fr.snoc X24 N22 g_o
  refine own_Go.of (g' := (mkF m 82 #[.val (.ref o), .val (.long x), .second, .val (.int (4 : Int32)), .val (.ref b8), .val (.int (2 : Int32))] [])) (fun t k => st24 _ k) ?_
  refine og_aloadN (pc' := 83) X24 hx (hb hby d3_82) rfl rfl rfl ?_
  refine og_iconst (pc' := 84) (n := 0) X24 hx (hb hby d3_83) rfl rfl ?_
  obtain ⟨T25, h25, X25, e25, W25, st25⟩ := putF X24 hx hZ hown (host := "") (Or.inl (hw _ (List.mem_of_getElem? (i := 20) rfl))) Via.refl e24 f24_1 f24_0 (Or.inl (hw _ (List.mem_of_getElem? (i := 21) rfl))) (hw _ (List.mem_of_getElem? (i := 2) rfl)) (ty := .int) (by decide) rfl rfl (g := (mkF m 84 #[.val (.ref o), .val (.long x), .second, .val (.int (4 : Int32)), .val (.ref b8), .val (.int (2 : Int32))] [(.int (0 : Int32)), (.ref o)])) rfl rfl (hb hby d3_84)
  have w25 : Fld Z h25 o "com/example/ostracon/ostracon/LastValues" "start" "I" (.int (0 : Int32)) := f24_1.same W25
  have f25_0 := f24_0.wr W25
  have f25_1 := f24_2.other W25 (Or.inr (slot_ne (a0 := a0) (C := "com/example/ostracon/ostracon/LastValues") (Or.inl (hw _ (List.mem_of_getElem? (i := 19) rfl))) (Or.inl (hw _ (List.mem_of_getElem? (i := 21) rfl))) (by decide) (t := .int) (t' := .int) (by decide) (by decide)))
  have f25_2 := f24_3.other W25 (Ne.symm ne_ob)
  have f25_6 := f24_7.other W25 (Ne.symm ne8_1)
  have f25_7 := w24.other W25 (Or.inr (slot_ne (a0 := a0) (C := "com/example/ostracon/ostracon/LastValues") (Or.inl (hw _ (List.mem_of_getElem? (i := 12) rfl))) (Or.inl (hw _ (List.mem_of_getElem? (i := 21) rfl))) (by decide) (t := (.array .long)) (t' := .int) (by decide) (by decide)))
  have K25 : Keep h0 h25 [o] := K24.wr W25 (Or.inl (List.mem_of_getElem? (i := 0) rfl))
  have Z25 : n0 ≤ h25.size := Nat.le_trans Z0 K25.1
  have N25 := Fr.snoc X25 N24 g_o
  refine own_Go.of (g' := (mkF m 87 #[.val (.ref o), .val (.long x), .second, .val (.int (4 : Int32)), .val (.ref b8), .val (.int (2 : Int32))] [])) (fun t k => st25 _ k) ?_
  refine og_aloadN (pc' := 88) X25 hx (hb hby d3_87) rfl rfl rfl ?_
  obtain ⟨T26, X26, e26, st26⟩ := getF X25 hx hZ hown (host := "") (Or.inl (hw _ (List.mem_of_getElem? (i := 11) rfl))) Via.refl e25 f25_7 (g := (mkF m 88 #[.val (.ref o), .val (.long x), .second, .val (.int (4 : Int32)), .val (.ref b8), .val (.int (2 : Int32))] [(.ref o)])) rfl rfl (hb hby d3_88)
  refine own_Go.of (g' := (mkF m 91 #[.val (.ref o), .val (.long x), .second, .val (.int (4 : Int32)), .val (.ref b8), .val (.int (2 : Int32))] [(.ref b8)])) (fun t k => st26 _ k) ?_
  refine og_aloadN (pc' := 92) X26 hx (hb hby d3_91) rfl rfl rfl ?_
  obtain ⟨T27, X27, e27, st27⟩ := getF X26 hx hZ hown (host := "") (Or.inl (hw _ (List.mem_of_getElem? (i := 20) rfl))) Via.refl e26 w25 (g := (mkF m 92 #[.val (.ref o), .val (.long x), .second, .val (.int (4 : Int32)), .val (.ref b8), .val (.int (2 : Int32))] [(.ref o), (.ref b8)])) rfl rfl (hb hby d3_92)
  refine own_Go.of (g' := (mkF m 95 #[.val (.ref o), .val (.long x), .second, .val (.int (4 : Int32)), .val (.ref b8), .val (.int (2 : Int32))] [(.int (0 : Int32)), (.ref b8)])) (fun t k => st27 _ k) ?_
  refine og_aloadN (pc' := 96) X27 hx (hb hby d3_95) rfl rfl rfl ?_
  obtain ⟨T28, X28, e28, st28⟩ := getF X27 hx hZ hown (host := "") (Or.inl (hw _ (List.mem_of_getElem? (i := 18) rfl))) Via.refl e27 f25_1 (g := (mkF m 96 #[.val (.ref o), .val (.long x), .second, .val (.int (4 : Int32)), .val (.ref b8), .val (.int (2 : Int32))] [(.ref o), (.int (0 : Int32)), (.ref b8)])) rfl rfl (hb hby d3_96)
  refine own_Go.of (g' := (mkF m 99 #[.val (.ref o), .val (.long x), .second, .val (.int (4 : Int32)), .val (.ref b8), .val (.int (2 : Int32))] [(.int (2 : Int32)), (.int (0 : Int32)), (.ref b8)])) (fun t k => st28 _ k) ?_
  refine og_iadd (pc' := 100) X28 hx (hb hby d3_99) rfl ?_
  rw [show ((0 : Int32) + (2 : Int32)) = (2 : Int32) from by decide]
  refine og_aloadN (pc' := 101) X28 hx (hb hby d3_100) rfl rfl rfl ?_
  obtain ⟨T29, X29, e29, st29⟩ := getF X28 hx hZ hown (host := "") (Or.inl (hw _ (List.mem_of_getElem? (i := 11) rfl))) Via.refl e28 f25_7 (g := (mkF m 101 #[.val (.ref o), .val (.long x), .second, .val (.int (4 : Int32)), .val (.ref b8), .val (.int (2 : Int32))] [(.ref o), (.int (2 : Int32)), (.ref b8)])) rfl rfl (hb hby d3_101)
  refine own_Go.of (g' := (mkF m 104 #[.val (.ref o), .val (.long x), .second, .val (.int (4 : Int32)), .val (.ref b8), .val (.int (2 : Int32))] [(.ref b8), (.int (2 : Int32)), (.ref b8)])) (fun t k => st29 _ k) ?_
  obtain ⟨cl30, Ar30, q30, S30, M30, H30, G30⟩ := id f25_6
  refine own_Go.of (g' := (mkF m 105 #[.val (.ref o), .val (.long x), .second, .val (.int (4 : Int32)), .val (.ref b8), .val (.int (2 : Int32))] [(.int (4 : Int32)), (.int (2 : Int32)), (.ref b8)])) (fun t k => X29.arraylength hx (by rw [e29]; exact Ar30.1) (State.isArrayOf_alike hZ.alike Ar30.2.1) (g := (mkF m 104 #[.val (.ref o), .val (.long x), .second, .val (.int (4 : Int32)), .val (.ref b8), .val (.int (2 : Int32))] [(.ref b8), (.int (2 : Int32)), (.ref b8)])) rfl rfl (hb hby d3_104) _ (by rw [len_of S30 M30]; exact k)) ?_
  refine og_irem (pc' := 106) X29 hx (hb hby d3_105) (by decide) rfl ?_
  rw [show ((2 : Int32) % (4 : Int32)) = (2 : Int32) from by decide]
  refine og_lloadN (pc' := 107) X29 hx (hb hby d3_106) rfl rfl ?_
  obtain ⟨cl31, Ar31, q31, S31, M31, H31, G31⟩ := id f25_6
  have hin31 : ¬ ((2 : Int32) < 0 ∨ cl31.slots.size ≤ ((2 : Int32)).toNatClampNeg) := inb_of S31 ⟨by decide, by decide⟩
  obtain ⟨T31, h31, X31, e31, W31, st31⟩ := stJ X29 hx hZ e29 Ar31 (j := (2 : Int32)) hin31 (g := (mkF m 107 #[.val (.ref o), .val (.long x), .second, .val (.int (4 : Int32)), .val (.ref b8), .val (.int (2 : Int32))] [(.long x), (.int (2 : Int32)), (.ref b8)])) rfl rfl (hb hby d3_107)
  have V31 : Arv Z h31 b8 k8 .long (4 : Int32) [(.long v0), (.long v1), (.long x), (.long (0 : Int64))] (.long (0 : Int64)) := Arv.set Ar31 q31 S31 M31 H31 G31 rfl W31 2 rfl (Nat.le_of_ble_eq_true rfl)
  have f31_0 := f25_0.wr W31
  have f31_1 := f25_1.other W31 (Or.inl ne8_1)
  have f31_2 := f25_2.other W31 ne8_2
  have f31_6 := f25_7.other W31 (Or.inl ne8_1)
  have f31_7 := w25.other W31 (Or.inl ne8_1)
  have K31 : Keep h0 h31 [o] := K25.wr W31 (Or.inr sz_b8)
  have Z31 : n0 ≤ h31.size := Nat.le_trans Z0 K31.1
  have N31 := Fr.snoc X31 N25 g_b8
  refine own_Go.of (g' := (mkF m 108 #[.val (.ref o), .val (.long x), .second, .val (.int (4 : Int32)), .val (.ref b8), .val (.int (2 : Int32))] [])) (fun t k => st31 _ k) ?_
  refine og_aloadN (pc' := 109) X31 hx (hb hby d3_108) rfl rfl rfl ?_
  refine og_dup (pc' := 110) X31 hx (hb hby d3_109) rfl rfl ?_
  obtain ⟨T32, X32, e32, st32⟩ := getF X31 hx hZ hown (host := "") (Or.inl (hw _ (List.mem_of_getElem? (i := 18) rfl))) Via.refl e31 f31_1 (g := (mkF m 110 #[.val (.ref o), .val (.long x), .second, .val (.int (4 : Int32)), .val (.ref b8), .val (.int (2 : Int32))] [(.ref o), (.ref o)])) rfl rfl (hb hby d3_110)
  refine own_Go.of (g' := (mkF m 113 #[.val (.ref o), .val (.long x), .second, .val (.int (4 : Int32)), .val (.ref b8), .val (.int (2 : Int32))] [(.int (2 : Int32)), (.ref o)])) (fun t k => st32 _ k) ?_
  refine og_iconst (pc' := 114) (n := 1) X32 hx (hb hby d3_113) rfl rfl ?_
  refine og_iadd (pc' := 115) X32 hx (hb hby d3_114) rfl ?_
  rw [show ((2 : Int32) + (1 : Int32)) = (3 : Int32) from by decide]
  obtain ⟨T33, h33, X33, e33, W33, st33⟩ := putF X32 hx hZ hown (host := "") (Or.inl (hw _ (List.mem_of_getElem? (i := 18) rfl))) Via.refl e32 f31_1 f31_0 (Or.inl (hw _ (List.mem_of_getElem? (i := 19) rfl))) (hw _ (List.mem_of_getElem? (i := 2) rfl)) (ty := .int) (by decide) rfl rfl (g := (mkF m 115 #[.val (.ref o), .val (.long x), .second, .val (.int (4 : Int32)), .val (.ref b8), .val (.int (2 : Int32))] [(.int (3 : Int32)), (.ref o)])) rfl rfl (hb hby d3_115)
  have w33 : Fld Z h33 o "com/example/ostracon/ostracon/LastValues" "count" "I" (.int (3 : Int32)) := f31_1.same W33
  have f33_0 := f31_0.wr W33
  have f33_1 := f31_2.other W33 (Ne.symm ne_ob)
  have f33_5 := f31_6.other W33 (Or.inr (slot_ne (a0 := a0) (C := "com/example/ostracon/ostracon/LastValues") (Or.inl (hw _ (List.mem_of_getElem? (i := 12) rfl))) (Or.inl (hw _ (List.mem_of_getElem? (i := 19) rfl))) (by decide) (t := (.array .long)) (t' := .int) (by decide) (by decide)))
  have f33_6 := f31_7.other W33 (Or.inr (slot_ne (a0 := a0) (C := "com/example/ostracon/ostracon/LastValues") (Or.inl (hw _ (List.mem_of_getElem? (i := 21) rfl))) (Or.inl (hw _ (List.mem_of_getElem? (i := 19) rfl))) (by decide) (t := .int) (t' := .int) (by decide) (by decide)))
  have f33_7 := V31.other W33 (Ne.symm ne8_1)
  have K33 : Keep h0 h33 [o] := K31.wr W33 (Or.inl (List.mem_of_getElem? (i := 0) rfl))
  have Z33 : n0 ≤ h33.size := Nat.le_trans Z0 K33.1
  have N33 := Fr.snoc X33 N31 g_o
  refine own_Go.of (g' := (mkF m 118 #[.val (.ref o), .val (.long x), .second, .val (.int (4 : Int32)), .val (.ref b8), .val (.int (2 : Int32))] [])) (fun t k => st33 _ k) ?_
  refine og_ldc2_w (pc' := 121) X33 hx (hb hby d3_118) hown (mvT hZ (hw _ (List.mem_of_getElem? (i := 22) rfl))) rfl ?_
  obtain ⟨fs, hr, hrun, hended, hW, hsame⟩ := X33.leave (v := some (.long (-1 : Int64))) (fun h => by rw [Bd.returns] at h; cases h) (BodyLoose.notSynchronized Bd)
  refine ⟨_, _, retL X33 hx Bd.returns (hb hby d3_121) hr, hrun, hended, some (.long (-1 : Int64)), _, rfl, ?_, ⟨_, rfl⟩, hW, hsame.mono (by decide) (by decide)⟩
  show Qadd4_202 Z o x b k v0 v1 h0 n0 _ T33.heap _
  rw [e33]
  exact ⟨b8, k8, rfl, N33, K33, sz_b8, f33_0, f33_5, f33_6, w33, f33_7⟩

theorem pnnew403 : plainName "com/example/ostracon/ostracon/LastValues" = true := by first | (simp [plainName, overriddenIn]; done) | decide +kernel
theorem efnew403 (m : MethodId) (z0 : Addr) : entryFrame m #[(.ref z0)] 1 = mkF m 0 #[.val (.ref z0)] [] := by first | (simp [entryFrame, mkF, argsToLocals, Value.category]; done) | rfl
def Qnew403 (Z : State) (o : Addr) (b : Addr) (k : ClassId) (v0 : Int64) (v1 : Int64) (v2 : Int64) (v3 : Int64) (h0 : Heap) (n0 : Nat) (v : Option Value) (h : Heap) (L : List Loc) : Prop := v = some (.long v2) ∧ Fr n0 L ∧ h = h0
set_option maxRecDepth 65536 in
set_option maxHeartbeats 40000000 in
theorem rmnew403 (l : Launch) (Z : State) (a0 : Array Value) (hw : ∀ d ∈ tables_1, d.before a0 Z = true) (ws : List Jvm.Cond) (o : Addr) (b : Addr) (k : ClassId) (v0 : Int64) (v1 : Int64) (v2 : Int64) (v3 : Int64) (h0 : Heap) (n0 : Nat) (Z0 : n0 ≤ h0.size) (E_o : Exa Z h0 o "com/example/ostracon/ostracon/LastValues") (F1_o : Fld Z h0 o "com/example/ostracon/ostracon/LastValues" "values" "[J" (.ref b)) (F2_o : Fld Z h0 o "com/example/ostracon/ostracon/LastValues" "start" "I" (.int (0 : Int32))) (F3_o : Fld Z h0 o "com/example/ostracon/ostracon/LastValues" "count" "I" (.int (3 : Int32))) (V_b : Arv Z h0 b k .long (4 : Int32) [(.long v0), (.long v1), (.long v2), (.long v3)] (.long (0 : Int64))) :
    MetFree l (⟨"com/example/ostracon/ostracon/LastValues", "newest", "()J"⟩ : MethodName) (head1 (Jvm.Cond.code (⟨"com/example/ostracon/ostracon/LastValues", "newest", "()J"⟩ : MethodName) prog_19_method_5_code 1 (some .long) :: ws) ({ frames := 0, cells := 0, slots := 0, locals := 0 } : Room)) (fun a U => a = #[(.ref o)] ∧ Z.Warmed39 U.vm ∧ U.heap = h0) (fun _ _ _ _ _ => True) (fun _ U oc U' => ∃ v L, oc = .returned v ∧ Qnew403 Z o b k v0 v1 v2 v3 h0 n0 v U'.heap L ∧ FrameEnd U oc U' L ({ frames := 0, cells := 0, slots := 0, locals := 0 } : Room).cells ({ frames := 0, cells := 0, slots := 0, locals := 0 } : Room).slots) := by
  refine MetFree.of_bodySF (plainFor_of_name pnnew403) hisR ?_
  intro p e s m args below meth c s₁ Bd hml0 hP hK
  obtain ⟨rfl, hZ, hh⟩ := hP
  have hx := Bd.exec
  have hby := Bd.bytes
  have hml : c.maxLocals = 1 := hml0
  have hown : s.vm.findClass "com/example/ostracon/ostracon/LastValues" = some m.cls := findClass_of_methodNamed Bd.named
  have hnm := (name_of_methodNamed Bd.named Bd.method).1
  have X0 : Stand p l e ({ frames := 0, cells := 0, slots := 0, locals := 0 } : Room) s m #[(.ref o)] below meth c s₁ [] 0 0 := Stand.of_body Bd
  have e0 : s₁.heap = h0 := by rw [← hh, Bd.state]; rfl
  have N0 := Fr.nil n0
  show own_Go p e below (fun s₂ oc => ∃ v L, oc = .returned v ∧ Qnew403 Z o b k v0 v1 v2 v3 h0 n0 v s₂.heap L ∧ FrameEnd s oc s₂ L ({ frames := 0, cells := 0, slots := 0, locals := 0 } : Room).cells ({ frames := 0, cells := 0, slots := 0, locals := 0 } : Room).slots) s₁ (entryFrame m #[(.ref o)] 1)
  refine own_Go.of (g' := mkF m 0 #[.val (.ref o)] []) (fun t k => castTop (efnew403 m o) k) ?_
  refine og_aloadN (pc' := 1) X0 hx (hb hby d4_0) rfl rfl rfl ?_
  obtain ⟨T1, X1, e1, st1⟩ := getF X0 hx hZ hown (host := "") (Or.inl (hw _ (List.mem_of_getElem? (i := 11) rfl))) Via.refl e0 F1_o (g := (mkF m 1 #[.val (.ref o)] [(.ref o)])) rfl rfl (hb hby d4_1)
  refine own_Go.of (g' := (mkF m 4 #[.val (.ref o)] [(.ref b)])) (fun t k => st1 _ k) ?_
  refine og_aloadN (pc' := 5) X1 hx (hb hby d4_4) rfl rfl rfl ?_
  obtain ⟨T2, X2, e2, st2⟩ := getF X1 hx hZ hown (host := "") (Or.inl (hw _ (List.mem_of_getElem? (i := 20) rfl))) Via.refl e1 F2_o (g := (mkF m 5 #[.val (.ref o)] [(.ref o), (.ref b)])) rfl rfl (hb hby d4_5)
  refine own_Go.of (g' := (mkF m 8 #[.val (.ref o)] [(.int (0 : Int32)), (.ref b)])) (fun t k => st2 _ k) ?_
  refine og_aloadN (pc' := 9) X2 hx (hb hby d4_8) rfl rfl rfl ?_
  obtain ⟨T3, X3, e3, st3⟩ := getF X2 hx hZ hown (host := "") (Or.inl (hw _ (List.mem_of_getElem? (i := 18) rfl))) Via.refl e2 F3_o (g := (mkF m 9 #[.val (.ref o)] [(.ref o), (.int (0 : Int32)), (.ref b)])) rfl rfl (hb hby d4_9)
  refine own_Go.of (g' := (mkF m 12 #[.val (.ref o)] [(.int (3 : Int32)), (.int (0 : Int32)), (.ref b)])) (fun t k => st3 _ k) ?_
  refine og_iadd (pc' := 13) X3 hx (hb hby d4_12) rfl ?_
  rw [show ((0 : Int32) + (3 : Int32)) = (3 : Int32) from by decide]
  refine og_iconst (pc' := 14) (n := 1) X3 hx (hb hby d4_13) rfl rfl ?_
  refine og_isub (pc' := 15) X3 hx (hb hby d4_14) rfl ?_
  rw [show ((3 : Int32) - (1 : Int32)) = (2 : Int32) from by decide]
  refine og_aloadN (pc' := 16) X3 hx (hb hby d4_15) rfl rfl rfl ?_
  obtain ⟨T4, X4, e4, st4⟩ := getF X3 hx hZ hown (host := "") (Or.inl (hw _ (List.mem_of_getElem? (i := 11) rfl))) Via.refl e3 F1_o (g := (mkF m 16 #[.val (.ref o)] [(.ref o), (.int (2 : Int32)), (.ref b)])) rfl rfl (hb hby d4_16)
  refine own_Go.of (g' := (mkF m 19 #[.val (.ref o)] [(.ref b), (.int (2 : Int32)), (.ref b)])) (fun t k => st4 _ k) ?_
  obtain ⟨cl5, Ar5, q5, S5, M5, H5, G5⟩ := id V_b
  refine own_Go.of (g' := (mkF m 20 #[.val (.ref o)] [(.int (4 : Int32)), (.int (2 : Int32)), (.ref b)])) (fun t k => X4.arraylength hx (by rw [e4]; exact Ar5.1) (State.isArrayOf_alike hZ.alike Ar5.2.1) (g := (mkF m 19 #[.val (.ref o)] [(.ref b), (.int (2 : Int32)), (.ref b)])) rfl rfl (hb hby d4_19) _ (by rw [len_of S5 M5]; exact k)) ?_
  refine og_irem (pc' := 21) X4 hx (hb hby d4_20) (by decide) rfl ?_
  rw [show ((2 : Int32) % (4 : Int32)) = (2 : Int32) from by decide]
  obtain ⟨cl6, Ar6, q6, S6, M6, H6, G6⟩ := id V_b
  have hin6 : ¬ ((2 : Int32) < 0 ∨ cl6.slots.size ≤ ((2 : Int32)).toNatClampNeg) := inb_of S6 ⟨by decide, by decide⟩
  have hat6 : cl6.slots[((2 : Int32)).toNatClampNeg]? = some (.long v2) := Has.at H6 hin6 rfl
  refine own_Go.of (g' := (mkF m 22 #[.val (.ref o)] [(.long v2)])) (fun t k => X4.laload hx (j := (2 : Int32)) (v := (.long v2)) (by rw [e4]; exact Ar6.1) (State.isArrayOf_alike hZ.alike Ar6.2.1) Ar6.2.2 hin6 hat6 (g := (mkF m 21 #[.val (.ref o)] [(.int (2 : Int32)), (.ref b)])) rfl rfl (hb hby d4_21) _ k) ?_
  obtain ⟨fs, hr, hrun, hended, hW, hsame⟩ := X4.leave (v := some (.long v2)) (fun h => by rw [Bd.returns] at h; cases h) (BodyLoose.notSynchronized Bd)
  refine ⟨_, _, retL X4 hx Bd.returns (hb hby d4_22) hr, hrun, hended, some (.long v2), _, rfl, ?_, ⟨_, rfl⟩, hW, hsame.mono (by decide) (by decide)⟩
  show Qnew403 Z o b k v0 v1 v2 v3 h0 n0 _ T4.heap _
  rw [e4]
  exact ⟨rfl, N0, rfl⟩

theorem pnadd4_403 : plainName "com/example/ostracon/ostracon/LastValues" = true := by first | (simp [plainName, overriddenIn]; done) | decide +kernel
theorem efadd4_403 (m : MethodId) (z0 : Addr) (z1 : Int64) : entryFrame m #[(.ref z0), (.long z1), (.int (4 : Int32))] 6 = mkF m 0 #[.val (.ref z0), .val (.long z1), .second, .val (.int (4 : Int32)), .unset, .unset] [] := by first | (simp [entryFrame, mkF, argsToLocals, Value.category]; done) | rfl
def Qadd4_403 (Z : State) (o : Addr) (x : Int64) (b : Addr) (k : ClassId) (v0 : Int64) (v1 : Int64) (v2 : Int64) (v3 : Int64) (h0 : Heap) (n0 : Nat) (v : Option Value) (h : Heap) (L : List Loc) : Prop := v = some (.long (-1 : Int64)) ∧ Fr n0 L ∧ Keep h0 h [o, b] ∧ Exa Z h o "com/example/ostracon/ostracon/LastValues" ∧ Fld Z h o "com/example/ostracon/ostracon/LastValues" "values" "[J" (.ref b) ∧ Fld Z h o "com/example/ostracon/ostracon/LastValues" "start" "I" (.int (0 : Int32)) ∧ Fld Z h o "com/example/ostracon/ostracon/LastValues" "count" "I" (.int (4 : Int32)) ∧ Arv Z h b k .long (4 : Int32) [(.long v0), (.long v1), (.long v2), (.long x)] (.long (0 : Int64))
set_option maxRecDepth 65536 in
set_option maxHeartbeats 40000000 in
theorem rmadd4_403 (l : Launch) (Z : State) (a0 : Array Value) (hw : ∀ d ∈ tables_1, d.before a0 Z = true) (ws : List Jvm.Cond) (o : Addr) (x : Int64) (b : Addr) (k : ClassId) (v0 : Int64) (v1 : Int64) (v2 : Int64) (v3 : Int64) (h0 : Heap) (n0 : Nat) (Z0 : n0 ≤ h0.size) (E_o : Exa Z h0 o "com/example/ostracon/ostracon/LastValues") (F1_o : Fld Z h0 o "com/example/ostracon/ostracon/LastValues" "values" "[J" (.ref b)) (F2_o : Fld Z h0 o "com/example/ostracon/ostracon/LastValues" "start" "I" (.int (0 : Int32))) (F3_o : Fld Z h0 o "com/example/ostracon/ostracon/LastValues" "count" "I" (.int (3 : Int32))) (V_b : Arv Z h0 b k .long (4 : Int32) [(.long v0), (.long v1), (.long v2), (.long v3)] (.long (0 : Int64))) (g_o : n0 ≤ o) (g_b : n0 ≤ b) (ne_ob : o ≠ b) :
    MetFree l (⟨"com/example/ostracon/ostracon/LastValues", "add", "(JI)J"⟩ : MethodName) (head1 (Jvm.Cond.code (⟨"com/example/ostracon/ostracon/LastValues", "add", "(JI)J"⟩ : MethodName) prog_19_method_2_code 6 (some .long) :: ws) ({ frames := 0, cells := 0, slots := 0, locals := 0 } : Room)) (fun a U => a = #[(.ref o), (.long x), (.int (4 : Int32))] ∧ Z.Warmed39 U.vm ∧ U.heap = h0) (fun _ _ _ _ _ => True) (fun _ U oc U' => ∃ v L, oc = .returned v ∧ Qadd4_403 Z o x b k v0 v1 v2 v3 h0 n0 v U'.heap L ∧ FrameEnd U oc U' L ({ frames := 0, cells := 0, slots := 0, locals := 0 } : Room).cells ({ frames := 0, cells := 0, slots := 0, locals := 0 } : Room).slots) := by
  refine MetFree.of_bodySF (plainFor_of_name pnadd4_403) hisR ?_
  intro p e s m args below meth c s₁ Bd hml0 hP hK
  obtain ⟨rfl, hZ, hh⟩ := hP
  have hx := Bd.exec
  have hby := Bd.bytes
  have hml : c.maxLocals = 6 := hml0
  have hown : s.vm.findClass "com/example/ostracon/ostracon/LastValues" = some m.cls := findClass_of_methodNamed Bd.named
  have hnm := (name_of_methodNamed Bd.named Bd.method).1
  have X0 : Stand p l e ({ frames := 0, cells := 0, slots := 0, locals := 0 } : Room) s m #[(.ref o), (.long x), (.int (4 : Int32))] below meth c s₁ [] 0 0 := Stand.of_body Bd
  have e0 : s₁.heap = h0 := by rw [← hh, Bd.state]; rfl
  have N0 := Fr.nil n0
  show own_Go p e below (fun s₂ oc => ∃ v L, oc = .returned v ∧ Qadd4_403 Z o x b k v0 v1 v2 v3 h0 n0 v s₂.heap L ∧ FrameEnd s oc s₂ L ({ frames := 0, cells := 0, slots := 0, locals := 0 } : Room).cells ({ frames := 0, cells := 0, slots := 0, locals := 0 } : Room).slots) s₁ (entryFrame m #[(.ref o), (.long x), (.int (4 : Int32))] 6)
  refine own_Go.of (g' := mkF m 0 #[.val (.ref o), .val (.long x), .second, .val (.int (4 : Int32)), .unset, .unset] []) (fun t k => castTop (efadd4_403 m o x) k) ?_
  refine og_aloadN (pc' := 1) X0 hx (hb hby d3_0) rfl rfl rfl ?_
  obtain ⟨T1, X1, e1, st1⟩ := getF X0 hx hZ hown (host := "") (Or.inl (hw _ (List.mem_of_getElem? (i := 18) rfl))) Via.refl e0 F3_o (g := (mkF m 1 #[.val (.ref o), .val (.long x), .second, .val (.int (4 : Int32)), .unset, .unset] [(.ref o)])) rfl rfl (hb hby d3_1)
  refine own_Go.of (g' := (mkF m 4 #[.val (.ref o), .val (.long x), .second, .val (.int (4 : Int32)), .unset, .unset] [(.int (3 : Int32))])) (fun t k => st1 _ k) ?_
  refine og_iloadN (pc' := 5) X1 hx (hb hby d3_4) rfl rfl ?_
  refine og_icmpNo (pc' := 8) X1 hx (hb hby d3_5) (tlt (by decide)).2.1 rfl ?_
  refine og_aloadN (pc' := 9) X1 hx (hb hby d3_8) rfl rfl rfl ?_
  obtain ⟨T2, X2, e2, st2⟩ := getF X1 hx hZ hown (host := "") (Or.inl (hw _ (List.mem_of_getElem? (i := 18) rfl))) Via.refl e1 F3_o (g := (mkF m 9 #[.val (.ref o), .val (.long x), .second, .val (.int (4 : Int32)), .unset, .unset] [(.ref o)])) rfl rfl (hb hby d3_9)
  refine own_Go.of (g' := (mkF m 12 #[.val (.ref o), .val (.long x), .second, .val (.int (4 : Int32)), .unset, .unset] [(.int (3 : Int32))])) (fun t k => st2 _ k) ?_
  refine og_aloadN (pc' := 13) X2 hx (hb hby d3_12) rfl rfl rfl ?_
  obtain ⟨T3, X3, e3, st3⟩ := getF X2 hx hZ hown (host := "") (Or.inl (hw _ (List.mem_of_getElem? (i := 11) rfl))) Via.refl e2 F1_o (g := (mkF m 13 #[.val (.ref o), .val (.long x), .second, .val (.int (4 : Int32)), .unset, .unset] [(.ref o), (.int (3 : Int32))])) rfl rfl (hb hby d3_13)
  refine own_Go.of (g' := (mkF m 16 #[.val (.ref o), .val (.long x), .second, .val (.int (4 : Int32)), .unset, .unset] [(.ref b), (.int (3 : Int32))])) (fun t k => st3 _ k) ?_
  obtain ⟨cl4, Ar4, q4, S4, M4, H4, G4⟩ := id V_b
  refine own_Go.of (g' := (mkF m 17 #[.val (.ref o), .val (.long x), .second, .val (.int (4 : Int32)), .unset, .unset] [(.int (4 : Int32)), (.int (3 : Int32))])) (fun t k => X3.arraylength hx (by rw [e3]; exact Ar4.1) (State.isArrayOf_alike hZ.alike Ar4.2.1) (g := (mkF m 16 #[.val (.ref o), .val (.long x), .second, .val (.int (4 : Int32)), .unset, .unset] [(.ref b), (.int (3 : Int32))])) rfl rfl (hb hby d3_16) _ (by rw [len_of S4 M4]; exact k)) ?_
  refine og_icmpYes (pc' := 87) X3 hx (hb hby d3_17) (feq (by decide)).2 (by decide) (by decide) ?_
  refine og_aloadN (pc' := 88) X3 hx (hb hby d3_87) rfl rfl rfl ?_
  obtain ⟨T5, X5, e5, st5⟩ := getF X3 hx hZ hown (host := "") (Or.inl (hw _ (List.mem_of_getElem? (i := 11) rfl))) Via.refl e3 F1_o (g := (mkF m 88 #[.val (.ref o), .val (.long x), .second, .val (.int (4 : Int32)), .unset, .unset] [(.ref o)])) rfl rfl (hb hby d3_88)
  refine own_Go.of (g' := (mkF m 91 #[.val (.ref o), .val (.long x), .second, .val (.int (4 : Int32)), .unset, .unset] [(.ref b)])) (fun t k => st5 _ k) ?_
  refine og_aloadN (pc' := 92) X5 hx (hb hby d3_91) rfl rfl rfl ?_
  obtain ⟨T6, X6, e6, st6⟩ := getF X5 hx hZ hown (host := "") (Or.inl (hw _ (List.mem_of_getElem? (i := 20) rfl))) Via.refl e5 F2_o (g := (mkF m 92 #[.val (.ref o), .val (.long x), .second, .val (.int (4 : Int32)), .unset, .unset] [(.ref o), (.ref b)])) rfl rfl (hb hby d3_92)
  refine own_Go.of (g' := (mkF m 95 #[.val (.ref o), .val (.long x), .second, .val (.int (4 : Int32)), .unset, .unset] [(.int (0 : Int32)), (.ref b)])) (fun t k => st6 _ k) ?_
  refine og_aloadN (pc' := 96) X6 hx (hb hby d3_95) rfl rfl rfl ?_
  obtain ⟨T7, X7, e7, st7⟩ := getF X6 hx hZ hown (host := "") (Or.inl (hw _ (List.mem_of_getElem? (i := 18) rfl))) Via.refl e6 F3_o (g := (mkF m 96 #[.val (.ref o), .val (.long x), .second, .val (.int (4 : Int32)), .unset, .unset] [(.ref o), (.int (0 : Int32)), (.ref b)])) rfl rfl (hb hby d3_96)
  refine own_Go.of (g' := (mkF m 99 #[.val (.ref o), .val (.long x), .second, .val (.int (4 : Int32)), .unset, .unset] [(.int (3 : Int32)), (.int (0 : Int32)), (.ref b)])) (fun t k => st7 _ k) ?_
  refine og_iadd (pc' := 100) X7 hx (hb hby d3_99) rfl ?_
  rw [show ((0 : Int32) + (3 : Int32)) = (3 : Int32) from by decide]
  refine og_aloadN (pc' := 101) X7 hx (hb hby d3_100) rfl rfl rfl ?_
  obtain ⟨T8, X8, e8, st8⟩ := getF X7 hx hZ hown (host := "") (Or.inl (hw _ (List.mem_of_getElem? (i := 11) rfl))) Via.refl e7 F1_o (g := (mkF m 101 #[.val (.ref o), .val (.long x), .second, .val (.int (4 : Int32)), .unset, .unset] [(.ref o), (.int (3 : Int32)), (.ref b)])) rfl rfl (hb hby d3_101)
  refine own_Go.of (g' := (mkF m 104 #[.val (.ref o), .val (.long x), .second, .val (.int (4 : Int32)), .unset, .unset] [(.ref b), (.int (3 : Int32)), (.ref b)])) (fun t k => st8 _ k) ?_
  obtain ⟨cl9, Ar9, q9, S9, M9, H9, G9⟩ := id V_b
  refine own_Go.of (g' := (mkF m 105 #[.val (.ref o), .val (.long x), .second, .val (.int (4 : Int32)), .unset, .unset] [(.int (4 : Int32)), (.int (3 : Int32)), (.ref b)])) (fun t k => X8.arraylength hx (by rw [e8]; exact Ar9.1) (State.isArrayOf_alike hZ.alike Ar9.2.1) (g := (mkF m 104 #[.val (.ref o), .val (.long x), .second, .val (.int (4 : Int32)), .unset, .unset] [(.ref b), (.int (3 : Int32)), (.ref b)])) rfl rfl (hb hby d3_104) _ (by rw [len_of S9 M9]; exact k)) ?_
  refine og_irem (pc' := 106) X8 hx (hb hby d3_105) (by decide) rfl ?_
  rw [show ((3 : Int32) % (4 : Int32)) = (3 : Int32) from by decide]
  refine og_lloadN (pc' := 107) X8 hx (hb hby d3_106) rfl rfl ?_
  obtain ⟨cl10, Ar10, q10, S10, M10, H10, G10⟩ := id V_b
  have hin10 : ¬ ((3 : Int32) < 0 ∨ cl10.slots.size ≤ ((3 : Int32)).toNatClampNeg) := inb_of S10 ⟨by decide, by decide⟩
  obtain ⟨T10, h10, X10, e10, W10, st10⟩ := stJ X8 hx hZ e8 Ar10 (j := (3 : Int32)) hin10 (g := (mkF m 107 #[.val (.ref o), .val (.long x), .second, .val (.int (4 : Int32)), .unset, .unset] [(.long x), (.int (3 : Int32)), (.ref b)])) rfl rfl (hb hby d3_107)
  have V10 : Arv Z h10 b k .long (4 : Int32) [(.long v0), (.long v1), (.long v2), (.long x)] (.long (0 : Int64)) := Arv.set Ar10 q10 S10 M10 H10 G10 rfl W10 3 rfl (Nat.le_of_ble_eq_true rfl)
  have f10_0 := E_o.wr W10
  have f10_1 := F1_o.other W10 (Or.inl ne_ob)
  have f10_2 := F2_o.other W10 (Or.inl ne_ob)
  have f10_3 := F3_o.other W10 (Or.inl ne_ob)
  have K10 : Keep h0 h10 [o, b] := (Keep.refl h0 [o, b]).wr W10 (Or.inl (List.mem_of_getElem? (i := 1) rfl))
  have Z10 : n0 ≤ h10.size := Nat.le_trans Z0 K10.1
  have N10 := Fr.snoc X10 N0 g_b
  refine own_Go.of (g' := (mkF m 108 #[.val (.ref o), .val (.long x), .second, .val (.int (4 : Int32)), .unset, .unset] [])) (fun t k => st10 _ k) ?_
  refine og_aloadN (pc' := 109) X10 hx (hb hby d3_108) rfl rfl rfl ?_
  refine og_dup (pc' := 110) X10 hx (hb hby d3_109) rfl rfl ?_
  obtain ⟨T11, X11, e11, st11⟩ := getF X10 hx hZ hown (host := "") (Or.inl (hw _ (List.mem_of_getElem? (i := 18) rfl))) Via.refl e10 f10_3 (g := (mkF m 110 #[.val (.ref o), .val (.long x), .second, .val (.int (4 : Int32)), .unset, .unset] [(.ref o), (.ref o)])) rfl rfl (hb hby d3_110)
  refine own_Go.of (g' := (mkF m 113 #[.val (.ref o), .val (.long x), .second, .val (.int (4 : Int32)), .unset, .unset] [(.int (3 : Int32)), (.ref o)])) (fun t k => st11 _ k) ?_
  refine og_iconst (pc' := 114) (n := 1) X11 hx (hb hby d3_113) rfl rfl ?_
  refine og_iadd (pc' := 115) X11 hx (hb hby d3_114) rfl ?_
  rw [show ((3 : Int32) + (1 : Int32)) = (4 : Int32) from by decide]
  obtain ⟨T12, h12, X12, e12, W12, st12⟩ := putF X11 hx hZ hown (host := "") (Or.inl (hw _ (List.mem_of_getElem? (i := 18) rfl))) Via.refl e11 f10_3 f10_0 (Or.inl (hw _ (List.mem_of_getElem? (i := 19) rfl))) (hw _ (List.mem_of_getElem? (i := 2) rfl)) (ty := .int) (by decide) rfl rfl (g := (mkF m 115 #[.val (.ref o), .val (.long x), .second, .val (.int (4 : Int32)), .unset, .unset] [(.int (4 : Int32)), (.ref o)])) rfl rfl (hb hby d3_115)
  have w12 : Fld Z h12 o "com/example/ostracon/ostracon/LastValues" "count" "I" (.int (4 : Int32)) := f10_3.same W12
  have f12_0 := f10_0.wr W12
  have f12_1 := f10_1.other W12 (Or.inr (slot_ne (a0 := a0) (C := "com/example/ostracon/ostracon/LastValues") (Or.inl (hw _ (List.mem_of_getElem? (i := 12) rfl))) (Or.inl (hw _ (List.mem_of_getElem? (i := 19) rfl))) (by decide) (t := (.array .long)) (t' := .int) (by decide) (by decide)))
  have f12_2 := f10_2.other W12 (Or.inr (slot_ne (a0 := a0) (C := "com/example/ostracon/ostracon/LastValues") (Or.inl (hw _ (List.mem_of_getElem? (i := 21) rfl))) (Or.inl (hw _ (List.mem_of_getElem? (i := 19) rfl))) (by decide) (t := .int) (t' := .int) (by decide) (by decide)))
  have f12_6 := V10.other W12 (Ne.symm ne_ob)
  have K12 : Keep h0 h12 [o, b] := K10.wr W12 (Or.inl (List.mem_of_getElem? (i := 0) rfl))
  have Z12 : n0 ≤ h12.size := Nat.le_trans Z0 K12.1
  have N12 := Fr.snoc X12 N10 g_o
  refine own_Go.of (g' := (mkF m 118 #[.val (.ref o), .val (.long x), .second, .val (.int (4 : Int32)), .unset, .unset] [])) (fun t k => st12 _ k) ?_
  refine og_ldc2_w (pc' := 121) X12 hx (hb hby d3_118) hown (mvT hZ (hw _ (List.mem_of_getElem? (i := 22) rfl))) rfl ?_
  obtain ⟨fs, hr, hrun, hended, hW, hsame⟩ := X12.leave (v := some (.long (-1 : Int64))) (fun h => by rw [Bd.returns] at h; cases h) (BodyLoose.notSynchronized Bd)
  refine ⟨_, _, retL X12 hx Bd.returns (hb hby d3_121) hr, hrun, hended, some (.long (-1 : Int64)), _, rfl, ?_, ⟨_, rfl⟩, hW, hsame.mono (by decide) (by decide)⟩
  show Qadd4_403 Z o x b k v0 v1 v2 v3 h0 n0 _ T12.heap _
  rw [e12]
  exact ⟨rfl, N12, K12, f12_0, f12_1, f12_2, w12, f12_6⟩

theorem pnnew404 : plainName "com/example/ostracon/ostracon/LastValues" = true := by first | (simp [plainName, overriddenIn]; done) | decide +kernel
theorem efnew404 (m : MethodId) (z0 : Addr) : entryFrame m #[(.ref z0)] 1 = mkF m 0 #[.val (.ref z0)] [] := by first | (simp [entryFrame, mkF, argsToLocals, Value.category]; done) | rfl
def Qnew404 (Z : State) (o : Addr) (b : Addr) (k : ClassId) (v0 : Int64) (v1 : Int64) (v2 : Int64) (v3 : Int64) (h0 : Heap) (n0 : Nat) (v : Option Value) (h : Heap) (L : List Loc) : Prop := v = some (.long v3) ∧ Fr n0 L ∧ h = h0
set_option maxRecDepth 65536 in
set_option maxHeartbeats 40000000 in
theorem rmnew404 (l : Launch) (Z : State) (a0 : Array Value) (hw : ∀ d ∈ tables_1, d.before a0 Z = true) (ws : List Jvm.Cond) (o : Addr) (b : Addr) (k : ClassId) (v0 : Int64) (v1 : Int64) (v2 : Int64) (v3 : Int64) (h0 : Heap) (n0 : Nat) (Z0 : n0 ≤ h0.size) (E_o : Exa Z h0 o "com/example/ostracon/ostracon/LastValues") (F1_o : Fld Z h0 o "com/example/ostracon/ostracon/LastValues" "values" "[J" (.ref b)) (F2_o : Fld Z h0 o "com/example/ostracon/ostracon/LastValues" "start" "I" (.int (0 : Int32))) (F3_o : Fld Z h0 o "com/example/ostracon/ostracon/LastValues" "count" "I" (.int (4 : Int32))) (V_b : Arv Z h0 b k .long (4 : Int32) [(.long v0), (.long v1), (.long v2), (.long v3)] (.long (0 : Int64))) :
    MetFree l (⟨"com/example/ostracon/ostracon/LastValues", "newest", "()J"⟩ : MethodName) (head1 (Jvm.Cond.code (⟨"com/example/ostracon/ostracon/LastValues", "newest", "()J"⟩ : MethodName) prog_19_method_5_code 1 (some .long) :: ws) ({ frames := 0, cells := 0, slots := 0, locals := 0 } : Room)) (fun a U => a = #[(.ref o)] ∧ Z.Warmed39 U.vm ∧ U.heap = h0) (fun _ _ _ _ _ => True) (fun _ U oc U' => ∃ v L, oc = .returned v ∧ Qnew404 Z o b k v0 v1 v2 v3 h0 n0 v U'.heap L ∧ FrameEnd U oc U' L ({ frames := 0, cells := 0, slots := 0, locals := 0 } : Room).cells ({ frames := 0, cells := 0, slots := 0, locals := 0 } : Room).slots) := by
  refine MetFree.of_bodySF (plainFor_of_name pnnew404) hisR ?_
  intro p e s m args below meth c s₁ Bd hml0 hP hK
  obtain ⟨rfl, hZ, hh⟩ := hP
  have hx := Bd.exec
  have hby := Bd.bytes
  have hml : c.maxLocals = 1 := hml0
  have hown : s.vm.findClass "com/example/ostracon/ostracon/LastValues" = some m.cls := findClass_of_methodNamed Bd.named
  have hnm := (name_of_methodNamed Bd.named Bd.method).1
  have X0 : Stand p l e ({ frames := 0, cells := 0, slots := 0, locals := 0 } : Room) s m #[(.ref o)] below meth c s₁ [] 0 0 := Stand.of_body Bd
  have e0 : s₁.heap = h0 := by rw [← hh, Bd.state]; rfl
  have N0 := Fr.nil n0
  show own_Go p e below (fun s₂ oc => ∃ v L, oc = .returned v ∧ Qnew404 Z o b k v0 v1 v2 v3 h0 n0 v s₂.heap L ∧ FrameEnd s oc s₂ L ({ frames := 0, cells := 0, slots := 0, locals := 0 } : Room).cells ({ frames := 0, cells := 0, slots := 0, locals := 0 } : Room).slots) s₁ (entryFrame m #[(.ref o)] 1)
  refine own_Go.of (g' := mkF m 0 #[.val (.ref o)] []) (fun t k => castTop (efnew404 m o) k) ?_
  refine og_aloadN (pc' := 1) X0 hx (hb hby d4_0) rfl rfl rfl ?_
  obtain ⟨T1, X1, e1, st1⟩ := getF X0 hx hZ hown (host := "") (Or.inl (hw _ (List.mem_of_getElem? (i := 11) rfl))) Via.refl e0 F1_o (g := (mkF m 1 #[.val (.ref o)] [(.ref o)])) rfl rfl (hb hby d4_1)
  refine own_Go.of (g' := (mkF m 4 #[.val (.ref o)] [(.ref b)])) (fun t k => st1 _ k) ?_
  refine og_aloadN (pc' := 5) X1 hx (hb hby d4_4) rfl rfl rfl ?_
  obtain ⟨T2, X2, e2, st2⟩ := getF X1 hx hZ hown (host := "") (Or.inl (hw _ (List.mem_of_getElem? (i := 20) rfl))) Via.refl e1 F2_o (g := (mkF m 5 #[.val (.ref o)] [(.ref o), (.ref b)])) rfl rfl (hb hby d4_5)
  refine own_Go.of (g' := (mkF m 8 #[.val (.ref o)] [(.int (0 : Int32)), (.ref b)])) (fun t k => st2 _ k) ?_
  refine og_aloadN (pc' := 9) X2 hx (hb hby d4_8) rfl rfl rfl ?_
  obtain ⟨T3, X3, e3, st3⟩ := getF X2 hx hZ hown (host := "") (Or.inl (hw _ (List.mem_of_getElem? (i := 18) rfl))) Via.refl e2 F3_o (g := (mkF m 9 #[.val (.ref o)] [(.ref o), (.int (0 : Int32)), (.ref b)])) rfl rfl (hb hby d4_9)
  refine own_Go.of (g' := (mkF m 12 #[.val (.ref o)] [(.int (4 : Int32)), (.int (0 : Int32)), (.ref b)])) (fun t k => st3 _ k) ?_
  refine og_iadd (pc' := 13) X3 hx (hb hby d4_12) rfl ?_
  rw [show ((0 : Int32) + (4 : Int32)) = (4 : Int32) from by decide]
  refine og_iconst (pc' := 14) (n := 1) X3 hx (hb hby d4_13) rfl rfl ?_
  refine og_isub (pc' := 15) X3 hx (hb hby d4_14) rfl ?_
  rw [show ((4 : Int32) - (1 : Int32)) = (3 : Int32) from by decide]
  refine og_aloadN (pc' := 16) X3 hx (hb hby d4_15) rfl rfl rfl ?_
  obtain ⟨T4, X4, e4, st4⟩ := getF X3 hx hZ hown (host := "") (Or.inl (hw _ (List.mem_of_getElem? (i := 11) rfl))) Via.refl e3 F1_o (g := (mkF m 16 #[.val (.ref o)] [(.ref o), (.int (3 : Int32)), (.ref b)])) rfl rfl (hb hby d4_16)
  refine own_Go.of (g' := (mkF m 19 #[.val (.ref o)] [(.ref b), (.int (3 : Int32)), (.ref b)])) (fun t k => st4 _ k) ?_
  obtain ⟨cl5, Ar5, q5, S5, M5, H5, G5⟩ := id V_b
  refine own_Go.of (g' := (mkF m 20 #[.val (.ref o)] [(.int (4 : Int32)), (.int (3 : Int32)), (.ref b)])) (fun t k => X4.arraylength hx (by rw [e4]; exact Ar5.1) (State.isArrayOf_alike hZ.alike Ar5.2.1) (g := (mkF m 19 #[.val (.ref o)] [(.ref b), (.int (3 : Int32)), (.ref b)])) rfl rfl (hb hby d4_19) _ (by rw [len_of S5 M5]; exact k)) ?_
  refine og_irem (pc' := 21) X4 hx (hb hby d4_20) (by decide) rfl ?_
  rw [show ((3 : Int32) % (4 : Int32)) = (3 : Int32) from by decide]
  obtain ⟨cl6, Ar6, q6, S6, M6, H6, G6⟩ := id V_b
  have hin6 : ¬ ((3 : Int32) < 0 ∨ cl6.slots.size ≤ ((3 : Int32)).toNatClampNeg) := inb_of S6 ⟨by decide, by decide⟩
  have hat6 : cl6.slots[((3 : Int32)).toNatClampNeg]? = some (.long v3) := Has.at H6 hin6 rfl
  refine own_Go.of (g' := (mkF m 22 #[.val (.ref o)] [(.long v3)])) (fun t k => X4.laload hx (j := (3 : Int32)) (v := (.long v3)) (by rw [e4]; exact Ar6.1) (State.isArrayOf_alike hZ.alike Ar6.2.1) Ar6.2.2 hin6 hat6 (g := (mkF m 21 #[.val (.ref o)] [(.int (3 : Int32)), (.ref b)])) rfl rfl (hb hby d4_21) _ k) ?_
  obtain ⟨fs, hr, hrun, hended, hW, hsame⟩ := X4.leave (v := some (.long v3)) (fun h => by rw [Bd.returns] at h; cases h) (BodyLoose.notSynchronized Bd)
  refine ⟨_, _, retL X4 hx Bd.returns (hb hby d4_22) hr, hrun, hended, some (.long v3), _, rfl, ?_, ⟨_, rfl⟩, hW, hsame.mono (by decide) (by decide)⟩
  show Qnew404 Z o b k v0 v1 v2 v3 h0 n0 _ T4.heap _
  rw [e4]
  exact ⟨rfl, N0, rfl⟩

theorem pnadd4_404 : plainName "com/example/ostracon/ostracon/LastValues" = true := by first | (simp [plainName, overriddenIn]; done) | decide +kernel
theorem efadd4_404 (m : MethodId) (z0 : Addr) (z1 : Int64) : entryFrame m #[(.ref z0), (.long z1), (.int (4 : Int32))] 6 = mkF m 0 #[.val (.ref z0), .val (.long z1), .second, .val (.int (4 : Int32)), .unset, .unset] [] := by first | (simp [entryFrame, mkF, argsToLocals, Value.category]; done) | rfl
def Qadd4_404 (Z : State) (o : Addr) (x : Int64) (b : Addr) (k : ClassId) (v0 : Int64) (v1 : Int64) (v2 : Int64) (v3 : Int64) (h0 : Heap) (n0 : Nat) (v : Option Value) (h : Heap) (L : List Loc) : Prop := v = some (.long v0) ∧ Fr n0 L ∧ Keep h0 h [o, b] ∧ Exa Z h o "com/example/ostracon/ostracon/LastValues" ∧ Fld Z h o "com/example/ostracon/ostracon/LastValues" "values" "[J" (.ref b) ∧ Fld Z h o "com/example/ostracon/ostracon/LastValues" "start" "I" (.int (1 : Int32)) ∧ Fld Z h o "com/example/ostracon/ostracon/LastValues" "count" "I" (.int (4 : Int32)) ∧ Arv Z h b k .long (4 : Int32) [(.long x), (.long v1), (.long v2), (.long v3)] (.long (0 : Int64))
set_option maxRecDepth 65536 in
set_option maxHeartbeats 40000000 in
theorem rmadd4_404 (l : Launch) (Z : State) (a0 : Array Value) (hw : ∀ d ∈ tables_1, d.before a0 Z = true) (ws : List Jvm.Cond) (o : Addr) (x : Int64) (b : Addr) (k : ClassId) (v0 : Int64) (v1 : Int64) (v2 : Int64) (v3 : Int64) (h0 : Heap) (n0 : Nat) (Z0 : n0 ≤ h0.size) (E_o : Exa Z h0 o "com/example/ostracon/ostracon/LastValues") (F1_o : Fld Z h0 o "com/example/ostracon/ostracon/LastValues" "values" "[J" (.ref b)) (F2_o : Fld Z h0 o "com/example/ostracon/ostracon/LastValues" "start" "I" (.int (0 : Int32))) (F3_o : Fld Z h0 o "com/example/ostracon/ostracon/LastValues" "count" "I" (.int (4 : Int32))) (V_b : Arv Z h0 b k .long (4 : Int32) [(.long v0), (.long v1), (.long v2), (.long v3)] (.long (0 : Int64))) (g_o : n0 ≤ o) (g_b : n0 ≤ b) (ne_ob : o ≠ b) :
    MetFree l (⟨"com/example/ostracon/ostracon/LastValues", "add", "(JI)J"⟩ : MethodName) (head1 (Jvm.Cond.code (⟨"com/example/ostracon/ostracon/LastValues", "add", "(JI)J"⟩ : MethodName) prog_19_method_2_code 6 (some .long) :: ws) ({ frames := 0, cells := 0, slots := 0, locals := 0 } : Room)) (fun a U => a = #[(.ref o), (.long x), (.int (4 : Int32))] ∧ Z.Warmed39 U.vm ∧ U.heap = h0) (fun _ _ _ _ _ => True) (fun _ U oc U' => ∃ v L, oc = .returned v ∧ Qadd4_404 Z o x b k v0 v1 v2 v3 h0 n0 v U'.heap L ∧ FrameEnd U oc U' L ({ frames := 0, cells := 0, slots := 0, locals := 0 } : Room).cells ({ frames := 0, cells := 0, slots := 0, locals := 0 } : Room).slots) := by
  refine MetFree.of_bodySF (plainFor_of_name pnadd4_404) hisR ?_
  intro p e s m args below meth c s₁ Bd hml0 hP hK
  obtain ⟨rfl, hZ, hh⟩ := hP
  have hx := Bd.exec
  have hby := Bd.bytes
  have hml : c.maxLocals = 6 := hml0
  have hown : s.vm.findClass "com/example/ostracon/ostracon/LastValues" = some m.cls := findClass_of_methodNamed Bd.named
  have hnm := (name_of_methodNamed Bd.named Bd.method).1
  have X0 : Stand p l e ({ frames := 0, cells := 0, slots := 0, locals := 0 } : Room) s m #[(.ref o), (.long x), (.int (4 : Int32))] below meth c s₁ [] 0 0 := Stand.of_body Bd
  have e0 : s₁.heap = h0 := by rw [← hh, Bd.state]; rfl
  have N0 := Fr.nil n0
  show own_Go p e below (fun s₂ oc => ∃ v L, oc = .returned v ∧ Qadd4_404 Z o x b k v0 v1 v2 v3 h0 n0 v s₂.heap L ∧ FrameEnd s oc s₂ L ({ frames := 0, cells := 0, slots := 0, locals := 0 } : Room).cells ({ frames := 0, cells := 0, slots := 0, locals := 0 } : Room).slots) s₁ (entryFrame m #[(.ref o), (.long x), (.int (4 : Int32))] 6)
  refine own_Go.of (g' := mkF m 0 #[.val (.ref o), .val (.long x), .second, .val (.int (4 : Int32)), .unset, .unset] []) (fun t k => castTop (efadd4_404 m o x) k) ?_
  refine og_aloadN (pc' := 1) X0 hx (hb hby d3_0) rfl rfl rfl ?_
  obtain ⟨T1, X1, e1, st1⟩ := getF X0 hx hZ hown (host := "") (Or.inl (hw _ (List.mem_of_getElem? (i := 18) rfl))) Via.refl e0 F3_o (g := (mkF m 1 #[.val (.ref o), .val (.long x), .second, .val (.int (4 : Int32)), .unset, .unset] [(.ref o)])) rfl rfl (hb hby d3_1)
  refine own_Go.of (g' := (mkF m 4 #[.val (.ref o), .val (.long x), .second, .val (.int (4 : Int32)), .unset, .unset] [(.int (4 : Int32))])) (fun t k => st1 _ k) ?_
  refine og_iloadN (pc' := 5) X1 hx (hb hby d3_4) rfl rfl ?_
  refine og_icmpYes (pc' := 122) X1 hx (hb hby d3_5) (flt (by decide)).2.1 (by decide) (by decide) ?_
  refine og_aloadN (pc' := 123) X1 hx (hb hby d3_122) rfl rfl rfl ?_
  obtain ⟨T2, X2, e2, st2⟩ := getF X1 hx hZ hown (host := "") (Or.inl (hw _ (List.mem_of_getElem? (i := 11) rfl))) Via.refl e1 F1_o (g := (mkF m 123 #[.val (.ref o), .val (.long x), .second, .val (.int (4 : Int32)), .unset, .unset] [(.ref o)])) rfl rfl (hb hby d3_123)
  refine own_Go.of (g' := (mkF m 126 #[.val (.ref o), .val (.long x), .second, .val (.int (4 : Int32)), .unset, .unset] [(.ref b)])) (fun t k => st2 _ k) ?_
  refine og_aloadN (pc' := 127) X2 hx (hb hby d3_126) rfl rfl rfl ?_
  obtain ⟨T3, X3, e3, st3⟩ := getF X2 hx hZ hown (host := "") (Or.inl (hw _ (List.mem_of_getElem? (i := 20) rfl))) Via.refl e2 F2_o (g := (mkF m 127 #[.val (.ref o), .val (.long x), .second, .val (.int (4 : Int32)), .unset, .unset] [(.ref o), (.ref b)])) rfl rfl (hb hby d3_127)
  refine own_Go.of (g' := (mkF m 130 #[.val (.ref o), .val (.long x), .second, .val (.int (4 : Int32)), .unset, .unset] [(.int (0 : Int32)), (.ref b)])) (fun t k => st3 _ k) ?_
  obtain ⟨cl4, Ar4, q4, S4, M4, H4, G4⟩ := id V_b
  have hin4 : ¬ ((0 : Int32) < 0 ∨ cl4.slots.size ≤ ((0 : Int32)).toNatClampNeg) := inb_of S4 ⟨by decide, by decide⟩
  have hat4 : cl4.slots[((0 : Int32)).toNatClampNeg]? = some (.long v0) := Has.at H4 hin4 rfl
  refine own_Go.of (g' := (mkF m 131 #[.val (.ref o), .val (.long x), .second, .val (.int (4 : Int32)), .unset, .unset] [(.long v0)])) (fun t k => X3.laload hx (j := (0 : Int32)) (v := (.long v0)) (by rw [e3]; exact Ar4.1) (State.isArrayOf_alike hZ.alike Ar4.2.1) Ar4.2.2 hin4 hat4 (g := (mkF m 130 #[.val (.ref o), .val (.long x), .second, .val (.int (4 : Int32)), .unset, .unset] [(.int (0 : Int32)), (.ref b)])) rfl rfl (hb hby d3_130) _ k) ?_
  refine og_lstore (pc' := 133) (L' := #[.val (.ref o), .val (.long x), .second, .val (.int (4 : Int32)), .val (.long v0), .second]) X3 hx (hb hby d3_131) rfl rfl ?_
  refine og_aloadN (pc' := 134) X3 hx (hb hby d3_133) rfl rfl rfl ?_
  obtain ⟨T5, X5, e5, st5⟩ := getF X3 hx hZ hown (host := "") (Or.inl (hw _ (List.mem_of_getElem? (i := 11) rfl))) Via.refl e3 F1_o (g := (mkF m 134 #[.val (.ref o), .val (.long x), .second, .val (.int (4 : Int32)), .val (.long v0), .second] [(.ref o)])) rfl rfl (hb hby d3_134)
  refine own_Go.of (g' := (mkF m 137 #[.val (.ref o), .val (.long x), .second, .val (.int (4 : Int32)), .val (.long v0), .second] [(.ref b)])) (fun t k => st5 _ k) ?_
  refine og_aloadN (pc' := 138) X5 hx (hb hby d3_137) rfl rfl rfl ?_
  obtain ⟨T6, X6, e6, st6⟩ := getF X5 hx hZ hown (host := "") (Or.inl (hw _ (List.mem_of_getElem? (i := 20) rfl))) Via.refl e5 F2_o (g := (mkF m 138 #[.val (.ref o), .val (.long x), .second, .val (.int (4 : Int32)), .val (.long v0), .second] [(.ref o), (.ref b)])) rfl rfl (hb hby d3_138)
  refine own_Go.of (g' := (mkF m 141 #[.val (.ref o), .val (.long x), .second, .val (.int (4 : Int32)), .val (.long v0), .second] [(.int (0 : Int32)), (.ref b)])) (fun t k => st6 _ k) ?_
  refine og_lloadN (pc' := 142) X6 hx (hb hby d3_141) rfl rfl ?_
  obtain ⟨cl7, Ar7, q7, S7, M7, H7, G7⟩ := id V_b
  have hin7 : ¬ ((0 : Int32) < 0 ∨ cl7.slots.size ≤ ((0 : Int32)).toNatClampNeg) := inb_of S7 ⟨by decide, by decide⟩
  obtain ⟨T7, h7, X7, e7, W7, st7⟩ := stJ X6 hx hZ e6 Ar7 (j := (0 : Int32)) hin7 (g := (mkF m 142 #[.val (.ref o), .val (.long x), .second, .val (.int (4 : Int32)), .val (.long v0), .second] [(.long x), (.int (0 : Int32)), (.ref b)])) rfl rfl (hb hby d3_142)
  have V7 : Arv Z h7 b k .long (4 : Int32) [(.long x), (.long v1), (.long v2), (.long v3)] (.long (0 : Int64)) := Arv.set Ar7 q7 S7 M7 H7 G7 rfl W7 0 rfl (Nat.le_of_ble_eq_true rfl)
  have f7_0 := E_o.wr W7
  have f7_1 := F1_o.other W7 (Or.inl ne_ob)
  have f7_2 := F2_o.other W7 (Or.inl ne_ob)
  have f7_3 := F3_o.other W7 (Or.inl ne_ob)
  have K7 : Keep h0 h7 [o, b] := (Keep.refl h0 [o, b]).wr W7 (Or.inl (List.mem_of_getElem? (i := 1) rfl))
  have Z7 : n0 ≤ h7.size := Nat.le_trans Z0 K7.1
  have N7 := Fr.snoc X7 N0 g_b
  refine own_Go.of (g' := (mkF m 143 #[.val (.ref o), .val (.long x), .second, .val (.int (4 : Int32)), .val (.long v0), .second] [])) (fun t k => st7 _ k) ?_
  refine og_aloadN (pc' := 144) X7 hx (hb hby d3_143) rfl rfl rfl ?_
  refine og_aloadN (pc' := 145) X7 hx (hb hby d3_144) rfl rfl rfl ?_
  obtain ⟨T8, X8, e8, st8⟩ := getF X7 hx hZ hown (host := "") (Or.inl (hw _ (List.mem_of_getElem? (i := 20) rfl))) Via.refl e7 f7_2 (g := (mkF m 145 #[.val (.ref o), .val (.long x), .second, .val (.int (4 : Int32)), .val (.long v0), .second] [(.ref o), (.ref o)])) rfl rfl (hb hby d3_145)
  refine own_Go.of (g' := (mkF m 148 #[.val (.ref o), .val (.long x), .second, .val (.int (4 : Int32)), .val (.long v0), .second] [(.int (0 : Int32)), (.ref o)])) (fun t k => st8 _ k) ?_
  refine og_iconst (pc' := 149) (n := 1) X8 hx (hb hby d3_148) rfl rfl ?_
  refine og_iadd (pc' := 150) X8 hx (hb hby d3_149) rfl ?_
  rw [show ((0 : Int32) + (1 : Int32)) = (1 : Int32) from by decide]
  refine og_aloadN (pc' := 151) X8 hx (hb hby d3_150) rfl rfl rfl ?_
  obtain ⟨T9, X9, e9, st9⟩ := getF X8 hx hZ hown (host := "") (Or.inl (hw _ (List.mem_of_getElem? (i := 11) rfl))) Via.refl e8 f7_1 (g := (mkF m 151 #[.val (.ref o), .val (.long x), .second, .val (.int (4 : Int32)), .val (.long v0), .second] [(.ref o), (.int (1 : Int32)), (.ref o)])) rfl rfl (hb hby d3_151)
  refine own_Go.of (g' := (mkF m 154 #[.val (.ref o), .val (.long x), .second, .val (.int (4 : Int32)), .val (.long v0), .second] [(.ref b), (.int (1 : Int32)), (.ref o)])) (fun t k => st9 _ k) ?_
  obtain ⟨cl10, Ar10, q10, S10, M10, H10, G10⟩ := id V7
  refine own_Go.of (g' := (mkF m 155 #[.val (.ref o), .val (.long x), .second, .val (.int (4 : Int32)), .val (.long v0), .second] [(.int (4 : Int32)), (.int (1 : Int32)), (.ref o)])) (fun t k => X9.arraylength hx (by rw [e9]; exact Ar10.1) (State.isArrayOf_alike hZ.alike Ar10.2.1) (g := (mkF m 154 #[.val (.ref o), .val (.long x), .second, .val (.int (4 : Int32)), .val (.long v0), .second] [(.ref b), (.int (1 : Int32)), (.ref o)])) rfl rfl (hb hby d3_154) _ (by rw [len_of S10 M10]; exact k)) ?_
  refine og_irem (pc' := 156) X9 hx (hb hby d3_155) (by decide) rfl ?_
  rw [show ((1 : Int32) % (4 : Int32)) = (1 : Int32) from by decide]
  obtain ⟨T11, h11, X11, e11, W11, st11⟩ := putF X9 hx hZ hown (host := "") (Or.inl (hw _ (List.mem_of_getElem? (i := 20) rfl))) Via.refl e9 f7_2 f7_0 (Or.inl (hw _ (List.mem_of_getElem? (i := 21) rfl))) (hw _ (List.mem_of_getElem? (i := 2) rfl)) (ty := .int) (by decide) rfl rfl (g := (mkF m 156 #[.val (.ref o), .val (.long x), .second, .val (.int (4 : Int32)), .val (.long v0), .second] [(.int (1 : Int32)), (.ref o)])) rfl rfl (hb hby d3_156)
  have w11 : Fld Z h11 o "com/example/ostracon/ostracon/LastValues" "start" "I" (.int (1 : Int32)) := f7_2.same W11
  have f11_0 := f7_0.wr W11
  have f11_1 := f7_1.other W11 (Or.inr (slot_ne (a0 := a0) (C := "com/example/ostracon/ostracon/LastValues") (Or.inl (hw _ (List.mem_of_getElem? (i := 12) rfl))) (Or.inl (hw _ (List.mem_of_getElem? (i := 21) rfl))) (by decide) (t := (.array .long)) (t' := .int) (by decide) (by decide)))
  have f11_2 := f7_3.other W11 (Or.inr (slot_ne (a0 := a0) (C := "com/example/ostracon/ostracon/LastValues") (Or.inl (hw _ (List.mem_of_getElem? (i := 19) rfl))) (Or.inl (hw _ (List.mem_of_getElem? (i := 21) rfl))) (by decide) (t := .int) (t' := .int) (by decide) (by decide)))
  have f11_6 := V7.other W11 (Ne.symm ne_ob)
  have K11 : Keep h0 h11 [o, b] := K7.wr W11 (Or.inl (List.mem_of_getElem? (i := 0) rfl))
  have Z11 : n0 ≤ h11.size := Nat.le_trans Z0 K11.1
  have N11 := Fr.snoc X11 N7 g_o
  refine own_Go.of (g' := (mkF m 159 #[.val (.ref o), .val (.long x), .second, .val (.int (4 : Int32)), .val (.long v0), .second] [])) (fun t k => st11 _ k) ?_
  refine og_lload (pc' := 161) X11 hx (hb hby d3_159) rfl rfl ?_
  obtain ⟨fs, hr, hrun, hended, hW, hsame⟩ := X11.leave (v := some (.long v0)) (fun h => by rw [Bd.returns] at h; cases h) (BodyLoose.notSynchronized Bd)
  refine ⟨_, _, retL X11 hx Bd.returns (hb hby d3_161) hr, hrun, hended, some (.long v0), _, rfl, ?_, ⟨_, rfl⟩, hW, hsame.mono (by decide) (by decide)⟩
  show Qadd4_404 Z o x b k v0 v1 v2 v3 h0 n0 _ T11.heap _
  rw [e11]
  exact ⟨rfl, N11, K11, f11_0, f11_1, w11, f11_2, f11_6⟩

theorem pnnew414 : plainName "com/example/ostracon/ostracon/LastValues" = true := by first | (simp [plainName, overriddenIn]; done) | decide +kernel
theorem efnew414 (m : MethodId) (z0 : Addr) : entryFrame m #[(.ref z0)] 1 = mkF m 0 #[.val (.ref z0)] [] := by first | (simp [entryFrame, mkF, argsToLocals, Value.category]; done) | rfl
def Qnew414 (Z : State) (o : Addr) (b : Addr) (k : ClassId) (v0 : Int64) (v1 : Int64) (v2 : Int64) (v3 : Int64) (h0 : Heap) (n0 : Nat) (v : Option Value) (h : Heap) (L : List Loc) : Prop := v = some (.long v0) ∧ Fr n0 L ∧ h = h0
set_option maxRecDepth 65536 in
set_option maxHeartbeats 40000000 in
theorem rmnew414 (l : Launch) (Z : State) (a0 : Array Value) (hw : ∀ d ∈ tables_1, d.before a0 Z = true) (ws : List Jvm.Cond) (o : Addr) (b : Addr) (k : ClassId) (v0 : Int64) (v1 : Int64) (v2 : Int64) (v3 : Int64) (h0 : Heap) (n0 : Nat) (Z0 : n0 ≤ h0.size) (E_o : Exa Z h0 o "com/example/ostracon/ostracon/LastValues") (F1_o : Fld Z h0 o "com/example/ostracon/ostracon/LastValues" "values" "[J" (.ref b)) (F2_o : Fld Z h0 o "com/example/ostracon/ostracon/LastValues" "start" "I" (.int (1 : Int32))) (F3_o : Fld Z h0 o "com/example/ostracon/ostracon/LastValues" "count" "I" (.int (4 : Int32))) (V_b : Arv Z h0 b k .long (4 : Int32) [(.long v0), (.long v1), (.long v2), (.long v3)] (.long (0 : Int64))) :
    MetFree l (⟨"com/example/ostracon/ostracon/LastValues", "newest", "()J"⟩ : MethodName) (head1 (Jvm.Cond.code (⟨"com/example/ostracon/ostracon/LastValues", "newest", "()J"⟩ : MethodName) prog_19_method_5_code 1 (some .long) :: ws) ({ frames := 0, cells := 0, slots := 0, locals := 0 } : Room)) (fun a U => a = #[(.ref o)] ∧ Z.Warmed39 U.vm ∧ U.heap = h0) (fun _ _ _ _ _ => True) (fun _ U oc U' => ∃ v L, oc = .returned v ∧ Qnew414 Z o b k v0 v1 v2 v3 h0 n0 v U'.heap L ∧ FrameEnd U oc U' L ({ frames := 0, cells := 0, slots := 0, locals := 0 } : Room).cells ({ frames := 0, cells := 0, slots := 0, locals := 0 } : Room).slots) := by
  refine MetFree.of_bodySF (plainFor_of_name pnnew414) hisR ?_
  intro p e s m args below meth c s₁ Bd hml0 hP hK
  obtain ⟨rfl, hZ, hh⟩ := hP
  have hx := Bd.exec
  have hby := Bd.bytes
  have hml : c.maxLocals = 1 := hml0
  have hown : s.vm.findClass "com/example/ostracon/ostracon/LastValues" = some m.cls := findClass_of_methodNamed Bd.named
  have hnm := (name_of_methodNamed Bd.named Bd.method).1
  have X0 : Stand p l e ({ frames := 0, cells := 0, slots := 0, locals := 0 } : Room) s m #[(.ref o)] below meth c s₁ [] 0 0 := Stand.of_body Bd
  have e0 : s₁.heap = h0 := by rw [← hh, Bd.state]; rfl
  have N0 := Fr.nil n0
  show own_Go p e below (fun s₂ oc => ∃ v L, oc = .returned v ∧ Qnew414 Z o b k v0 v1 v2 v3 h0 n0 v s₂.heap L ∧ FrameEnd s oc s₂ L ({ frames := 0, cells := 0, slots := 0, locals := 0 } : Room).cells ({ frames := 0, cells := 0, slots := 0, locals := 0 } : Room).slots) s₁ (entryFrame m #[(.ref o)] 1)
  refine own_Go.of (g' := mkF m 0 #[.val (.ref o)] []) (fun t k => castTop (efnew414 m o) k) ?_
  refine og_aloadN (pc' := 1) X0 hx (hb hby d4_0) rfl rfl rfl ?_
  obtain ⟨T1, X1, e1, st1⟩ := getF X0 hx hZ hown (host := "") (Or.inl (hw _ (List.mem_of_getElem? (i := 11) rfl))) Via.refl e0 F1_o (g := (mkF m 1 #[.val (.ref o)] [(.ref o)])) rfl rfl (hb hby d4_1)
  refine own_Go.of (g' := (mkF m 4 #[.val (.ref o)] [(.ref b)])) (fun t k => st1 _ k) ?_
  refine og_aloadN (pc' := 5) X1 hx (hb hby d4_4) rfl rfl rfl ?_
  obtain ⟨T2, X2, e2, st2⟩ := getF X1 hx hZ hown (host := "") (Or.inl (hw _ (List.mem_of_getElem? (i := 20) rfl))) Via.refl e1 F2_o (g := (mkF m 5 #[.val (.ref o)] [(.ref o), (.ref b)])) rfl rfl (hb hby d4_5)
  refine own_Go.of (g' := (mkF m 8 #[.val (.ref o)] [(.int (1 : Int32)), (.ref b)])) (fun t k => st2 _ k) ?_
  refine og_aloadN (pc' := 9) X2 hx (hb hby d4_8) rfl rfl rfl ?_
  obtain ⟨T3, X3, e3, st3⟩ := getF X2 hx hZ hown (host := "") (Or.inl (hw _ (List.mem_of_getElem? (i := 18) rfl))) Via.refl e2 F3_o (g := (mkF m 9 #[.val (.ref o)] [(.ref o), (.int (1 : Int32)), (.ref b)])) rfl rfl (hb hby d4_9)
  refine own_Go.of (g' := (mkF m 12 #[.val (.ref o)] [(.int (4 : Int32)), (.int (1 : Int32)), (.ref b)])) (fun t k => st3 _ k) ?_
  refine og_iadd (pc' := 13) X3 hx (hb hby d4_12) rfl ?_
  rw [show ((1 : Int32) + (4 : Int32)) = (5 : Int32) from by decide]
  refine og_iconst (pc' := 14) (n := 1) X3 hx (hb hby d4_13) rfl rfl ?_
  refine og_isub (pc' := 15) X3 hx (hb hby d4_14) rfl ?_
  rw [show ((5 : Int32) - (1 : Int32)) = (4 : Int32) from by decide]
  refine og_aloadN (pc' := 16) X3 hx (hb hby d4_15) rfl rfl rfl ?_
  obtain ⟨T4, X4, e4, st4⟩ := getF X3 hx hZ hown (host := "") (Or.inl (hw _ (List.mem_of_getElem? (i := 11) rfl))) Via.refl e3 F1_o (g := (mkF m 16 #[.val (.ref o)] [(.ref o), (.int (4 : Int32)), (.ref b)])) rfl rfl (hb hby d4_16)
  refine own_Go.of (g' := (mkF m 19 #[.val (.ref o)] [(.ref b), (.int (4 : Int32)), (.ref b)])) (fun t k => st4 _ k) ?_
  obtain ⟨cl5, Ar5, q5, S5, M5, H5, G5⟩ := id V_b
  refine own_Go.of (g' := (mkF m 20 #[.val (.ref o)] [(.int (4 : Int32)), (.int (4 : Int32)), (.ref b)])) (fun t k => X4.arraylength hx (by rw [e4]; exact Ar5.1) (State.isArrayOf_alike hZ.alike Ar5.2.1) (g := (mkF m 19 #[.val (.ref o)] [(.ref b), (.int (4 : Int32)), (.ref b)])) rfl rfl (hb hby d4_19) _ (by rw [len_of S5 M5]; exact k)) ?_
  refine og_irem (pc' := 21) X4 hx (hb hby d4_20) (by decide) rfl ?_
  rw [show ((4 : Int32) % (4 : Int32)) = (0 : Int32) from by decide]
  obtain ⟨cl6, Ar6, q6, S6, M6, H6, G6⟩ := id V_b
  have hin6 : ¬ ((0 : Int32) < 0 ∨ cl6.slots.size ≤ ((0 : Int32)).toNatClampNeg) := inb_of S6 ⟨by decide, by decide⟩
  have hat6 : cl6.slots[((0 : Int32)).toNatClampNeg]? = some (.long v0) := Has.at H6 hin6 rfl
  refine own_Go.of (g' := (mkF m 22 #[.val (.ref o)] [(.long v0)])) (fun t k => X4.laload hx (j := (0 : Int32)) (v := (.long v0)) (by rw [e4]; exact Ar6.1) (State.isArrayOf_alike hZ.alike Ar6.2.1) Ar6.2.2 hin6 hat6 (g := (mkF m 21 #[.val (.ref o)] [(.int (0 : Int32)), (.ref b)])) rfl rfl (hb hby d4_21) _ k) ?_
  obtain ⟨fs, hr, hrun, hended, hW, hsame⟩ := X4.leave (v := some (.long v0)) (fun h => by rw [Bd.returns] at h; cases h) (BodyLoose.notSynchronized Bd)
  refine ⟨_, _, retL X4 hx Bd.returns (hb hby d4_22) hr, hrun, hended, some (.long v0), _, rfl, ?_, ⟨_, rfl⟩, hW, hsame.mono (by decide) (by decide)⟩
  show Qnew414 Z o b k v0 v1 v2 v3 h0 n0 _ T4.heap _
  rw [e4]
  exact ⟨rfl, N0, rfl⟩

theorem own_lim {k li : Int32} (h : ((((k.toUInt32 >>> ((8 : Int32) &&& 31).toUInt32).toInt32) &&& (3 : Int32)) + (1 : Int32)) = li) : li = (1 : Int32) ∨ li = (2 : Int32) ∨ li = (3 : Int32) ∨ li = (4 : Int32) := by
  have q := c_mask ((k.toUInt32 >>> ((8 : Int32) &&& 31).toUInt32).toInt32) (3 : Int32) 2 (by decide) (by decide)
  have e : ((2 ^ 2 : Nat) : Int) = 4 := by decide
  rw [e] at q
  have q1 := c_iadd (((k.toUInt32 >>> ((8 : Int32) &&& 31).toUInt32).toInt32) &&& (3 : Int32)) (1 : Int32)
  rw [h] at q1
  have r := rng32 li
  have e1 : (1 : Int32).toInt = 1 := by decide
  have e2 : (2 : Int32).toInt = 2 := by decide
  have e3 : (3 : Int32).toInt = 3 := by decide
  have e4 : (4 : Int32).toInt = 4 := by decide
  simp only [← Int32.toInt_inj, e1, e2, e3, e4]
  rw [e1] at q1
  omega
theorem own_lt22 {a : Int32} (h : a < (2 : Int32)) : a < (2 : Int32) := h
theorem own_lt23 {a : Int32} (h : a < (2 : Int32)) : a < (3 : Int32) := by rw [Int32.lt_iff_toInt_lt] at *; exact Int.lt_trans h (by decide)
theorem own_lt24 {a : Int32} (h : a < (2 : Int32)) : a < (4 : Int32) := by rw [Int32.lt_iff_toInt_lt] at *; exact Int.lt_trans h (by decide)
theorem own_lt25 {a : Int32} (h : a < (2 : Int32)) : a < (5 : Int32) := by rw [Int32.lt_iff_toInt_lt] at *; exact Int.lt_trans h (by decide)
theorem own_lt34 {a : Int32} (h : a < (3 : Int32)) : a < (4 : Int32) := by rw [Int32.lt_iff_toInt_lt] at *; exact Int.lt_trans h (by decide)
theorem own_lt35 {a : Int32} (h : a < (3 : Int32)) : a < (5 : Int32) := by rw [Int32.lt_iff_toInt_lt] at *; exact Int.lt_trans h (by decide)
theorem own_lt45 {a : Int32} (h : a < (4 : Int32)) : a < (5 : Int32) := by rw [Int32.lt_iff_toInt_lt] at *; exact Int.lt_trans h (by decide)

theorem pn0 : plainName "com/example/ostracon/ostracon/LastValuesNewestPinLaw" = true := by first | (simp [plainName, overriddenIn]; done) | decide +kernel
theorem pd_1 : parseMethodDescriptor "()V" = some ⟨[], none⟩ := by decide +kernel
theorem pd_2 : parseMethodDescriptor "(JI)J" = some ⟨[.long, .int], some .long⟩ := by decide +kernel
theorem pd_3 : parseMethodDescriptor "()J" = some ⟨[], some .long⟩ := by decide +kernel
theorem ef0 (m : MethodId) (z0 : Int64) (z1 : Int64) (z2 : Int64) (z3 : Int64) (z4 : Int64) (z5 : Int32) : entryFrame m #[(.long z0), (.long z1), (.long z2), (.long z3), (.long z4), (.int z5)] maxLocals = mkF m 0 #[.val (.long z0), .second, .val (.long z1), .second, .val (.long z2), .second, .val (.long z3), .second, .val (.long z4), .second, .val (.int z5), .unset, .unset, .unset, .unset, .unset] [] := by first | (simp [entryFrame, mkF, argsToLocals, Value.category, maxLocals]; done) | rfl
def Q0 (Z : State) (x0 : Int64) (x1 : Int64) (x2 : Int64) (x3 : Int64) (x4 : Int64) (x5 : Int32) (h0 : Heap) (n0 : Nat) (v : Option Value) (h : Heap) (L : List Loc) : Prop := v = some (.int 1) ∧ Fr n0 L
set_option maxRecDepth 65536 in
set_option maxHeartbeats 40000000 in
theorem rm0 (l : Launch) (Z : State) (a0 : Array Value) (hw : ∀ d ∈ tables_1, d.before a0 Z = true) (ws : List Jvm.Cond) (x0 : Int64) (x1 : Int64) (x2 : Int64) (x3 : Int64) (x4 : Int64) (x5 : Int32) (h0 : Heap) (n0 : Nat) (Z0 : n0 ≤ h0.size) :
    MetFree l x (head1 (Jvm.Cond.code x code maxLocals ret :: ws) room_1) (fun a U => a = #[(.long x0), (.long x1), (.long x2), (.long x3), (.long x4), (.int x5)] ∧ Z.Warmed39 U.vm ∧ U.heap = h0) (fun _ _ _ _ _ => True) (fun _ U oc U' => ∃ v L, oc = .returned v ∧ Q0 Z x0 x1 x2 x3 x4 x5 h0 n0 v U'.heap L ∧ FrameEnd U oc U' L room_1.cells room_1.slots) := by
  refine MetFree.of_bodySF (plainFor_of_name pn0) hisR ?_
  intro p e s m args below meth c s₁ Bd hml0 hP hK
  obtain ⟨rfl, hZ, hh⟩ := hP
  have hx := Bd.exec
  have hby := Bd.bytes
  have hml : c.maxLocals = 16 := hml0
  have hown : s.vm.findClass "com/example/ostracon/ostracon/LastValuesNewestPinLaw" = some m.cls := findClass_of_methodNamed Bd.named
  have hnm := (name_of_methodNamed Bd.named Bd.method).1
  have X0 : Stand p l e room_1 s m #[(.long x0), (.long x1), (.long x2), (.long x3), (.long x4), (.int x5)] below meth c s₁ [] 0 0 := Stand.of_body Bd
  have e0 : s₁.heap = h0 := by rw [← hh, Bd.state]; rfl
  have N0 := Fr.nil n0
  show own_Go p e below (fun s₂ oc => ∃ v L, oc = .returned v ∧ Q0 Z x0 x1 x2 x3 x4 x5 h0 n0 v s₂.heap L ∧ FrameEnd s oc s₂ L room_1.cells room_1.slots) s₁ (entryFrame m #[(.long x0), (.long x1), (.long x2), (.long x3), (.long x4), (.int x5)] maxLocals)
  refine own_Go.of (g' := mkF m 0 #[.val (.long x0), .second, .val (.long x1), .second, .val (.long x2), .second, .val (.long x3), .second, .val (.long x4), .second, .val (.int x5), .unset, .unset, .unset, .unset, .unset] []) (fun t k => castTop (ef0 m x0 x1 x2 x3 x4 x5) k) ?_
  refine og_iload (pc' := 2) X0 hx (hb hby at_0) rfl rfl ?_
  refine og_ldc (pc' := 4) X0 hx (hb hby at_2) hown (mvT hZ (hw _ (List.mem_of_getElem? (i := 0) rfl))) rfl ?_
  refine og_iand (pc' := 5) X0 hx (hb hby at_4) rfl ?_
  refine og_iconst (pc' := 6) (n := 5) X0 hx (hb hby at_5) rfl rfl ?_
  refine og_irem (pc' := 7) X0 hx (hb hby at_6) (by decide) rfl ?_
  refine og_iconst (pc' := 8) (n := 1) X0 hx (hb hby at_7) rfl rfl ?_
  refine og_iadd (pc' := 9) X0 hx (hb hby at_8) rfl ?_
  refine og_istore (pc' := 11) (L' := #[.val (.long x0), .second, .val (.long x1), .second, .val (.long x2), .second, .val (.long x3), .second, .val (.long x4), .second, .val (.int x5), .val (.int (((x5 &&& (2147483647 : Int32)) % (5 : Int32)) + (1 : Int32))), .unset, .unset, .unset, .unset]) X0 hx (hb hby at_9) rfl rfl ?_
  generalize had : (((x5 &&& (2147483647 : Int32)) % (5 : Int32)) + (1 : Int32)) = ad
  refine og_iload (pc' := 13) X0 hx (hb hby at_11) rfl rfl ?_
  refine og_bipush (pc' := 15) (n := 8) X0 hx (hb hby at_13) rfl rfl ?_
  refine og_iushr (pc' := 16) X0 hx (hb hby at_15) rfl ?_
  refine og_iconst (pc' := 17) (n := 3) X0 hx (hb hby at_16) rfl rfl ?_
  refine og_iand (pc' := 18) X0 hx (hb hby at_17) rfl ?_
  refine og_iconst (pc' := 19) (n := 1) X0 hx (hb hby at_18) rfl rfl ?_
  refine og_iadd (pc' := 20) X0 hx (hb hby at_19) rfl ?_
  refine og_istore (pc' := 22) (L' := #[.val (.long x0), .second, .val (.long x1), .second, .val (.long x2), .second, .val (.long x3), .second, .val (.long x4), .second, .val (.int x5), .val (.int ad), .val (.int ((((x5.toUInt32 >>> ((8 : Int32) &&& 31).toUInt32).toInt32) &&& (3 : Int32)) + (1 : Int32))), .unset, .unset, .unset]) X0 hx (hb hby at_20) rfl rfl ?_
  generalize hli : ((((x5.toUInt32 >>> ((8 : Int32) &&& 31).toUInt32).toInt32) &&& (3 : Int32)) + (1 : Int32)) = li
  rcases own_lim hli with e | e | e | e
  · rw [e]
    obtain ⟨T1, h1, X1, e1, E1, A1, D1, -, st1⟩ := newO X0 hx hZ hown (hw _ (List.mem_of_getElem? (i := 1) rfl)) (hw _ (List.mem_of_getElem? (i := 2) rfl)) (hw _ (List.mem_of_getElem? (i := 3) rfl)) e0 (g := (mkF m 22 #[.val (.long x0), .second, .val (.long x1), .second, .val (.long x2), .second, .val (.long x3), .second, .val (.long x4), .second, .val (.int x5), .val (.int ad), .val (.int (1 : Int32)), .unset, .unset, .unset] [])) rfl (hb hby at_22) (by decide) (by decide)
    obtain ⟨b1, g1⟩ : ∃ z, z = h0.size := ⟨_, rfl⟩
    rw [← g1] at A1 D1 st1
    have g_b1 : n0 ≤ b1 := Nat.le_trans Z0 (Nat.le_of_eq g1.symm)
    have sz_b1 : h0.size ≤ b1 := Nat.le_trans (Keep.refl h0 []).1 (Nat.le_of_eq g1.symm)
    have F1_values : Fld Z h1 b1 "com/example/ostracon/ostracon/LastValues" "values" "[J" .null := D1 (Or.inl (hw _ (List.mem_of_getElem? (i := 12) rfl))) (ty := (.array .long)) (by decide)
    have F1_count : Fld Z h1 b1 "com/example/ostracon/ostracon/LastValues" "count" "I" (.int (0 : Int32)) := D1 (Or.inl (hw _ (List.mem_of_getElem? (i := 19) rfl))) (ty := .int) (by decide)
    have F1_start : Fld Z h1 b1 "com/example/ostracon/ostracon/LastValues" "start" "I" (.int (0 : Int32)) := D1 (Or.inl (hw _ (List.mem_of_getElem? (i := 21) rfl))) (ty := .int) (by decide)
    have K1 : Keep h0 h1 [] := (Keep.refl h0 []).ext E1
    have Z1 : n0 ≤ h1.size := Nat.le_trans Z0 K1.1
    refine own_Go.of (g' := (mkF m 25 #[.val (.long x0), .second, .val (.long x1), .second, .val (.long x2), .second, .val (.long x3), .second, .val (.long x4), .second, .val (.int x5), .val (.int ad), .val (.int (1 : Int32)), .unset, .unset, .unset] [(.ref b1)])) (fun t k => st1 _ k) ?_
    refine og_dup (pc' := 26) X1 hx (hb hby at_25) rfl rfl ?_
    obtain ⟨_, _, ⟨T2, L2, k2, n2⟩, -, X2, ⟨Lc2, hQ2, l2, y2, z2⟩, st2⟩ := X1.specialBack hx (y := (⟨"com/example/ostracon/ostracon/LastValues", "<init>", "()V"⟩ : MethodName)) rfl hown (mvT hZ (hw _ (List.mem_of_getElem? (i := 4) rfl))) (mvT hZ (hw _ (List.mem_of_getElem? (i := 5) rfl))) (mvT hZ (hw _ (List.mem_of_getElem? (i := 6) rfl))) (by decide) (backOf (W := 1) (rmini l Z a0 hw [] b1 .null h1 n0 Z1 A1 F1_values F1_start F1_count g_b1) hZ (hw _ (List.mem_of_getElem? (i := 6) rfl)) (hw _ (List.mem_of_getElem? (i := 3) rfl)) (by decide) (by decide)) (g := (mkF m 26 #[.val (.long x0), .second, .val (.long x1), .second, .val (.long x2), .second, .val (.long x3), .second, .val (.long x4), .second, .val (.int x5), .val (.int ad), .val (.int (1 : Int32)), .unset, .unset, .unset] [(.ref b1), (.ref b1)])) rfl (by rw [hml]; rfl) (Steps.refl _) (a := b1) (argsL := []) (rest := [(.ref b1)]) (lenOf pd_1 rfl) rfl (by show 2 * 0 + _ ≤ _; exact Nat.le_of_eq rfl) (hb hby at_26) (fun _ _ => ⟨rfl, e1, (by decide : 1 + 1 ≤ _), (by decide : 3 + 1 ≤ _)⟩)
    dsimp only [Pt.U, Pt.locs, Pt.cells, Pt.slots] at X2 l2 y2 z2 st2 hQ2
    subst l2 y2 z2
    obtain ⟨b_2, k_2, rfl, N2q, K2q, zz2_b, c2_0, c2_1, c2_2, c2_3, c2_4⟩ := hQ2
    have N2 := Fr.app N0 N2q
    have g_b_2 : n0 ≤ b_2 := Nat.le_trans Z1 zz2_b
    have sz_b_2 : h0.size ≤ b_2 := Nat.le_trans K1.1 zz2_b
    have ne2_0 : b1 ≠ b_2 := Nat.ne_of_lt (Nat.lt_of_lt_of_le A1.lt zz2_b)
    have f2_0 := A1.keep K2q
    have K2 : Keep h0 T2.heap [] := K1.trans K2q (allS (Or.inr sz_b1) all0)
    have Z2 : n0 ≤ T2.heap.size := Nat.le_trans Z0 K2.1
    refine own_Go.of (g' := (mkF m 29 #[.val (.long x0), .second, .val (.long x1), .second, .val (.long x2), .second, .val (.long x3), .second, .val (.long x4), .second, .val (.int x5), .val (.int ad), .val (.int (1 : Int32)), .unset, .unset, .unset] [(.ref b1)])) (fun t k => st2.trans k) ?_
    refine og_astore (pc' := 31) (L' := #[.val (.long x0), .second, .val (.long x1), .second, .val (.long x2), .second, .val (.long x3), .second, .val (.long x4), .second, .val (.int x5), .val (.int ad), .val (.int (1 : Int32)), .val (.ref b1), .unset, .unset]) X2 hx (hb hby at_29) rfl rfl rfl ?_
    refine og_lloadN (pc' := 32) X2 hx (hb hby at_31) rfl rfl ?_
    refine og_lstore (pc' := 34) (L' := #[.val (.long x0), .second, .val (.long x1), .second, .val (.long x2), .second, .val (.long x3), .second, .val (.long x4), .second, .val (.int x5), .val (.int ad), .val (.int (1 : Int32)), .val (.ref b1), .val (.long x0), .second]) X2 hx (hb hby at_32) rfl rfl ?_
    refine og_aload (pc' := 36) X2 hx (hb hby at_34) rfl rfl rfl ?_
    refine og_lloadN (pc' := 37) X2 hx (hb hby at_36) rfl rfl ?_
    refine og_iload (pc' := 39) X2 hx (hb hby at_37) rfl rfl ?_
    obtain ⟨cq3, kq3, q3a, q3b, q3c⟩ := isOf hZ rfl c2_0
    obtain ⟨_, _, ⟨T3, L3, k3, n3⟩, -, X3, ⟨Lc3, hQ3, l3, y3, z3⟩, st3⟩ := X2.virtualBack hx (y := (⟨"com/example/ostracon/ostracon/LastValues", "add", "(JI)J"⟩ : MethodName)) (z := (⟨"com/example/ostracon/ostracon/LastValues", "add", "(JI)J"⟩ : MethodName)) hown (mvT hZ (hw _ (List.mem_of_getElem? (i := 13) rfl))) (mvT hZ (hw _ (List.mem_of_getElem? (i := 14) rfl))) (notFace_of_selects (args := #[]) (mvT hZ (hw _ (List.mem_of_getElem? (i := 16) rfl)))) (mvT hZ (hw _ (List.mem_of_getElem? (i := 16) rfl))) (mvT hZ (hw _ (List.mem_of_getElem? (i := 15) rfl))) (by decide) (backOf (W := 0) (rmadd1_100 l Z a0 hw [] b1 x0 b_2 k_2 (0 : Int64) T2.heap n0 Z2 c2_0 c2_1 c2_2 c2_3 c2_4 g_b1 g_b_2 ne2_0) hZ (hw _ (List.mem_of_getElem? (i := 17) rfl)) (hw _ (List.mem_of_getElem? (i := 3) rfl)) (by decide) (by decide)) q3a q3c (g := (mkF m 39 #[.val (.long x0), .second, .val (.long x1), .second, .val (.long x2), .second, .val (.long x3), .second, .val (.long x4), .second, .val (.int x5), .val (.int ad), .val (.int (1 : Int32)), .val (.ref b1), .val (.long x0), .second] [(.int (1 : Int32)), (.long x0), (.ref b1)])) rfl (by rw [hml]; rfl) (Steps.refl _) (argsL := [(.long x0), (.int (1 : Int32))]) (rest := []) (lenOf pd_2 rfl) rfl (by show 2 * 0 + _ ≤ _; exact Nat.le_of_eq rfl) (hb hby at_39) (fun _ _ => ⟨rfl, rfl, (by decide : 2 + 0 ≤ _), (by decide : 4 + 0 ≤ _)⟩)
    dsimp only [Pt.U, Pt.locs, Pt.cells, Pt.slots] at X3 l3 y3 z3 st3 hQ3
    subst l3 y3 z3
    obtain ⟨rfl, N3q, K3q, c3_0, c3_1, c3_2, c3_3, c3_4⟩ := hQ3
    have N3 := Fr.app N2 N3q
    have f3_0 := c2_0.keep K3q
    have K3 : Keep h0 T3.heap [] := K2.trans K3q (allS (Or.inr sz_b1) (allS (Or.inr sz_b_2) all0))
    have Z3 : n0 ≤ T3.heap.size := Nat.le_trans Z0 K3.1
    refine own_Go.of (g' := (mkF m 42 #[.val (.long x0), .second, .val (.long x1), .second, .val (.long x2), .second, .val (.long x3), .second, .val (.long x4), .second, .val (.int x5), .val (.int ad), .val (.int (1 : Int32)), .val (.ref b1), .val (.long x0), .second] [(.long (-1 : Int64))])) (fun t k => st3.trans k) ?_
    refine own_Go.of (g' := (mkF m 43 #[.val (.long x0), .second, .val (.long x1), .second, .val (.long x2), .second, .val (.long x3), .second, .val (.long x4), .second, .val (.int x5), .val (.int ad), .val (.int (1 : Int32)), .val (.ref b1), .val (.long x0), .second] [])) (fun t k => by jvm_step X3.here [X3.here.top, hx, (hb hby at_42), Value.category]; exact k) ?_
    refine og_iload (pc' := 45) X3 hx (hb hby at_43) rfl rfl ?_
    refine og_iconst (pc' := 46) (n := 2) X3 hx (hb hby at_45) rfl rfl ?_
    by_cases hc46_1 : ad < (2 : Int32)
    · refine og_icmpYes (pc' := 61) X3 hx (hb hby at_46) (tlt hc46_1).1 (by decide) (by decide) ?_
      refine og_iload (pc' := 63) X3 hx (hb hby at_61) rfl rfl ?_
      refine og_iconst (pc' := 64) (n := 3) X3 hx (hb hby at_63) rfl rfl ?_
      refine og_icmpYes (pc' := 81) X3 hx (hb hby at_64) (tlt (own_lt23 hc46_1)).1 (by decide) (by decide) ?_
      refine og_iload (pc' := 83) X3 hx (hb hby at_81) rfl rfl ?_
      refine og_iconst (pc' := 84) (n := 4) X3 hx (hb hby at_83) rfl rfl ?_
      refine og_icmpYes (pc' := 101) X3 hx (hb hby at_84) (tlt (own_lt24 hc46_1)).1 (by decide) (by decide) ?_
      refine og_iload (pc' := 103) X3 hx (hb hby at_101) rfl rfl ?_
      refine og_iconst (pc' := 104) (n := 5) X3 hx (hb hby at_103) rfl rfl ?_
      refine og_icmpYes (pc' := 121) X3 hx (hb hby at_104) (tlt (own_lt25 hc46_1)).1 (by decide) (by decide) ?_
      refine og_aload (pc' := 123) X3 hx (hb hby at_121) rfl rfl rfl ?_
      obtain ⟨cq4, kq4, q4a, q4b, q4c⟩ := isOf hZ rfl c3_0
      obtain ⟨_, _, ⟨T4, L4, k4, n4⟩, -, X4, ⟨Lc4, hQ4, l4, y4, z4⟩, st4⟩ := X3.virtualBack hx (y := (⟨"com/example/ostracon/ostracon/LastValues", "newest", "()J"⟩ : MethodName)) (z := (⟨"com/example/ostracon/ostracon/LastValues", "newest", "()J"⟩ : MethodName)) hown (mvT hZ (hw _ (List.mem_of_getElem? (i := 23) rfl))) (mvT hZ (hw _ (List.mem_of_getElem? (i := 24) rfl))) (notFace_of_selects (args := #[]) (mvT hZ (hw _ (List.mem_of_getElem? (i := 26) rfl)))) (mvT hZ (hw _ (List.mem_of_getElem? (i := 26) rfl))) (mvT hZ (hw _ (List.mem_of_getElem? (i := 25) rfl))) (by decide) (backOf (W := 0) (rmnew101 l Z a0 hw [] b1 b_2 k_2 x0 T3.heap n0 Z3 c3_0 c3_1 c3_2 c3_3 c3_4) hZ (hw _ (List.mem_of_getElem? (i := 27) rfl)) (hw _ (List.mem_of_getElem? (i := 3) rfl)) (by decide) (by decide)) q4a q4c (g := (mkF m 123 #[.val (.long x0), .second, .val (.long x1), .second, .val (.long x2), .second, .val (.long x3), .second, .val (.long x4), .second, .val (.int x5), .val (.int ad), .val (.int (1 : Int32)), .val (.ref b1), .val (.long x0), .second] [(.ref b1)])) rfl (by rw [hml]; rfl) (Steps.refl _) (argsL := []) (rest := []) (lenOf pd_3 rfl) rfl (by show 2 * 0 + _ ≤ _; exact Nat.le_of_eq rfl) (hb hby at_123) (fun _ _ => ⟨rfl, rfl, (by decide : 2 + 0 ≤ _), (by decide : 4 + 0 ≤ _)⟩)
      dsimp only [Pt.U, Pt.locs, Pt.cells, Pt.slots] at X4 l4 y4 z4 st4 hQ4
      subst l4 y4 z4
      obtain ⟨rfl, N4q, e4⟩ := hQ4
      have N4 := Fr.app N3 N4q
      refine own_Go.of (g' := (mkF m 126 #[.val (.long x0), .second, .val (.long x1), .second, .val (.long x2), .second, .val (.long x3), .second, .val (.long x4), .second, .val (.int x5), .val (.int ad), .val (.int (1 : Int32)), .val (.ref b1), .val (.long x0), .second] [(.long x0)])) (fun t k => st4.trans k) ?_
      refine og_lload (pc' := 128) X4 hx (hb hby at_126) rfl rfl ?_
      refine og_lcmp (pc' := 129) X4 hx (hb hby at_128) rfl ?_
      refine og_ifNo (pc' := 132) X4 hx (hb hby at_129) ((if0 _ _).trans (teq ((lw_eq _ _).mpr rfl)).2) rfl ?_
      refine og_iconst (pc' := 133) (n := 1) X4 hx (hb hby at_132) rfl rfl ?_
      refine og_goto (pc' := 137) X4 hx (hb hby at_133) (by decide) (by decide) ?_
      obtain ⟨fs, hr, hrun, hended, hW, hsame⟩ := X4.leave (v := some (.int (1 : Int32))) (fun h => by rw [Bd.returns] at h; cases h) (BodyLoose.notSynchronized Bd)
      refine ⟨_, _, retN X4 hx (t := .boolean) Bd.returns (by simp) (hb hby at_137) hr, hrun, hended, some (.int (1 : Int32)), _, rfl, ?_, ⟨_, rfl⟩, hW, hsame.mono (by decide) (by decide)⟩
      show Q0 Z x0 x1 x2 x3 x4 x5 h0 n0 _ T4.heap _
      rw [e4]
      exact ⟨rfl, N4⟩
    · refine og_icmpNo (pc' := 49) X3 hx (hb hby at_46) (flt hc46_1).1 rfl ?_
      refine og_aload (pc' := 51) X3 hx (hb hby at_49) rfl rfl rfl ?_
      refine og_lloadN (pc' := 52) X3 hx (hb hby at_51) rfl rfl ?_
      refine og_iload (pc' := 54) X3 hx (hb hby at_52) rfl rfl ?_
      obtain ⟨cq5, kq5, q5a, q5b, q5c⟩ := isOf hZ rfl c3_0
      obtain ⟨_, _, ⟨T5, L5, k5, n5⟩, -, X5, ⟨Lc5, hQ5, l5, y5, z5⟩, st5⟩ := X3.virtualBack hx (y := (⟨"com/example/ostracon/ostracon/LastValues", "add", "(JI)J"⟩ : MethodName)) (z := (⟨"com/example/ostracon/ostracon/LastValues", "add", "(JI)J"⟩ : MethodName)) hown (mvT hZ (hw _ (List.mem_of_getElem? (i := 13) rfl))) (mvT hZ (hw _ (List.mem_of_getElem? (i := 14) rfl))) (notFace_of_selects (args := #[]) (mvT hZ (hw _ (List.mem_of_getElem? (i := 16) rfl)))) (mvT hZ (hw _ (List.mem_of_getElem? (i := 16) rfl))) (mvT hZ (hw _ (List.mem_of_getElem? (i := 15) rfl))) (by decide) (backOf (W := 0) (rmadd1_101 l Z a0 hw [] b1 x1 b_2 k_2 x0 T3.heap n0 Z3 c3_0 c3_1 c3_2 c3_3 c3_4 g_b1 g_b_2 ne2_0) hZ (hw _ (List.mem_of_getElem? (i := 17) rfl)) (hw _ (List.mem_of_getElem? (i := 3) rfl)) (by decide) (by decide)) q5a q5c (g := (mkF m 54 #[.val (.long x0), .second, .val (.long x1), .second, .val (.long x2), .second, .val (.long x3), .second, .val (.long x4), .second, .val (.int x5), .val (.int ad), .val (.int (1 : Int32)), .val (.ref b1), .val (.long x0), .second] [(.int (1 : Int32)), (.long x1), (.ref b1)])) rfl (by rw [hml]; rfl) (Steps.refl _) (argsL := [(.long x1), (.int (1 : Int32))]) (rest := []) (lenOf pd_2 rfl) rfl (by show 2 * 0 + _ ≤ _; exact Nat.le_of_eq rfl) (hb hby at_54) (fun _ _ => ⟨rfl, rfl, (by decide : 2 + 0 ≤ _), (by decide : 4 + 0 ≤ _)⟩)
      dsimp only [Pt.U, Pt.locs, Pt.cells, Pt.slots] at X5 l5 y5 z5 st5 hQ5
      subst l5 y5 z5
      obtain ⟨rfl, N5q, K5q, c5_0, c5_1, c5_2, c5_3, c5_4⟩ := hQ5
      have N5 := Fr.app N3 N5q
      have f5_0 := c3_0.keep K5q
      have K5 : Keep h0 T5.heap [] := K3.trans K5q (allS (Or.inr sz_b1) (allS (Or.inr sz_b_2) all0))
      have Z5 : n0 ≤ T5.heap.size := Nat.le_trans Z0 K5.1
      refine own_Go.of (g' := (mkF m 57 #[.val (.long x0), .second, .val (.long x1), .second, .val (.long x2), .second, .val (.long x3), .second, .val (.long x4), .second, .val (.int x5), .val (.int ad), .val (.int (1 : Int32)), .val (.ref b1), .val (.long x0), .second] [(.long x0)])) (fun t k => st5.trans k) ?_
      refine own_Go.of (g' := (mkF m 58 #[.val (.long x0), .second, .val (.long x1), .second, .val (.long x2), .second, .val (.long x3), .second, .val (.long x4), .second, .val (.int x5), .val (.int ad), .val (.int (1 : Int32)), .val (.ref b1), .val (.long x0), .second] [])) (fun t k => by jvm_step X5.here [X5.here.top, hx, (hb hby at_57), Value.category]; exact k) ?_
      refine og_lloadN (pc' := 59) X5 hx (hb hby at_58) rfl rfl ?_
      refine og_lstore (pc' := 61) (L' := #[.val (.long x0), .second, .val (.long x1), .second, .val (.long x2), .second, .val (.long x3), .second, .val (.long x4), .second, .val (.int x5), .val (.int ad), .val (.int (1 : Int32)), .val (.ref b1), .val (.long x1), .second]) X5 hx (hb hby at_59) rfl rfl ?_
      refine og_iload (pc' := 63) X5 hx (hb hby at_61) rfl rfl ?_
      refine og_iconst (pc' := 64) (n := 3) X5 hx (hb hby at_63) rfl rfl ?_
      by_cases hc64_2 : ad < (3 : Int32)
      · refine og_icmpYes (pc' := 81) X5 hx (hb hby at_64) (tlt hc64_2).1 (by decide) (by decide) ?_
        refine og_iload (pc' := 83) X5 hx (hb hby at_81) rfl rfl ?_
        refine og_iconst (pc' := 84) (n := 4) X5 hx (hb hby at_83) rfl rfl ?_
        refine og_icmpYes (pc' := 101) X5 hx (hb hby at_84) (tlt (own_lt34 hc64_2)).1 (by decide) (by decide) ?_
        refine og_iload (pc' := 103) X5 hx (hb hby at_101) rfl rfl ?_
        refine og_iconst (pc' := 104) (n := 5) X5 hx (hb hby at_103) rfl rfl ?_
        refine og_icmpYes (pc' := 121) X5 hx (hb hby at_104) (tlt (own_lt35 hc64_2)).1 (by decide) (by decide) ?_
        refine og_aload (pc' := 123) X5 hx (hb hby at_121) rfl rfl rfl ?_
        obtain ⟨cq6, kq6, q6a, q6b, q6c⟩ := isOf hZ rfl c5_0
        obtain ⟨_, _, ⟨T6, L6, k6, n6⟩, -, X6, ⟨Lc6, hQ6, l6, y6, z6⟩, st6⟩ := X5.virtualBack hx (y := (⟨"com/example/ostracon/ostracon/LastValues", "newest", "()J"⟩ : MethodName)) (z := (⟨"com/example/ostracon/ostracon/LastValues", "newest", "()J"⟩ : MethodName)) hown (mvT hZ (hw _ (List.mem_of_getElem? (i := 23) rfl))) (mvT hZ (hw _ (List.mem_of_getElem? (i := 24) rfl))) (notFace_of_selects (args := #[]) (mvT hZ (hw _ (List.mem_of_getElem? (i := 26) rfl)))) (mvT hZ (hw _ (List.mem_of_getElem? (i := 26) rfl))) (mvT hZ (hw _ (List.mem_of_getElem? (i := 25) rfl))) (by decide) (backOf (W := 0) (rmnew101 l Z a0 hw [] b1 b_2 k_2 x1 T5.heap n0 Z5 c5_0 c5_1 c5_2 c5_3 c5_4) hZ (hw _ (List.mem_of_getElem? (i := 27) rfl)) (hw _ (List.mem_of_getElem? (i := 3) rfl)) (by decide) (by decide)) q6a q6c (g := (mkF m 123 #[.val (.long x0), .second, .val (.long x1), .second, .val (.long x2), .second, .val (.long x3), .second, .val (.long x4), .second, .val (.int x5), .val (.int ad), .val (.int (1 : Int32)), .val (.ref b1), .val (.long x1), .second] [(.ref b1)])) rfl (by rw [hml]; rfl) (Steps.refl _) (argsL := []) (rest := []) (lenOf pd_3 rfl) rfl (by show 2 * 0 + _ ≤ _; exact Nat.le_of_eq rfl) (hb hby at_123) (fun _ _ => ⟨rfl, rfl, (by decide : 2 + 0 ≤ _), (by decide : 4 + 0 ≤ _)⟩)
        dsimp only [Pt.U, Pt.locs, Pt.cells, Pt.slots] at X6 l6 y6 z6 st6 hQ6
        subst l6 y6 z6
        obtain ⟨rfl, N6q, e6⟩ := hQ6
        have N6 := Fr.app N5 N6q
        refine own_Go.of (g' := (mkF m 126 #[.val (.long x0), .second, .val (.long x1), .second, .val (.long x2), .second, .val (.long x3), .second, .val (.long x4), .second, .val (.int x5), .val (.int ad), .val (.int (1 : Int32)), .val (.ref b1), .val (.long x1), .second] [(.long x1)])) (fun t k => st6.trans k) ?_
        refine og_lload (pc' := 128) X6 hx (hb hby at_126) rfl rfl ?_
        refine og_lcmp (pc' := 129) X6 hx (hb hby at_128) rfl ?_
        refine og_ifNo (pc' := 132) X6 hx (hb hby at_129) ((if0 _ _).trans (teq ((lw_eq _ _).mpr rfl)).2) rfl ?_
        refine og_iconst (pc' := 133) (n := 1) X6 hx (hb hby at_132) rfl rfl ?_
        refine og_goto (pc' := 137) X6 hx (hb hby at_133) (by decide) (by decide) ?_
        obtain ⟨fs, hr, hrun, hended, hW, hsame⟩ := X6.leave (v := some (.int (1 : Int32))) (fun h => by rw [Bd.returns] at h; cases h) (BodyLoose.notSynchronized Bd)
        refine ⟨_, _, retN X6 hx (t := .boolean) Bd.returns (by simp) (hb hby at_137) hr, hrun, hended, some (.int (1 : Int32)), _, rfl, ?_, ⟨_, rfl⟩, hW, hsame.mono (by decide) (by decide)⟩
        show Q0 Z x0 x1 x2 x3 x4 x5 h0 n0 _ T6.heap _
        rw [e6]
        exact ⟨rfl, N6⟩
      · refine og_icmpNo (pc' := 67) X5 hx (hb hby at_64) (flt hc64_2).1 rfl ?_
        refine og_aload (pc' := 69) X5 hx (hb hby at_67) rfl rfl rfl ?_
        refine og_lload (pc' := 71) X5 hx (hb hby at_69) rfl rfl ?_
        refine og_iload (pc' := 73) X5 hx (hb hby at_71) rfl rfl ?_
        obtain ⟨cq7, kq7, q7a, q7b, q7c⟩ := isOf hZ rfl c5_0
        obtain ⟨_, _, ⟨T7, L7, k7, n7⟩, -, X7, ⟨Lc7, hQ7, l7, y7, z7⟩, st7⟩ := X5.virtualBack hx (y := (⟨"com/example/ostracon/ostracon/LastValues", "add", "(JI)J"⟩ : MethodName)) (z := (⟨"com/example/ostracon/ostracon/LastValues", "add", "(JI)J"⟩ : MethodName)) hown (mvT hZ (hw _ (List.mem_of_getElem? (i := 13) rfl))) (mvT hZ (hw _ (List.mem_of_getElem? (i := 14) rfl))) (notFace_of_selects (args := #[]) (mvT hZ (hw _ (List.mem_of_getElem? (i := 16) rfl)))) (mvT hZ (hw _ (List.mem_of_getElem? (i := 16) rfl))) (mvT hZ (hw _ (List.mem_of_getElem? (i := 15) rfl))) (by decide) (backOf (W := 0) (rmadd1_101 l Z a0 hw [] b1 x2 b_2 k_2 x1 T5.heap n0 Z5 c5_0 c5_1 c5_2 c5_3 c5_4 g_b1 g_b_2 ne2_0) hZ (hw _ (List.mem_of_getElem? (i := 17) rfl)) (hw _ (List.mem_of_getElem? (i := 3) rfl)) (by decide) (by decide)) q7a q7c (g := (mkF m 73 #[.val (.long x0), .second, .val (.long x1), .second, .val (.long x2), .second, .val (.long x3), .second, .val (.long x4), .second, .val (.int x5), .val (.int ad), .val (.int (1 : Int32)), .val (.ref b1), .val (.long x1), .second] [(.int (1 : Int32)), (.long x2), (.ref b1)])) rfl (by rw [hml]; rfl) (Steps.refl _) (argsL := [(.long x2), (.int (1 : Int32))]) (rest := []) (lenOf pd_2 rfl) rfl (by show 2 * 0 + _ ≤ _; exact Nat.le_of_eq rfl) (hb hby at_73) (fun _ _ => ⟨rfl, rfl, (by decide : 2 + 0 ≤ _), (by decide : 4 + 0 ≤ _)⟩)
        dsimp only [Pt.U, Pt.locs, Pt.cells, Pt.slots] at X7 l7 y7 z7 st7 hQ7
        subst l7 y7 z7
        obtain ⟨rfl, N7q, K7q, c7_0, c7_1, c7_2, c7_3, c7_4⟩ := hQ7
        have N7 := Fr.app N5 N7q
        have f7_0 := c5_0.keep K7q
        have K7 : Keep h0 T7.heap [] := K5.trans K7q (allS (Or.inr sz_b1) (allS (Or.inr sz_b_2) all0))
        have Z7 : n0 ≤ T7.heap.size := Nat.le_trans Z0 K7.1
        refine own_Go.of (g' := (mkF m 76 #[.val (.long x0), .second, .val (.long x1), .second, .val (.long x2), .second, .val (.long x3), .second, .val (.long x4), .second, .val (.int x5), .val (.int ad), .val (.int (1 : Int32)), .val (.ref b1), .val (.long x1), .second] [(.long x1)])) (fun t k => st7.trans k) ?_
        refine own_Go.of (g' := (mkF m 77 #[.val (.long x0), .second, .val (.long x1), .second, .val (.long x2), .second, .val (.long x3), .second, .val (.long x4), .second, .val (.int x5), .val (.int ad), .val (.int (1 : Int32)), .val (.ref b1), .val (.long x1), .second] [])) (fun t k => by jvm_step X7.here [X7.here.top, hx, (hb hby at_76), Value.category]; exact k) ?_
        refine og_lload (pc' := 79) X7 hx (hb hby at_77) rfl rfl ?_
        refine og_lstore (pc' := 81) (L' := #[.val (.long x0), .second, .val (.long x1), .second, .val (.long x2), .second, .val (.long x3), .second, .val (.long x4), .second, .val (.int x5), .val (.int ad), .val (.int (1 : Int32)), .val (.ref b1), .val (.long x2), .second]) X7 hx (hb hby at_79) rfl rfl ?_
        refine og_iload (pc' := 83) X7 hx (hb hby at_81) rfl rfl ?_
        refine og_iconst (pc' := 84) (n := 4) X7 hx (hb hby at_83) rfl rfl ?_
        by_cases hc84_3 : ad < (4 : Int32)
        · refine og_icmpYes (pc' := 101) X7 hx (hb hby at_84) (tlt hc84_3).1 (by decide) (by decide) ?_
          refine og_iload (pc' := 103) X7 hx (hb hby at_101) rfl rfl ?_
          refine og_iconst (pc' := 104) (n := 5) X7 hx (hb hby at_103) rfl rfl ?_
          refine og_icmpYes (pc' := 121) X7 hx (hb hby at_104) (tlt (own_lt45 hc84_3)).1 (by decide) (by decide) ?_
          refine og_aload (pc' := 123) X7 hx (hb hby at_121) rfl rfl rfl ?_
          obtain ⟨cq8, kq8, q8a, q8b, q8c⟩ := isOf hZ rfl c7_0
          obtain ⟨_, _, ⟨T8, L8, k8, n8⟩, -, X8, ⟨Lc8, hQ8, l8, y8, z8⟩, st8⟩ := X7.virtualBack hx (y := (⟨"com/example/ostracon/ostracon/LastValues", "newest", "()J"⟩ : MethodName)) (z := (⟨"com/example/ostracon/ostracon/LastValues", "newest", "()J"⟩ : MethodName)) hown (mvT hZ (hw _ (List.mem_of_getElem? (i := 23) rfl))) (mvT hZ (hw _ (List.mem_of_getElem? (i := 24) rfl))) (notFace_of_selects (args := #[]) (mvT hZ (hw _ (List.mem_of_getElem? (i := 26) rfl)))) (mvT hZ (hw _ (List.mem_of_getElem? (i := 26) rfl))) (mvT hZ (hw _ (List.mem_of_getElem? (i := 25) rfl))) (by decide) (backOf (W := 0) (rmnew101 l Z a0 hw [] b1 b_2 k_2 x2 T7.heap n0 Z7 c7_0 c7_1 c7_2 c7_3 c7_4) hZ (hw _ (List.mem_of_getElem? (i := 27) rfl)) (hw _ (List.mem_of_getElem? (i := 3) rfl)) (by decide) (by decide)) q8a q8c (g := (mkF m 123 #[.val (.long x0), .second, .val (.long x1), .second, .val (.long x2), .second, .val (.long x3), .second, .val (.long x4), .second, .val (.int x5), .val (.int ad), .val (.int (1 : Int32)), .val (.ref b1), .val (.long x2), .second] [(.ref b1)])) rfl (by rw [hml]; rfl) (Steps.refl _) (argsL := []) (rest := []) (lenOf pd_3 rfl) rfl (by show 2 * 0 + _ ≤ _; exact Nat.le_of_eq rfl) (hb hby at_123) (fun _ _ => ⟨rfl, rfl, (by decide : 2 + 0 ≤ _), (by decide : 4 + 0 ≤ _)⟩)
          dsimp only [Pt.U, Pt.locs, Pt.cells, Pt.slots] at X8 l8 y8 z8 st8 hQ8
          subst l8 y8 z8
          obtain ⟨rfl, N8q, e8⟩ := hQ8
          have N8 := Fr.app N7 N8q
          refine own_Go.of (g' := (mkF m 126 #[.val (.long x0), .second, .val (.long x1), .second, .val (.long x2), .second, .val (.long x3), .second, .val (.long x4), .second, .val (.int x5), .val (.int ad), .val (.int (1 : Int32)), .val (.ref b1), .val (.long x2), .second] [(.long x2)])) (fun t k => st8.trans k) ?_
          refine og_lload (pc' := 128) X8 hx (hb hby at_126) rfl rfl ?_
          refine og_lcmp (pc' := 129) X8 hx (hb hby at_128) rfl ?_
          refine og_ifNo (pc' := 132) X8 hx (hb hby at_129) ((if0 _ _).trans (teq ((lw_eq _ _).mpr rfl)).2) rfl ?_
          refine og_iconst (pc' := 133) (n := 1) X8 hx (hb hby at_132) rfl rfl ?_
          refine og_goto (pc' := 137) X8 hx (hb hby at_133) (by decide) (by decide) ?_
          obtain ⟨fs, hr, hrun, hended, hW, hsame⟩ := X8.leave (v := some (.int (1 : Int32))) (fun h => by rw [Bd.returns] at h; cases h) (BodyLoose.notSynchronized Bd)
          refine ⟨_, _, retN X8 hx (t := .boolean) Bd.returns (by simp) (hb hby at_137) hr, hrun, hended, some (.int (1 : Int32)), _, rfl, ?_, ⟨_, rfl⟩, hW, hsame.mono (by decide) (by decide)⟩
          show Q0 Z x0 x1 x2 x3 x4 x5 h0 n0 _ T8.heap _
          rw [e8]
          exact ⟨rfl, N8⟩
        · refine og_icmpNo (pc' := 87) X7 hx (hb hby at_84) (flt hc84_3).1 rfl ?_
          refine og_aload (pc' := 89) X7 hx (hb hby at_87) rfl rfl rfl ?_
          refine og_lload (pc' := 91) X7 hx (hb hby at_89) rfl rfl ?_
          refine og_iload (pc' := 93) X7 hx (hb hby at_91) rfl rfl ?_
          obtain ⟨cq9, kq9, q9a, q9b, q9c⟩ := isOf hZ rfl c7_0
          obtain ⟨_, _, ⟨T9, L9, k9, n9⟩, -, X9, ⟨Lc9, hQ9, l9, y9, z9⟩, st9⟩ := X7.virtualBack hx (y := (⟨"com/example/ostracon/ostracon/LastValues", "add", "(JI)J"⟩ : MethodName)) (z := (⟨"com/example/ostracon/ostracon/LastValues", "add", "(JI)J"⟩ : MethodName)) hown (mvT hZ (hw _ (List.mem_of_getElem? (i := 13) rfl))) (mvT hZ (hw _ (List.mem_of_getElem? (i := 14) rfl))) (notFace_of_selects (args := #[]) (mvT hZ (hw _ (List.mem_of_getElem? (i := 16) rfl)))) (mvT hZ (hw _ (List.mem_of_getElem? (i := 16) rfl))) (mvT hZ (hw _ (List.mem_of_getElem? (i := 15) rfl))) (by decide) (backOf (W := 0) (rmadd1_101 l Z a0 hw [] b1 x3 b_2 k_2 x2 T7.heap n0 Z7 c7_0 c7_1 c7_2 c7_3 c7_4 g_b1 g_b_2 ne2_0) hZ (hw _ (List.mem_of_getElem? (i := 17) rfl)) (hw _ (List.mem_of_getElem? (i := 3) rfl)) (by decide) (by decide)) q9a q9c (g := (mkF m 93 #[.val (.long x0), .second, .val (.long x1), .second, .val (.long x2), .second, .val (.long x3), .second, .val (.long x4), .second, .val (.int x5), .val (.int ad), .val (.int (1 : Int32)), .val (.ref b1), .val (.long x2), .second] [(.int (1 : Int32)), (.long x3), (.ref b1)])) rfl (by rw [hml]; rfl) (Steps.refl _) (argsL := [(.long x3), (.int (1 : Int32))]) (rest := []) (lenOf pd_2 rfl) rfl (by show 2 * 0 + _ ≤ _; exact Nat.le_of_eq rfl) (hb hby at_93) (fun _ _ => ⟨rfl, rfl, (by decide : 2 + 0 ≤ _), (by decide : 4 + 0 ≤ _)⟩)
          dsimp only [Pt.U, Pt.locs, Pt.cells, Pt.slots] at X9 l9 y9 z9 st9 hQ9
          subst l9 y9 z9
          obtain ⟨rfl, N9q, K9q, c9_0, c9_1, c9_2, c9_3, c9_4⟩ := hQ9
          have N9 := Fr.app N7 N9q
          have f9_0 := c7_0.keep K9q
          have K9 : Keep h0 T9.heap [] := K7.trans K9q (allS (Or.inr sz_b1) (allS (Or.inr sz_b_2) all0))
          have Z9 : n0 ≤ T9.heap.size := Nat.le_trans Z0 K9.1
          refine own_Go.of (g' := (mkF m 96 #[.val (.long x0), .second, .val (.long x1), .second, .val (.long x2), .second, .val (.long x3), .second, .val (.long x4), .second, .val (.int x5), .val (.int ad), .val (.int (1 : Int32)), .val (.ref b1), .val (.long x2), .second] [(.long x2)])) (fun t k => st9.trans k) ?_
          refine own_Go.of (g' := (mkF m 97 #[.val (.long x0), .second, .val (.long x1), .second, .val (.long x2), .second, .val (.long x3), .second, .val (.long x4), .second, .val (.int x5), .val (.int ad), .val (.int (1 : Int32)), .val (.ref b1), .val (.long x2), .second] [])) (fun t k => by jvm_step X9.here [X9.here.top, hx, (hb hby at_96), Value.category]; exact k) ?_
          refine og_lload (pc' := 99) X9 hx (hb hby at_97) rfl rfl ?_
          refine og_lstore (pc' := 101) (L' := #[.val (.long x0), .second, .val (.long x1), .second, .val (.long x2), .second, .val (.long x3), .second, .val (.long x4), .second, .val (.int x5), .val (.int ad), .val (.int (1 : Int32)), .val (.ref b1), .val (.long x3), .second]) X9 hx (hb hby at_99) rfl rfl ?_
          refine og_iload (pc' := 103) X9 hx (hb hby at_101) rfl rfl ?_
          refine og_iconst (pc' := 104) (n := 5) X9 hx (hb hby at_103) rfl rfl ?_
          by_cases hc104_4 : ad < (5 : Int32)
          · refine og_icmpYes (pc' := 121) X9 hx (hb hby at_104) (tlt hc104_4).1 (by decide) (by decide) ?_
            refine og_aload (pc' := 123) X9 hx (hb hby at_121) rfl rfl rfl ?_
            obtain ⟨cq10, kq10, q10a, q10b, q10c⟩ := isOf hZ rfl c9_0
            obtain ⟨_, _, ⟨T10, L10, k10, n10⟩, -, X10, ⟨Lc10, hQ10, l10, y10, z10⟩, st10⟩ := X9.virtualBack hx (y := (⟨"com/example/ostracon/ostracon/LastValues", "newest", "()J"⟩ : MethodName)) (z := (⟨"com/example/ostracon/ostracon/LastValues", "newest", "()J"⟩ : MethodName)) hown (mvT hZ (hw _ (List.mem_of_getElem? (i := 23) rfl))) (mvT hZ (hw _ (List.mem_of_getElem? (i := 24) rfl))) (notFace_of_selects (args := #[]) (mvT hZ (hw _ (List.mem_of_getElem? (i := 26) rfl)))) (mvT hZ (hw _ (List.mem_of_getElem? (i := 26) rfl))) (mvT hZ (hw _ (List.mem_of_getElem? (i := 25) rfl))) (by decide) (backOf (W := 0) (rmnew101 l Z a0 hw [] b1 b_2 k_2 x3 T9.heap n0 Z9 c9_0 c9_1 c9_2 c9_3 c9_4) hZ (hw _ (List.mem_of_getElem? (i := 27) rfl)) (hw _ (List.mem_of_getElem? (i := 3) rfl)) (by decide) (by decide)) q10a q10c (g := (mkF m 123 #[.val (.long x0), .second, .val (.long x1), .second, .val (.long x2), .second, .val (.long x3), .second, .val (.long x4), .second, .val (.int x5), .val (.int ad), .val (.int (1 : Int32)), .val (.ref b1), .val (.long x3), .second] [(.ref b1)])) rfl (by rw [hml]; rfl) (Steps.refl _) (argsL := []) (rest := []) (lenOf pd_3 rfl) rfl (by show 2 * 0 + _ ≤ _; exact Nat.le_of_eq rfl) (hb hby at_123) (fun _ _ => ⟨rfl, rfl, (by decide : 2 + 0 ≤ _), (by decide : 4 + 0 ≤ _)⟩)
            dsimp only [Pt.U, Pt.locs, Pt.cells, Pt.slots] at X10 l10 y10 z10 st10 hQ10
            subst l10 y10 z10
            obtain ⟨rfl, N10q, e10⟩ := hQ10
            have N10 := Fr.app N9 N10q
            refine own_Go.of (g' := (mkF m 126 #[.val (.long x0), .second, .val (.long x1), .second, .val (.long x2), .second, .val (.long x3), .second, .val (.long x4), .second, .val (.int x5), .val (.int ad), .val (.int (1 : Int32)), .val (.ref b1), .val (.long x3), .second] [(.long x3)])) (fun t k => st10.trans k) ?_
            refine og_lload (pc' := 128) X10 hx (hb hby at_126) rfl rfl ?_
            refine og_lcmp (pc' := 129) X10 hx (hb hby at_128) rfl ?_
            refine og_ifNo (pc' := 132) X10 hx (hb hby at_129) ((if0 _ _).trans (teq ((lw_eq _ _).mpr rfl)).2) rfl ?_
            refine og_iconst (pc' := 133) (n := 1) X10 hx (hb hby at_132) rfl rfl ?_
            refine og_goto (pc' := 137) X10 hx (hb hby at_133) (by decide) (by decide) ?_
            obtain ⟨fs, hr, hrun, hended, hW, hsame⟩ := X10.leave (v := some (.int (1 : Int32))) (fun h => by rw [Bd.returns] at h; cases h) (BodyLoose.notSynchronized Bd)
            refine ⟨_, _, retN X10 hx (t := .boolean) Bd.returns (by simp) (hb hby at_137) hr, hrun, hended, some (.int (1 : Int32)), _, rfl, ?_, ⟨_, rfl⟩, hW, hsame.mono (by decide) (by decide)⟩
            show Q0 Z x0 x1 x2 x3 x4 x5 h0 n0 _ T10.heap _
            rw [e10]
            exact ⟨rfl, N10⟩
          · refine og_icmpNo (pc' := 107) X9 hx (hb hby at_104) (flt hc104_4).1 rfl ?_
            refine og_aload (pc' := 109) X9 hx (hb hby at_107) rfl rfl rfl ?_
            refine og_lload (pc' := 111) X9 hx (hb hby at_109) rfl rfl ?_
            refine og_iload (pc' := 113) X9 hx (hb hby at_111) rfl rfl ?_
            obtain ⟨cq11, kq11, q11a, q11b, q11c⟩ := isOf hZ rfl c9_0
            obtain ⟨_, _, ⟨T11, L11, k11, n11⟩, -, X11, ⟨Lc11, hQ11, l11, y11, z11⟩, st11⟩ := X9.virtualBack hx (y := (⟨"com/example/ostracon/ostracon/LastValues", "add", "(JI)J"⟩ : MethodName)) (z := (⟨"com/example/ostracon/ostracon/LastValues", "add", "(JI)J"⟩ : MethodName)) hown (mvT hZ (hw _ (List.mem_of_getElem? (i := 13) rfl))) (mvT hZ (hw _ (List.mem_of_getElem? (i := 14) rfl))) (notFace_of_selects (args := #[]) (mvT hZ (hw _ (List.mem_of_getElem? (i := 16) rfl)))) (mvT hZ (hw _ (List.mem_of_getElem? (i := 16) rfl))) (mvT hZ (hw _ (List.mem_of_getElem? (i := 15) rfl))) (by decide) (backOf (W := 0) (rmadd1_101 l Z a0 hw [] b1 x4 b_2 k_2 x3 T9.heap n0 Z9 c9_0 c9_1 c9_2 c9_3 c9_4 g_b1 g_b_2 ne2_0) hZ (hw _ (List.mem_of_getElem? (i := 17) rfl)) (hw _ (List.mem_of_getElem? (i := 3) rfl)) (by decide) (by decide)) q11a q11c (g := (mkF m 113 #[.val (.long x0), .second, .val (.long x1), .second, .val (.long x2), .second, .val (.long x3), .second, .val (.long x4), .second, .val (.int x5), .val (.int ad), .val (.int (1 : Int32)), .val (.ref b1), .val (.long x3), .second] [(.int (1 : Int32)), (.long x4), (.ref b1)])) rfl (by rw [hml]; rfl) (Steps.refl _) (argsL := [(.long x4), (.int (1 : Int32))]) (rest := []) (lenOf pd_2 rfl) rfl (by show 2 * 0 + _ ≤ _; exact Nat.le_of_eq rfl) (hb hby at_113) (fun _ _ => ⟨rfl, rfl, (by decide : 2 + 0 ≤ _), (by decide : 4 + 0 ≤ _)⟩)
            dsimp only [Pt.U, Pt.locs, Pt.cells, Pt.slots] at X11 l11 y11 z11 st11 hQ11
            subst l11 y11 z11
            obtain ⟨rfl, N11q, K11q, c11_0, c11_1, c11_2, c11_3, c11_4⟩ := hQ11
            have N11 := Fr.app N9 N11q
            have f11_0 := c9_0.keep K11q
            have K11 : Keep h0 T11.heap [] := K9.trans K11q (allS (Or.inr sz_b1) (allS (Or.inr sz_b_2) all0))
            have Z11 : n0 ≤ T11.heap.size := Nat.le_trans Z0 K11.1
            refine own_Go.of (g' := (mkF m 116 #[.val (.long x0), .second, .val (.long x1), .second, .val (.long x2), .second, .val (.long x3), .second, .val (.long x4), .second, .val (.int x5), .val (.int ad), .val (.int (1 : Int32)), .val (.ref b1), .val (.long x3), .second] [(.long x3)])) (fun t k => st11.trans k) ?_
            refine own_Go.of (g' := (mkF m 117 #[.val (.long x0), .second, .val (.long x1), .second, .val (.long x2), .second, .val (.long x3), .second, .val (.long x4), .second, .val (.int x5), .val (.int ad), .val (.int (1 : Int32)), .val (.ref b1), .val (.long x3), .second] [])) (fun t k => by jvm_step X11.here [X11.here.top, hx, (hb hby at_116), Value.category]; exact k) ?_
            refine og_lload (pc' := 119) X11 hx (hb hby at_117) rfl rfl ?_
            refine og_lstore (pc' := 121) (L' := #[.val (.long x0), .second, .val (.long x1), .second, .val (.long x2), .second, .val (.long x3), .second, .val (.long x4), .second, .val (.int x5), .val (.int ad), .val (.int (1 : Int32)), .val (.ref b1), .val (.long x4), .second]) X11 hx (hb hby at_119) rfl rfl ?_
            refine og_aload (pc' := 123) X11 hx (hb hby at_121) rfl rfl rfl ?_
            obtain ⟨cq12, kq12, q12a, q12b, q12c⟩ := isOf hZ rfl c11_0
            obtain ⟨_, _, ⟨T12, L12, k12, n12⟩, -, X12, ⟨Lc12, hQ12, l12, y12, z12⟩, st12⟩ := X11.virtualBack hx (y := (⟨"com/example/ostracon/ostracon/LastValues", "newest", "()J"⟩ : MethodName)) (z := (⟨"com/example/ostracon/ostracon/LastValues", "newest", "()J"⟩ : MethodName)) hown (mvT hZ (hw _ (List.mem_of_getElem? (i := 23) rfl))) (mvT hZ (hw _ (List.mem_of_getElem? (i := 24) rfl))) (notFace_of_selects (args := #[]) (mvT hZ (hw _ (List.mem_of_getElem? (i := 26) rfl)))) (mvT hZ (hw _ (List.mem_of_getElem? (i := 26) rfl))) (mvT hZ (hw _ (List.mem_of_getElem? (i := 25) rfl))) (by decide) (backOf (W := 0) (rmnew101 l Z a0 hw [] b1 b_2 k_2 x4 T11.heap n0 Z11 c11_0 c11_1 c11_2 c11_3 c11_4) hZ (hw _ (List.mem_of_getElem? (i := 27) rfl)) (hw _ (List.mem_of_getElem? (i := 3) rfl)) (by decide) (by decide)) q12a q12c (g := (mkF m 123 #[.val (.long x0), .second, .val (.long x1), .second, .val (.long x2), .second, .val (.long x3), .second, .val (.long x4), .second, .val (.int x5), .val (.int ad), .val (.int (1 : Int32)), .val (.ref b1), .val (.long x4), .second] [(.ref b1)])) rfl (by rw [hml]; rfl) (Steps.refl _) (argsL := []) (rest := []) (lenOf pd_3 rfl) rfl (by show 2 * 0 + _ ≤ _; exact Nat.le_of_eq rfl) (hb hby at_123) (fun _ _ => ⟨rfl, rfl, (by decide : 2 + 0 ≤ _), (by decide : 4 + 0 ≤ _)⟩)
            dsimp only [Pt.U, Pt.locs, Pt.cells, Pt.slots] at X12 l12 y12 z12 st12 hQ12
            subst l12 y12 z12
            obtain ⟨rfl, N12q, e12⟩ := hQ12
            have N12 := Fr.app N11 N12q
            refine own_Go.of (g' := (mkF m 126 #[.val (.long x0), .second, .val (.long x1), .second, .val (.long x2), .second, .val (.long x3), .second, .val (.long x4), .second, .val (.int x5), .val (.int ad), .val (.int (1 : Int32)), .val (.ref b1), .val (.long x4), .second] [(.long x4)])) (fun t k => st12.trans k) ?_
            refine og_lload (pc' := 128) X12 hx (hb hby at_126) rfl rfl ?_
            refine og_lcmp (pc' := 129) X12 hx (hb hby at_128) rfl ?_
            refine og_ifNo (pc' := 132) X12 hx (hb hby at_129) ((if0 _ _).trans (teq ((lw_eq _ _).mpr rfl)).2) rfl ?_
            refine og_iconst (pc' := 133) (n := 1) X12 hx (hb hby at_132) rfl rfl ?_
            refine og_goto (pc' := 137) X12 hx (hb hby at_133) (by decide) (by decide) ?_
            obtain ⟨fs, hr, hrun, hended, hW, hsame⟩ := X12.leave (v := some (.int (1 : Int32))) (fun h => by rw [Bd.returns] at h; cases h) (BodyLoose.notSynchronized Bd)
            refine ⟨_, _, retN X12 hx (t := .boolean) Bd.returns (by simp) (hb hby at_137) hr, hrun, hended, some (.int (1 : Int32)), _, rfl, ?_, ⟨_, rfl⟩, hW, hsame.mono (by decide) (by decide)⟩
            show Q0 Z x0 x1 x2 x3 x4 x5 h0 n0 _ T12.heap _
            rw [e12]
            exact ⟨rfl, N12⟩
  · rw [e]
    obtain ⟨T13, h13, X13, e13, E13, A13, D13, -, st13⟩ := newO X0 hx hZ hown (hw _ (List.mem_of_getElem? (i := 1) rfl)) (hw _ (List.mem_of_getElem? (i := 2) rfl)) (hw _ (List.mem_of_getElem? (i := 3) rfl)) e0 (g := (mkF m 22 #[.val (.long x0), .second, .val (.long x1), .second, .val (.long x2), .second, .val (.long x3), .second, .val (.long x4), .second, .val (.int x5), .val (.int ad), .val (.int (2 : Int32)), .unset, .unset, .unset] [])) rfl (hb hby at_22) (by decide) (by decide)
    obtain ⟨b13, g13⟩ : ∃ z, z = h0.size := ⟨_, rfl⟩
    rw [← g13] at A13 D13 st13
    have g_b13 : n0 ≤ b13 := Nat.le_trans Z0 (Nat.le_of_eq g13.symm)
    have sz_b13 : h0.size ≤ b13 := Nat.le_trans (Keep.refl h0 []).1 (Nat.le_of_eq g13.symm)
    have F13_values : Fld Z h13 b13 "com/example/ostracon/ostracon/LastValues" "values" "[J" .null := D13 (Or.inl (hw _ (List.mem_of_getElem? (i := 12) rfl))) (ty := (.array .long)) (by decide)
    have F13_count : Fld Z h13 b13 "com/example/ostracon/ostracon/LastValues" "count" "I" (.int (0 : Int32)) := D13 (Or.inl (hw _ (List.mem_of_getElem? (i := 19) rfl))) (ty := .int) (by decide)
    have F13_start : Fld Z h13 b13 "com/example/ostracon/ostracon/LastValues" "start" "I" (.int (0 : Int32)) := D13 (Or.inl (hw _ (List.mem_of_getElem? (i := 21) rfl))) (ty := .int) (by decide)
    have K13 : Keep h0 h13 [] := (Keep.refl h0 []).ext E13
    have Z13 : n0 ≤ h13.size := Nat.le_trans Z0 K13.1
    refine own_Go.of (g' := (mkF m 25 #[.val (.long x0), .second, .val (.long x1), .second, .val (.long x2), .second, .val (.long x3), .second, .val (.long x4), .second, .val (.int x5), .val (.int ad), .val (.int (2 : Int32)), .unset, .unset, .unset] [(.ref b13)])) (fun t k => st13 _ k) ?_
    refine og_dup (pc' := 26) X13 hx (hb hby at_25) rfl rfl ?_
    obtain ⟨_, _, ⟨T14, L14, k14, n14⟩, -, X14, ⟨Lc14, hQ14, l14, y14, z14⟩, st14⟩ := X13.specialBack hx (y := (⟨"com/example/ostracon/ostracon/LastValues", "<init>", "()V"⟩ : MethodName)) rfl hown (mvT hZ (hw _ (List.mem_of_getElem? (i := 4) rfl))) (mvT hZ (hw _ (List.mem_of_getElem? (i := 5) rfl))) (mvT hZ (hw _ (List.mem_of_getElem? (i := 6) rfl))) (by decide) (backOf (W := 1) (rmini l Z a0 hw [] b13 .null h13 n0 Z13 A13 F13_values F13_start F13_count g_b13) hZ (hw _ (List.mem_of_getElem? (i := 6) rfl)) (hw _ (List.mem_of_getElem? (i := 3) rfl)) (by decide) (by decide)) (g := (mkF m 26 #[.val (.long x0), .second, .val (.long x1), .second, .val (.long x2), .second, .val (.long x3), .second, .val (.long x4), .second, .val (.int x5), .val (.int ad), .val (.int (2 : Int32)), .unset, .unset, .unset] [(.ref b13), (.ref b13)])) rfl (by rw [hml]; rfl) (Steps.refl _) (a := b13) (argsL := []) (rest := [(.ref b13)]) (lenOf pd_1 rfl) rfl (by show 2 * 0 + _ ≤ _; exact Nat.le_of_eq rfl) (hb hby at_26) (fun _ _ => ⟨rfl, e13, (by decide : 1 + 1 ≤ _), (by decide : 3 + 1 ≤ _)⟩)
    dsimp only [Pt.U, Pt.locs, Pt.cells, Pt.slots] at X14 l14 y14 z14 st14 hQ14
    subst l14 y14 z14
    obtain ⟨b_14, k_14, rfl, N14q, K14q, zz14_b, c14_0, c14_1, c14_2, c14_3, c14_4⟩ := hQ14
    have N14 := Fr.app N0 N14q
    have g_b_14 : n0 ≤ b_14 := Nat.le_trans Z13 zz14_b
    have sz_b_14 : h0.size ≤ b_14 := Nat.le_trans K13.1 zz14_b
    have ne14_0 : b13 ≠ b_14 := Nat.ne_of_lt (Nat.lt_of_lt_of_le A13.lt zz14_b)
    have f14_0 := A13.keep K14q
    have K14 : Keep h0 T14.heap [] := K13.trans K14q (allS (Or.inr sz_b13) all0)
    have Z14 : n0 ≤ T14.heap.size := Nat.le_trans Z0 K14.1
    refine own_Go.of (g' := (mkF m 29 #[.val (.long x0), .second, .val (.long x1), .second, .val (.long x2), .second, .val (.long x3), .second, .val (.long x4), .second, .val (.int x5), .val (.int ad), .val (.int (2 : Int32)), .unset, .unset, .unset] [(.ref b13)])) (fun t k => st14.trans k) ?_
    refine og_astore (pc' := 31) (L' := #[.val (.long x0), .second, .val (.long x1), .second, .val (.long x2), .second, .val (.long x3), .second, .val (.long x4), .second, .val (.int x5), .val (.int ad), .val (.int (2 : Int32)), .val (.ref b13), .unset, .unset]) X14 hx (hb hby at_29) rfl rfl rfl ?_
    refine og_lloadN (pc' := 32) X14 hx (hb hby at_31) rfl rfl ?_
    refine og_lstore (pc' := 34) (L' := #[.val (.long x0), .second, .val (.long x1), .second, .val (.long x2), .second, .val (.long x3), .second, .val (.long x4), .second, .val (.int x5), .val (.int ad), .val (.int (2 : Int32)), .val (.ref b13), .val (.long x0), .second]) X14 hx (hb hby at_32) rfl rfl ?_
    refine og_aload (pc' := 36) X14 hx (hb hby at_34) rfl rfl rfl ?_
    refine og_lloadN (pc' := 37) X14 hx (hb hby at_36) rfl rfl ?_
    refine og_iload (pc' := 39) X14 hx (hb hby at_37) rfl rfl ?_
    obtain ⟨cq15, kq15, q15a, q15b, q15c⟩ := isOf hZ rfl c14_0
    obtain ⟨_, _, ⟨T15, L15, k15, n15⟩, -, X15, ⟨Lc15, hQ15, l15, y15, z15⟩, st15⟩ := X14.virtualBack hx (y := (⟨"com/example/ostracon/ostracon/LastValues", "add", "(JI)J"⟩ : MethodName)) (z := (⟨"com/example/ostracon/ostracon/LastValues", "add", "(JI)J"⟩ : MethodName)) hown (mvT hZ (hw _ (List.mem_of_getElem? (i := 13) rfl))) (mvT hZ (hw _ (List.mem_of_getElem? (i := 14) rfl))) (notFace_of_selects (args := #[]) (mvT hZ (hw _ (List.mem_of_getElem? (i := 16) rfl)))) (mvT hZ (hw _ (List.mem_of_getElem? (i := 16) rfl))) (mvT hZ (hw _ (List.mem_of_getElem? (i := 15) rfl))) (by decide) (backOf (W := 0) (rmadd2_100 l Z a0 hw [] b13 x0 b_14 k_14 (0 : Int64) T14.heap n0 Z14 c14_0 c14_1 c14_2 c14_3 c14_4 g_b13 g_b_14 ne14_0) hZ (hw _ (List.mem_of_getElem? (i := 17) rfl)) (hw _ (List.mem_of_getElem? (i := 3) rfl)) (by decide) (by decide)) q15a q15c (g := (mkF m 39 #[.val (.long x0), .second, .val (.long x1), .second, .val (.long x2), .second, .val (.long x3), .second, .val (.long x4), .second, .val (.int x5), .val (.int ad), .val (.int (2 : Int32)), .val (.ref b13), .val (.long x0), .second] [(.int (2 : Int32)), (.long x0), (.ref b13)])) rfl (by rw [hml]; rfl) (Steps.refl _) (argsL := [(.long x0), (.int (2 : Int32))]) (rest := []) (lenOf pd_2 rfl) rfl (by show 2 * 0 + _ ≤ _; exact Nat.le_of_eq rfl) (hb hby at_39) (fun _ _ => ⟨rfl, rfl, (by decide : 2 + 0 ≤ _), (by decide : 4 + 0 ≤ _)⟩)
    dsimp only [Pt.U, Pt.locs, Pt.cells, Pt.slots] at X15 l15 y15 z15 st15 hQ15
    subst l15 y15 z15
    obtain ⟨rfl, N15q, K15q, c15_0, c15_1, c15_2, c15_3, c15_4⟩ := hQ15
    have N15 := Fr.app N14 N15q
    have f15_0 := c14_0.keep K15q
    have K15 : Keep h0 T15.heap [] := K14.trans K15q (allS (Or.inr sz_b13) (allS (Or.inr sz_b_14) all0))
    have Z15 : n0 ≤ T15.heap.size := Nat.le_trans Z0 K15.1
    refine own_Go.of (g' := (mkF m 42 #[.val (.long x0), .second, .val (.long x1), .second, .val (.long x2), .second, .val (.long x3), .second, .val (.long x4), .second, .val (.int x5), .val (.int ad), .val (.int (2 : Int32)), .val (.ref b13), .val (.long x0), .second] [(.long (-1 : Int64))])) (fun t k => st15.trans k) ?_
    refine own_Go.of (g' := (mkF m 43 #[.val (.long x0), .second, .val (.long x1), .second, .val (.long x2), .second, .val (.long x3), .second, .val (.long x4), .second, .val (.int x5), .val (.int ad), .val (.int (2 : Int32)), .val (.ref b13), .val (.long x0), .second] [])) (fun t k => by jvm_step X15.here [X15.here.top, hx, (hb hby at_42), Value.category]; exact k) ?_
    refine og_iload (pc' := 45) X15 hx (hb hby at_43) rfl rfl ?_
    refine og_iconst (pc' := 46) (n := 2) X15 hx (hb hby at_45) rfl rfl ?_
    by_cases hc46_5 : ad < (2 : Int32)
    · refine og_icmpYes (pc' := 61) X15 hx (hb hby at_46) (tlt hc46_5).1 (by decide) (by decide) ?_
      refine og_iload (pc' := 63) X15 hx (hb hby at_61) rfl rfl ?_
      refine og_iconst (pc' := 64) (n := 3) X15 hx (hb hby at_63) rfl rfl ?_
      refine og_icmpYes (pc' := 81) X15 hx (hb hby at_64) (tlt (own_lt23 hc46_5)).1 (by decide) (by decide) ?_
      refine og_iload (pc' := 83) X15 hx (hb hby at_81) rfl rfl ?_
      refine og_iconst (pc' := 84) (n := 4) X15 hx (hb hby at_83) rfl rfl ?_
      refine og_icmpYes (pc' := 101) X15 hx (hb hby at_84) (tlt (own_lt24 hc46_5)).1 (by decide) (by decide) ?_
      refine og_iload (pc' := 103) X15 hx (hb hby at_101) rfl rfl ?_
      refine og_iconst (pc' := 104) (n := 5) X15 hx (hb hby at_103) rfl rfl ?_
      refine og_icmpYes (pc' := 121) X15 hx (hb hby at_104) (tlt (own_lt25 hc46_5)).1 (by decide) (by decide) ?_
      refine og_aload (pc' := 123) X15 hx (hb hby at_121) rfl rfl rfl ?_
      obtain ⟨cq16, kq16, q16a, q16b, q16c⟩ := isOf hZ rfl c15_0
      obtain ⟨_, _, ⟨T16, L16, k16, n16⟩, -, X16, ⟨Lc16, hQ16, l16, y16, z16⟩, st16⟩ := X15.virtualBack hx (y := (⟨"com/example/ostracon/ostracon/LastValues", "newest", "()J"⟩ : MethodName)) (z := (⟨"com/example/ostracon/ostracon/LastValues", "newest", "()J"⟩ : MethodName)) hown (mvT hZ (hw _ (List.mem_of_getElem? (i := 23) rfl))) (mvT hZ (hw _ (List.mem_of_getElem? (i := 24) rfl))) (notFace_of_selects (args := #[]) (mvT hZ (hw _ (List.mem_of_getElem? (i := 26) rfl)))) (mvT hZ (hw _ (List.mem_of_getElem? (i := 26) rfl))) (mvT hZ (hw _ (List.mem_of_getElem? (i := 25) rfl))) (by decide) (backOf (W := 0) (rmnew101 l Z a0 hw [] b13 b_14 k_14 x0 T15.heap n0 Z15 c15_0 c15_1 c15_2 c15_3 c15_4) hZ (hw _ (List.mem_of_getElem? (i := 27) rfl)) (hw _ (List.mem_of_getElem? (i := 3) rfl)) (by decide) (by decide)) q16a q16c (g := (mkF m 123 #[.val (.long x0), .second, .val (.long x1), .second, .val (.long x2), .second, .val (.long x3), .second, .val (.long x4), .second, .val (.int x5), .val (.int ad), .val (.int (2 : Int32)), .val (.ref b13), .val (.long x0), .second] [(.ref b13)])) rfl (by rw [hml]; rfl) (Steps.refl _) (argsL := []) (rest := []) (lenOf pd_3 rfl) rfl (by show 2 * 0 + _ ≤ _; exact Nat.le_of_eq rfl) (hb hby at_123) (fun _ _ => ⟨rfl, rfl, (by decide : 2 + 0 ≤ _), (by decide : 4 + 0 ≤ _)⟩)
      dsimp only [Pt.U, Pt.locs, Pt.cells, Pt.slots] at X16 l16 y16 z16 st16 hQ16
      subst l16 y16 z16
      obtain ⟨rfl, N16q, e16⟩ := hQ16
      have N16 := Fr.app N15 N16q
      refine own_Go.of (g' := (mkF m 126 #[.val (.long x0), .second, .val (.long x1), .second, .val (.long x2), .second, .val (.long x3), .second, .val (.long x4), .second, .val (.int x5), .val (.int ad), .val (.int (2 : Int32)), .val (.ref b13), .val (.long x0), .second] [(.long x0)])) (fun t k => st16.trans k) ?_
      refine og_lload (pc' := 128) X16 hx (hb hby at_126) rfl rfl ?_
      refine og_lcmp (pc' := 129) X16 hx (hb hby at_128) rfl ?_
      refine og_ifNo (pc' := 132) X16 hx (hb hby at_129) ((if0 _ _).trans (teq ((lw_eq _ _).mpr rfl)).2) rfl ?_
      refine og_iconst (pc' := 133) (n := 1) X16 hx (hb hby at_132) rfl rfl ?_
      refine og_goto (pc' := 137) X16 hx (hb hby at_133) (by decide) (by decide) ?_
      obtain ⟨fs, hr, hrun, hended, hW, hsame⟩ := X16.leave (v := some (.int (1 : Int32))) (fun h => by rw [Bd.returns] at h; cases h) (BodyLoose.notSynchronized Bd)
      refine ⟨_, _, retN X16 hx (t := .boolean) Bd.returns (by simp) (hb hby at_137) hr, hrun, hended, some (.int (1 : Int32)), _, rfl, ?_, ⟨_, rfl⟩, hW, hsame.mono (by decide) (by decide)⟩
      show Q0 Z x0 x1 x2 x3 x4 x5 h0 n0 _ T16.heap _
      rw [e16]
      exact ⟨rfl, N16⟩
    · refine og_icmpNo (pc' := 49) X15 hx (hb hby at_46) (flt hc46_5).1 rfl ?_
      refine og_aload (pc' := 51) X15 hx (hb hby at_49) rfl rfl rfl ?_
      refine og_lloadN (pc' := 52) X15 hx (hb hby at_51) rfl rfl ?_
      refine og_iload (pc' := 54) X15 hx (hb hby at_52) rfl rfl ?_
      obtain ⟨cq17, kq17, q17a, q17b, q17c⟩ := isOf hZ rfl c15_0
      obtain ⟨_, _, ⟨T17, L17, k17, n17⟩, -, X17, ⟨Lc17, hQ17, l17, y17, z17⟩, st17⟩ := X15.virtualBack hx (y := (⟨"com/example/ostracon/ostracon/LastValues", "add", "(JI)J"⟩ : MethodName)) (z := (⟨"com/example/ostracon/ostracon/LastValues", "add", "(JI)J"⟩ : MethodName)) hown (mvT hZ (hw _ (List.mem_of_getElem? (i := 13) rfl))) (mvT hZ (hw _ (List.mem_of_getElem? (i := 14) rfl))) (notFace_of_selects (args := #[]) (mvT hZ (hw _ (List.mem_of_getElem? (i := 16) rfl)))) (mvT hZ (hw _ (List.mem_of_getElem? (i := 16) rfl))) (mvT hZ (hw _ (List.mem_of_getElem? (i := 15) rfl))) (by decide) (backOf (W := 0) (rmadd2_101 l Z a0 hw [] b13 x1 b_14 k_14 x0 T15.heap n0 Z15 c15_0 c15_1 c15_2 c15_3 c15_4 g_b13 g_b_14 ne14_0) hZ (hw _ (List.mem_of_getElem? (i := 17) rfl)) (hw _ (List.mem_of_getElem? (i := 3) rfl)) (by decide) (by decide)) q17a q17c (g := (mkF m 54 #[.val (.long x0), .second, .val (.long x1), .second, .val (.long x2), .second, .val (.long x3), .second, .val (.long x4), .second, .val (.int x5), .val (.int ad), .val (.int (2 : Int32)), .val (.ref b13), .val (.long x0), .second] [(.int (2 : Int32)), (.long x1), (.ref b13)])) rfl (by rw [hml]; rfl) (Steps.refl _) (argsL := [(.long x1), (.int (2 : Int32))]) (rest := []) (lenOf pd_2 rfl) rfl (by show 2 * 0 + _ ≤ _; exact Nat.le_of_eq rfl) (hb hby at_54) (fun _ _ => ⟨rfl, rfl, (by decide : 2 + 1 ≤ _), (by decide : 4 + 2 ≤ _)⟩)
      dsimp only [Pt.U, Pt.locs, Pt.cells, Pt.slots] at X17 l17 y17 z17 st17 hQ17
      subst l17 y17 z17
      obtain ⟨b2_17, k2_17, rfl, N17q, K17q, zz17_b2, c17_0, c17_1, c17_2, c17_3, c17_4⟩ := hQ17
      have N17 := Fr.app N15 N17q
      have g_b2_17 : n0 ≤ b2_17 := Nat.le_trans Z15 zz17_b2
      have sz_b2_17 : h0.size ≤ b2_17 := Nat.le_trans K15.1 zz17_b2
      have ne17_1 : b13 ≠ b2_17 := Nat.ne_of_lt (Nat.lt_of_lt_of_le c15_0.lt zz17_b2)
      have ne17_2 : b_14 ≠ b2_17 := Nat.ne_of_lt (Nat.lt_of_lt_of_le c15_4.lt zz17_b2)
      have f17_0 := c15_0.keep K17q
      have f17_1 := c15_4.keep K17q (ninS (Ne.symm ne14_0) nin0)
      have K17 : Keep h0 T17.heap [] := K15.trans K17q (allS (Or.inr sz_b13) all0)
      have Z17 : n0 ≤ T17.heap.size := Nat.le_trans Z0 K17.1
      refine own_Go.of (g' := (mkF m 57 #[.val (.long x0), .second, .val (.long x1), .second, .val (.long x2), .second, .val (.long x3), .second, .val (.long x4), .second, .val (.int x5), .val (.int ad), .val (.int (2 : Int32)), .val (.ref b13), .val (.long x0), .second] [(.long (-1 : Int64))])) (fun t k => st17.trans k) ?_
      refine own_Go.of (g' := (mkF m 58 #[.val (.long x0), .second, .val (.long x1), .second, .val (.long x2), .second, .val (.long x3), .second, .val (.long x4), .second, .val (.int x5), .val (.int ad), .val (.int (2 : Int32)), .val (.ref b13), .val (.long x0), .second] [])) (fun t k => by jvm_step X17.here [X17.here.top, hx, (hb hby at_57), Value.category]; exact k) ?_
      refine og_lloadN (pc' := 59) X17 hx (hb hby at_58) rfl rfl ?_
      refine og_lstore (pc' := 61) (L' := #[.val (.long x0), .second, .val (.long x1), .second, .val (.long x2), .second, .val (.long x3), .second, .val (.long x4), .second, .val (.int x5), .val (.int ad), .val (.int (2 : Int32)), .val (.ref b13), .val (.long x1), .second]) X17 hx (hb hby at_59) rfl rfl ?_
      refine og_iload (pc' := 63) X17 hx (hb hby at_61) rfl rfl ?_
      refine og_iconst (pc' := 64) (n := 3) X17 hx (hb hby at_63) rfl rfl ?_
      by_cases hc64_6 : ad < (3 : Int32)
      · refine og_icmpYes (pc' := 81) X17 hx (hb hby at_64) (tlt hc64_6).1 (by decide) (by decide) ?_
        refine og_iload (pc' := 83) X17 hx (hb hby at_81) rfl rfl ?_
        refine og_iconst (pc' := 84) (n := 4) X17 hx (hb hby at_83) rfl rfl ?_
        refine og_icmpYes (pc' := 101) X17 hx (hb hby at_84) (tlt (own_lt34 hc64_6)).1 (by decide) (by decide) ?_
        refine og_iload (pc' := 103) X17 hx (hb hby at_101) rfl rfl ?_
        refine og_iconst (pc' := 104) (n := 5) X17 hx (hb hby at_103) rfl rfl ?_
        refine og_icmpYes (pc' := 121) X17 hx (hb hby at_104) (tlt (own_lt35 hc64_6)).1 (by decide) (by decide) ?_
        refine og_aload (pc' := 123) X17 hx (hb hby at_121) rfl rfl rfl ?_
        obtain ⟨cq18, kq18, q18a, q18b, q18c⟩ := isOf hZ rfl c17_0
        obtain ⟨_, _, ⟨T18, L18, k18, n18⟩, -, X18, ⟨Lc18, hQ18, l18, y18, z18⟩, st18⟩ := X17.virtualBack hx (y := (⟨"com/example/ostracon/ostracon/LastValues", "newest", "()J"⟩ : MethodName)) (z := (⟨"com/example/ostracon/ostracon/LastValues", "newest", "()J"⟩ : MethodName)) hown (mvT hZ (hw _ (List.mem_of_getElem? (i := 23) rfl))) (mvT hZ (hw _ (List.mem_of_getElem? (i := 24) rfl))) (notFace_of_selects (args := #[]) (mvT hZ (hw _ (List.mem_of_getElem? (i := 26) rfl)))) (mvT hZ (hw _ (List.mem_of_getElem? (i := 26) rfl))) (mvT hZ (hw _ (List.mem_of_getElem? (i := 25) rfl))) (by decide) (backOf (W := 0) (rmnew202 l Z a0 hw [] b13 b2_17 k2_17 x0 x1 T17.heap n0 Z17 c17_0 c17_1 c17_2 c17_3 c17_4) hZ (hw _ (List.mem_of_getElem? (i := 27) rfl)) (hw _ (List.mem_of_getElem? (i := 3) rfl)) (by decide) (by decide)) q18a q18c (g := (mkF m 123 #[.val (.long x0), .second, .val (.long x1), .second, .val (.long x2), .second, .val (.long x3), .second, .val (.long x4), .second, .val (.int x5), .val (.int ad), .val (.int (2 : Int32)), .val (.ref b13), .val (.long x1), .second] [(.ref b13)])) rfl (by rw [hml]; rfl) (Steps.refl _) (argsL := []) (rest := []) (lenOf pd_3 rfl) rfl (by show 2 * 0 + _ ≤ _; exact Nat.le_of_eq rfl) (hb hby at_123) (fun _ _ => ⟨rfl, rfl, (by decide : 3 + 0 ≤ _), (by decide : 6 + 0 ≤ _)⟩)
        dsimp only [Pt.U, Pt.locs, Pt.cells, Pt.slots] at X18 l18 y18 z18 st18 hQ18
        subst l18 y18 z18
        obtain ⟨rfl, N18q, e18⟩ := hQ18
        have N18 := Fr.app N17 N18q
        refine own_Go.of (g' := (mkF m 126 #[.val (.long x0), .second, .val (.long x1), .second, .val (.long x2), .second, .val (.long x3), .second, .val (.long x4), .second, .val (.int x5), .val (.int ad), .val (.int (2 : Int32)), .val (.ref b13), .val (.long x1), .second] [(.long x1)])) (fun t k => st18.trans k) ?_
        refine og_lload (pc' := 128) X18 hx (hb hby at_126) rfl rfl ?_
        refine og_lcmp (pc' := 129) X18 hx (hb hby at_128) rfl ?_
        refine og_ifNo (pc' := 132) X18 hx (hb hby at_129) ((if0 _ _).trans (teq ((lw_eq _ _).mpr rfl)).2) rfl ?_
        refine og_iconst (pc' := 133) (n := 1) X18 hx (hb hby at_132) rfl rfl ?_
        refine og_goto (pc' := 137) X18 hx (hb hby at_133) (by decide) (by decide) ?_
        obtain ⟨fs, hr, hrun, hended, hW, hsame⟩ := X18.leave (v := some (.int (1 : Int32))) (fun h => by rw [Bd.returns] at h; cases h) (BodyLoose.notSynchronized Bd)
        refine ⟨_, _, retN X18 hx (t := .boolean) Bd.returns (by simp) (hb hby at_137) hr, hrun, hended, some (.int (1 : Int32)), _, rfl, ?_, ⟨_, rfl⟩, hW, hsame.mono (by decide) (by decide)⟩
        show Q0 Z x0 x1 x2 x3 x4 x5 h0 n0 _ T18.heap _
        rw [e18]
        exact ⟨rfl, N18⟩
      · refine og_icmpNo (pc' := 67) X17 hx (hb hby at_64) (flt hc64_6).1 rfl ?_
        refine og_aload (pc' := 69) X17 hx (hb hby at_67) rfl rfl rfl ?_
        refine og_lload (pc' := 71) X17 hx (hb hby at_69) rfl rfl ?_
        refine og_iload (pc' := 73) X17 hx (hb hby at_71) rfl rfl ?_
        obtain ⟨cq19, kq19, q19a, q19b, q19c⟩ := isOf hZ rfl c17_0
        obtain ⟨_, _, ⟨T19, L19, k19, n19⟩, -, X19, ⟨Lc19, hQ19, l19, y19, z19⟩, st19⟩ := X17.virtualBack hx (y := (⟨"com/example/ostracon/ostracon/LastValues", "add", "(JI)J"⟩ : MethodName)) (z := (⟨"com/example/ostracon/ostracon/LastValues", "add", "(JI)J"⟩ : MethodName)) hown (mvT hZ (hw _ (List.mem_of_getElem? (i := 13) rfl))) (mvT hZ (hw _ (List.mem_of_getElem? (i := 14) rfl))) (notFace_of_selects (args := #[]) (mvT hZ (hw _ (List.mem_of_getElem? (i := 16) rfl)))) (mvT hZ (hw _ (List.mem_of_getElem? (i := 16) rfl))) (mvT hZ (hw _ (List.mem_of_getElem? (i := 15) rfl))) (by decide) (backOf (W := 0) (rmadd2_202 l Z a0 hw [] b13 x2 b2_17 k2_17 x0 x1 T17.heap n0 Z17 c17_0 c17_1 c17_2 c17_3 c17_4 g_b13 g_b2_17 ne17_1) hZ (hw _ (List.mem_of_getElem? (i := 17) rfl)) (hw _ (List.mem_of_getElem? (i := 3) rfl)) (by decide) (by decide)) q19a q19c (g := (mkF m 73 #[.val (.long x0), .second, .val (.long x1), .second, .val (.long x2), .second, .val (.long x3), .second, .val (.long x4), .second, .val (.int x5), .val (.int ad), .val (.int (2 : Int32)), .val (.ref b13), .val (.long x1), .second] [(.int (2 : Int32)), (.long x2), (.ref b13)])) rfl (by rw [hml]; rfl) (Steps.refl _) (argsL := [(.long x2), (.int (2 : Int32))]) (rest := []) (lenOf pd_2 rfl) rfl (by show 2 * 0 + _ ≤ _; exact Nat.le_of_eq rfl) (hb hby at_73) (fun _ _ => ⟨rfl, rfl, (by decide : 3 + 0 ≤ _), (by decide : 6 + 0 ≤ _)⟩)
        dsimp only [Pt.U, Pt.locs, Pt.cells, Pt.slots] at X19 l19 y19 z19 st19 hQ19
        subst l19 y19 z19
        obtain ⟨rfl, N19q, K19q, c19_0, c19_1, c19_2, c19_3, c19_4⟩ := hQ19
        have N19 := Fr.app N17 N19q
        have f19_0 := c17_0.keep K19q
        have f19_1 := f17_1.keep K19q (ninS (Ne.symm ne14_0) (ninS ne17_2 nin0))
        have K19 : Keep h0 T19.heap [] := K17.trans K19q (allS (Or.inr sz_b13) (allS (Or.inr sz_b2_17) all0))
        have Z19 : n0 ≤ T19.heap.size := Nat.le_trans Z0 K19.1
        refine own_Go.of (g' := (mkF m 76 #[.val (.long x0), .second, .val (.long x1), .second, .val (.long x2), .second, .val (.long x3), .second, .val (.long x4), .second, .val (.int x5), .val (.int ad), .val (.int (2 : Int32)), .val (.ref b13), .val (.long x1), .second] [(.long x0)])) (fun t k => st19.trans k) ?_
        refine own_Go.of (g' := (mkF m 77 #[.val (.long x0), .second, .val (.long x1), .second, .val (.long x2), .second, .val (.long x3), .second, .val (.long x4), .second, .val (.int x5), .val (.int ad), .val (.int (2 : Int32)), .val (.ref b13), .val (.long x1), .second] [])) (fun t k => by jvm_step X19.here [X19.here.top, hx, (hb hby at_76), Value.category]; exact k) ?_
        refine og_lload (pc' := 79) X19 hx (hb hby at_77) rfl rfl ?_
        refine og_lstore (pc' := 81) (L' := #[.val (.long x0), .second, .val (.long x1), .second, .val (.long x2), .second, .val (.long x3), .second, .val (.long x4), .second, .val (.int x5), .val (.int ad), .val (.int (2 : Int32)), .val (.ref b13), .val (.long x2), .second]) X19 hx (hb hby at_79) rfl rfl ?_
        refine og_iload (pc' := 83) X19 hx (hb hby at_81) rfl rfl ?_
        refine og_iconst (pc' := 84) (n := 4) X19 hx (hb hby at_83) rfl rfl ?_
        by_cases hc84_7 : ad < (4 : Int32)
        · refine og_icmpYes (pc' := 101) X19 hx (hb hby at_84) (tlt hc84_7).1 (by decide) (by decide) ?_
          refine og_iload (pc' := 103) X19 hx (hb hby at_101) rfl rfl ?_
          refine og_iconst (pc' := 104) (n := 5) X19 hx (hb hby at_103) rfl rfl ?_
          refine og_icmpYes (pc' := 121) X19 hx (hb hby at_104) (tlt (own_lt45 hc84_7)).1 (by decide) (by decide) ?_
          refine og_aload (pc' := 123) X19 hx (hb hby at_121) rfl rfl rfl ?_
          obtain ⟨cq20, kq20, q20a, q20b, q20c⟩ := isOf hZ rfl c19_0
          obtain ⟨_, _, ⟨T20, L20, k20, n20⟩, -, X20, ⟨Lc20, hQ20, l20, y20, z20⟩, st20⟩ := X19.virtualBack hx (y := (⟨"com/example/ostracon/ostracon/LastValues", "newest", "()J"⟩ : MethodName)) (z := (⟨"com/example/ostracon/ostracon/LastValues", "newest", "()J"⟩ : MethodName)) hown (mvT hZ (hw _ (List.mem_of_getElem? (i := 23) rfl))) (mvT hZ (hw _ (List.mem_of_getElem? (i := 24) rfl))) (notFace_of_selects (args := #[]) (mvT hZ (hw _ (List.mem_of_getElem? (i := 26) rfl)))) (mvT hZ (hw _ (List.mem_of_getElem? (i := 26) rfl))) (mvT hZ (hw _ (List.mem_of_getElem? (i := 25) rfl))) (by decide) (backOf (W := 0) (rmnew212 l Z a0 hw [] b13 b2_17 k2_17 x2 x1 T19.heap n0 Z19 c19_0 c19_1 c19_2 c19_3 c19_4) hZ (hw _ (List.mem_of_getElem? (i := 27) rfl)) (hw _ (List.mem_of_getElem? (i := 3) rfl)) (by decide) (by decide)) q20a q20c (g := (mkF m 123 #[.val (.long x0), .second, .val (.long x1), .second, .val (.long x2), .second, .val (.long x3), .second, .val (.long x4), .second, .val (.int x5), .val (.int ad), .val (.int (2 : Int32)), .val (.ref b13), .val (.long x2), .second] [(.ref b13)])) rfl (by rw [hml]; rfl) (Steps.refl _) (argsL := []) (rest := []) (lenOf pd_3 rfl) rfl (by show 2 * 0 + _ ≤ _; exact Nat.le_of_eq rfl) (hb hby at_123) (fun _ _ => ⟨rfl, rfl, (by decide : 3 + 0 ≤ _), (by decide : 6 + 0 ≤ _)⟩)
          dsimp only [Pt.U, Pt.locs, Pt.cells, Pt.slots] at X20 l20 y20 z20 st20 hQ20
          subst l20 y20 z20
          obtain ⟨rfl, N20q, e20⟩ := hQ20
          have N20 := Fr.app N19 N20q
          refine own_Go.of (g' := (mkF m 126 #[.val (.long x0), .second, .val (.long x1), .second, .val (.long x2), .second, .val (.long x3), .second, .val (.long x4), .second, .val (.int x5), .val (.int ad), .val (.int (2 : Int32)), .val (.ref b13), .val (.long x2), .second] [(.long x2)])) (fun t k => st20.trans k) ?_
          refine og_lload (pc' := 128) X20 hx (hb hby at_126) rfl rfl ?_
          refine og_lcmp (pc' := 129) X20 hx (hb hby at_128) rfl ?_
          refine og_ifNo (pc' := 132) X20 hx (hb hby at_129) ((if0 _ _).trans (teq ((lw_eq _ _).mpr rfl)).2) rfl ?_
          refine og_iconst (pc' := 133) (n := 1) X20 hx (hb hby at_132) rfl rfl ?_
          refine og_goto (pc' := 137) X20 hx (hb hby at_133) (by decide) (by decide) ?_
          obtain ⟨fs, hr, hrun, hended, hW, hsame⟩ := X20.leave (v := some (.int (1 : Int32))) (fun h => by rw [Bd.returns] at h; cases h) (BodyLoose.notSynchronized Bd)
          refine ⟨_, _, retN X20 hx (t := .boolean) Bd.returns (by simp) (hb hby at_137) hr, hrun, hended, some (.int (1 : Int32)), _, rfl, ?_, ⟨_, rfl⟩, hW, hsame.mono (by decide) (by decide)⟩
          show Q0 Z x0 x1 x2 x3 x4 x5 h0 n0 _ T20.heap _
          rw [e20]
          exact ⟨rfl, N20⟩
        · refine og_icmpNo (pc' := 87) X19 hx (hb hby at_84) (flt hc84_7).1 rfl ?_
          refine og_aload (pc' := 89) X19 hx (hb hby at_87) rfl rfl rfl ?_
          refine og_lload (pc' := 91) X19 hx (hb hby at_89) rfl rfl ?_
          refine og_iload (pc' := 93) X19 hx (hb hby at_91) rfl rfl ?_
          obtain ⟨cq21, kq21, q21a, q21b, q21c⟩ := isOf hZ rfl c19_0
          obtain ⟨_, _, ⟨T21, L21, k21, n21⟩, -, X21, ⟨Lc21, hQ21, l21, y21, z21⟩, st21⟩ := X19.virtualBack hx (y := (⟨"com/example/ostracon/ostracon/LastValues", "add", "(JI)J"⟩ : MethodName)) (z := (⟨"com/example/ostracon/ostracon/LastValues", "add", "(JI)J"⟩ : MethodName)) hown (mvT hZ (hw _ (List.mem_of_getElem? (i := 13) rfl))) (mvT hZ (hw _ (List.mem_of_getElem? (i := 14) rfl))) (notFace_of_selects (args := #[]) (mvT hZ (hw _ (List.mem_of_getElem? (i := 16) rfl)))) (mvT hZ (hw _ (List.mem_of_getElem? (i := 16) rfl))) (mvT hZ (hw _ (List.mem_of_getElem? (i := 15) rfl))) (by decide) (backOf (W := 0) (rmadd2_212 l Z a0 hw [] b13 x3 b2_17 k2_17 x2 x1 T19.heap n0 Z19 c19_0 c19_1 c19_2 c19_3 c19_4 g_b13 g_b2_17 ne17_1) hZ (hw _ (List.mem_of_getElem? (i := 17) rfl)) (hw _ (List.mem_of_getElem? (i := 3) rfl)) (by decide) (by decide)) q21a q21c (g := (mkF m 93 #[.val (.long x0), .second, .val (.long x1), .second, .val (.long x2), .second, .val (.long x3), .second, .val (.long x4), .second, .val (.int x5), .val (.int ad), .val (.int (2 : Int32)), .val (.ref b13), .val (.long x2), .second] [(.int (2 : Int32)), (.long x3), (.ref b13)])) rfl (by rw [hml]; rfl) (Steps.refl _) (argsL := [(.long x3), (.int (2 : Int32))]) (rest := []) (lenOf pd_2 rfl) rfl (by show 2 * 0 + _ ≤ _; exact Nat.le_of_eq rfl) (hb hby at_93) (fun _ _ => ⟨rfl, rfl, (by decide : 3 + 0 ≤ _), (by decide : 6 + 0 ≤ _)⟩)
          dsimp only [Pt.U, Pt.locs, Pt.cells, Pt.slots] at X21 l21 y21 z21 st21 hQ21
          subst l21 y21 z21
          obtain ⟨rfl, N21q, K21q, c21_0, c21_1, c21_2, c21_3, c21_4⟩ := hQ21
          have N21 := Fr.app N19 N21q
          have f21_0 := c19_0.keep K21q
          have f21_1 := f19_1.keep K21q (ninS (Ne.symm ne14_0) (ninS ne17_2 nin0))
          have K21 : Keep h0 T21.heap [] := K19.trans K21q (allS (Or.inr sz_b13) (allS (Or.inr sz_b2_17) all0))
          have Z21 : n0 ≤ T21.heap.size := Nat.le_trans Z0 K21.1
          refine own_Go.of (g' := (mkF m 96 #[.val (.long x0), .second, .val (.long x1), .second, .val (.long x2), .second, .val (.long x3), .second, .val (.long x4), .second, .val (.int x5), .val (.int ad), .val (.int (2 : Int32)), .val (.ref b13), .val (.long x2), .second] [(.long x1)])) (fun t k => st21.trans k) ?_
          refine own_Go.of (g' := (mkF m 97 #[.val (.long x0), .second, .val (.long x1), .second, .val (.long x2), .second, .val (.long x3), .second, .val (.long x4), .second, .val (.int x5), .val (.int ad), .val (.int (2 : Int32)), .val (.ref b13), .val (.long x2), .second] [])) (fun t k => by jvm_step X21.here [X21.here.top, hx, (hb hby at_96), Value.category]; exact k) ?_
          refine og_lload (pc' := 99) X21 hx (hb hby at_97) rfl rfl ?_
          refine og_lstore (pc' := 101) (L' := #[.val (.long x0), .second, .val (.long x1), .second, .val (.long x2), .second, .val (.long x3), .second, .val (.long x4), .second, .val (.int x5), .val (.int ad), .val (.int (2 : Int32)), .val (.ref b13), .val (.long x3), .second]) X21 hx (hb hby at_99) rfl rfl ?_
          refine og_iload (pc' := 103) X21 hx (hb hby at_101) rfl rfl ?_
          refine og_iconst (pc' := 104) (n := 5) X21 hx (hb hby at_103) rfl rfl ?_
          by_cases hc104_8 : ad < (5 : Int32)
          · refine og_icmpYes (pc' := 121) X21 hx (hb hby at_104) (tlt hc104_8).1 (by decide) (by decide) ?_
            refine og_aload (pc' := 123) X21 hx (hb hby at_121) rfl rfl rfl ?_
            obtain ⟨cq22, kq22, q22a, q22b, q22c⟩ := isOf hZ rfl c21_0
            obtain ⟨_, _, ⟨T22, L22, k22, n22⟩, -, X22, ⟨Lc22, hQ22, l22, y22, z22⟩, st22⟩ := X21.virtualBack hx (y := (⟨"com/example/ostracon/ostracon/LastValues", "newest", "()J"⟩ : MethodName)) (z := (⟨"com/example/ostracon/ostracon/LastValues", "newest", "()J"⟩ : MethodName)) hown (mvT hZ (hw _ (List.mem_of_getElem? (i := 23) rfl))) (mvT hZ (hw _ (List.mem_of_getElem? (i := 24) rfl))) (notFace_of_selects (args := #[]) (mvT hZ (hw _ (List.mem_of_getElem? (i := 26) rfl)))) (mvT hZ (hw _ (List.mem_of_getElem? (i := 26) rfl))) (mvT hZ (hw _ (List.mem_of_getElem? (i := 25) rfl))) (by decide) (backOf (W := 0) (rmnew202 l Z a0 hw [] b13 b2_17 k2_17 x2 x3 T21.heap n0 Z21 c21_0 c21_1 c21_2 c21_3 c21_4) hZ (hw _ (List.mem_of_getElem? (i := 27) rfl)) (hw _ (List.mem_of_getElem? (i := 3) rfl)) (by decide) (by decide)) q22a q22c (g := (mkF m 123 #[.val (.long x0), .second, .val (.long x1), .second, .val (.long x2), .second, .val (.long x3), .second, .val (.long x4), .second, .val (.int x5), .val (.int ad), .val (.int (2 : Int32)), .val (.ref b13), .val (.long x3), .second] [(.ref b13)])) rfl (by rw [hml]; rfl) (Steps.refl _) (argsL := []) (rest := []) (lenOf pd_3 rfl) rfl (by show 2 * 0 + _ ≤ _; exact Nat.le_of_eq rfl) (hb hby at_123) (fun _ _ => ⟨rfl, rfl, (by decide : 3 + 0 ≤ _), (by decide : 6 + 0 ≤ _)⟩)
            dsimp only [Pt.U, Pt.locs, Pt.cells, Pt.slots] at X22 l22 y22 z22 st22 hQ22
            subst l22 y22 z22
            obtain ⟨rfl, N22q, e22⟩ := hQ22
            have N22 := Fr.app N21 N22q
            refine own_Go.of (g' := (mkF m 126 #[.val (.long x0), .second, .val (.long x1), .second, .val (.long x2), .second, .val (.long x3), .second, .val (.long x4), .second, .val (.int x5), .val (.int ad), .val (.int (2 : Int32)), .val (.ref b13), .val (.long x3), .second] [(.long x3)])) (fun t k => st22.trans k) ?_
            refine og_lload (pc' := 128) X22 hx (hb hby at_126) rfl rfl ?_
            refine og_lcmp (pc' := 129) X22 hx (hb hby at_128) rfl ?_
            refine og_ifNo (pc' := 132) X22 hx (hb hby at_129) ((if0 _ _).trans (teq ((lw_eq _ _).mpr rfl)).2) rfl ?_
            refine og_iconst (pc' := 133) (n := 1) X22 hx (hb hby at_132) rfl rfl ?_
            refine og_goto (pc' := 137) X22 hx (hb hby at_133) (by decide) (by decide) ?_
            obtain ⟨fs, hr, hrun, hended, hW, hsame⟩ := X22.leave (v := some (.int (1 : Int32))) (fun h => by rw [Bd.returns] at h; cases h) (BodyLoose.notSynchronized Bd)
            refine ⟨_, _, retN X22 hx (t := .boolean) Bd.returns (by simp) (hb hby at_137) hr, hrun, hended, some (.int (1 : Int32)), _, rfl, ?_, ⟨_, rfl⟩, hW, hsame.mono (by decide) (by decide)⟩
            show Q0 Z x0 x1 x2 x3 x4 x5 h0 n0 _ T22.heap _
            rw [e22]
            exact ⟨rfl, N22⟩
          · refine og_icmpNo (pc' := 107) X21 hx (hb hby at_104) (flt hc104_8).1 rfl ?_
            refine og_aload (pc' := 109) X21 hx (hb hby at_107) rfl rfl rfl ?_
            refine og_lload (pc' := 111) X21 hx (hb hby at_109) rfl rfl ?_
            refine og_iload (pc' := 113) X21 hx (hb hby at_111) rfl rfl ?_
            obtain ⟨cq23, kq23, q23a, q23b, q23c⟩ := isOf hZ rfl c21_0
            obtain ⟨_, _, ⟨T23, L23, k23, n23⟩, -, X23, ⟨Lc23, hQ23, l23, y23, z23⟩, st23⟩ := X21.virtualBack hx (y := (⟨"com/example/ostracon/ostracon/LastValues", "add", "(JI)J"⟩ : MethodName)) (z := (⟨"com/example/ostracon/ostracon/LastValues", "add", "(JI)J"⟩ : MethodName)) hown (mvT hZ (hw _ (List.mem_of_getElem? (i := 13) rfl))) (mvT hZ (hw _ (List.mem_of_getElem? (i := 14) rfl))) (notFace_of_selects (args := #[]) (mvT hZ (hw _ (List.mem_of_getElem? (i := 16) rfl)))) (mvT hZ (hw _ (List.mem_of_getElem? (i := 16) rfl))) (mvT hZ (hw _ (List.mem_of_getElem? (i := 15) rfl))) (by decide) (backOf (W := 0) (rmadd2_202 l Z a0 hw [] b13 x4 b2_17 k2_17 x2 x3 T21.heap n0 Z21 c21_0 c21_1 c21_2 c21_3 c21_4 g_b13 g_b2_17 ne17_1) hZ (hw _ (List.mem_of_getElem? (i := 17) rfl)) (hw _ (List.mem_of_getElem? (i := 3) rfl)) (by decide) (by decide)) q23a q23c (g := (mkF m 113 #[.val (.long x0), .second, .val (.long x1), .second, .val (.long x2), .second, .val (.long x3), .second, .val (.long x4), .second, .val (.int x5), .val (.int ad), .val (.int (2 : Int32)), .val (.ref b13), .val (.long x3), .second] [(.int (2 : Int32)), (.long x4), (.ref b13)])) rfl (by rw [hml]; rfl) (Steps.refl _) (argsL := [(.long x4), (.int (2 : Int32))]) (rest := []) (lenOf pd_2 rfl) rfl (by show 2 * 0 + _ ≤ _; exact Nat.le_of_eq rfl) (hb hby at_113) (fun _ _ => ⟨rfl, rfl, (by decide : 3 + 0 ≤ _), (by decide : 6 + 0 ≤ _)⟩)
            dsimp only [Pt.U, Pt.locs, Pt.cells, Pt.slots] at X23 l23 y23 z23 st23 hQ23
            subst l23 y23 z23
            obtain ⟨rfl, N23q, K23q, c23_0, c23_1, c23_2, c23_3, c23_4⟩ := hQ23
            have N23 := Fr.app N21 N23q
            have f23_0 := c21_0.keep K23q
            have f23_1 := f21_1.keep K23q (ninS (Ne.symm ne14_0) (ninS ne17_2 nin0))
            have K23 : Keep h0 T23.heap [] := K21.trans K23q (allS (Or.inr sz_b13) (allS (Or.inr sz_b2_17) all0))
            have Z23 : n0 ≤ T23.heap.size := Nat.le_trans Z0 K23.1
            refine own_Go.of (g' := (mkF m 116 #[.val (.long x0), .second, .val (.long x1), .second, .val (.long x2), .second, .val (.long x3), .second, .val (.long x4), .second, .val (.int x5), .val (.int ad), .val (.int (2 : Int32)), .val (.ref b13), .val (.long x3), .second] [(.long x2)])) (fun t k => st23.trans k) ?_
            refine own_Go.of (g' := (mkF m 117 #[.val (.long x0), .second, .val (.long x1), .second, .val (.long x2), .second, .val (.long x3), .second, .val (.long x4), .second, .val (.int x5), .val (.int ad), .val (.int (2 : Int32)), .val (.ref b13), .val (.long x3), .second] [])) (fun t k => by jvm_step X23.here [X23.here.top, hx, (hb hby at_116), Value.category]; exact k) ?_
            refine og_lload (pc' := 119) X23 hx (hb hby at_117) rfl rfl ?_
            refine og_lstore (pc' := 121) (L' := #[.val (.long x0), .second, .val (.long x1), .second, .val (.long x2), .second, .val (.long x3), .second, .val (.long x4), .second, .val (.int x5), .val (.int ad), .val (.int (2 : Int32)), .val (.ref b13), .val (.long x4), .second]) X23 hx (hb hby at_119) rfl rfl ?_
            refine og_aload (pc' := 123) X23 hx (hb hby at_121) rfl rfl rfl ?_
            obtain ⟨cq24, kq24, q24a, q24b, q24c⟩ := isOf hZ rfl c23_0
            obtain ⟨_, _, ⟨T24, L24, k24, n24⟩, -, X24, ⟨Lc24, hQ24, l24, y24, z24⟩, st24⟩ := X23.virtualBack hx (y := (⟨"com/example/ostracon/ostracon/LastValues", "newest", "()J"⟩ : MethodName)) (z := (⟨"com/example/ostracon/ostracon/LastValues", "newest", "()J"⟩ : MethodName)) hown (mvT hZ (hw _ (List.mem_of_getElem? (i := 23) rfl))) (mvT hZ (hw _ (List.mem_of_getElem? (i := 24) rfl))) (notFace_of_selects (args := #[]) (mvT hZ (hw _ (List.mem_of_getElem? (i := 26) rfl)))) (mvT hZ (hw _ (List.mem_of_getElem? (i := 26) rfl))) (mvT hZ (hw _ (List.mem_of_getElem? (i := 25) rfl))) (by decide) (backOf (W := 0) (rmnew212 l Z a0 hw [] b13 b2_17 k2_17 x4 x3 T23.heap n0 Z23 c23_0 c23_1 c23_2 c23_3 c23_4) hZ (hw _ (List.mem_of_getElem? (i := 27) rfl)) (hw _ (List.mem_of_getElem? (i := 3) rfl)) (by decide) (by decide)) q24a q24c (g := (mkF m 123 #[.val (.long x0), .second, .val (.long x1), .second, .val (.long x2), .second, .val (.long x3), .second, .val (.long x4), .second, .val (.int x5), .val (.int ad), .val (.int (2 : Int32)), .val (.ref b13), .val (.long x4), .second] [(.ref b13)])) rfl (by rw [hml]; rfl) (Steps.refl _) (argsL := []) (rest := []) (lenOf pd_3 rfl) rfl (by show 2 * 0 + _ ≤ _; exact Nat.le_of_eq rfl) (hb hby at_123) (fun _ _ => ⟨rfl, rfl, (by decide : 3 + 0 ≤ _), (by decide : 6 + 0 ≤ _)⟩)
            dsimp only [Pt.U, Pt.locs, Pt.cells, Pt.slots] at X24 l24 y24 z24 st24 hQ24
            subst l24 y24 z24
            obtain ⟨rfl, N24q, e24⟩ := hQ24
            have N24 := Fr.app N23 N24q
            refine own_Go.of (g' := (mkF m 126 #[.val (.long x0), .second, .val (.long x1), .second, .val (.long x2), .second, .val (.long x3), .second, .val (.long x4), .second, .val (.int x5), .val (.int ad), .val (.int (2 : Int32)), .val (.ref b13), .val (.long x4), .second] [(.long x4)])) (fun t k => st24.trans k) ?_
            refine og_lload (pc' := 128) X24 hx (hb hby at_126) rfl rfl ?_
            refine og_lcmp (pc' := 129) X24 hx (hb hby at_128) rfl ?_
            refine og_ifNo (pc' := 132) X24 hx (hb hby at_129) ((if0 _ _).trans (teq ((lw_eq _ _).mpr rfl)).2) rfl ?_
            refine og_iconst (pc' := 133) (n := 1) X24 hx (hb hby at_132) rfl rfl ?_
            refine og_goto (pc' := 137) X24 hx (hb hby at_133) (by decide) (by decide) ?_
            obtain ⟨fs, hr, hrun, hended, hW, hsame⟩ := X24.leave (v := some (.int (1 : Int32))) (fun h => by rw [Bd.returns] at h; cases h) (BodyLoose.notSynchronized Bd)
            refine ⟨_, _, retN X24 hx (t := .boolean) Bd.returns (by simp) (hb hby at_137) hr, hrun, hended, some (.int (1 : Int32)), _, rfl, ?_, ⟨_, rfl⟩, hW, hsame.mono (by decide) (by decide)⟩
            show Q0 Z x0 x1 x2 x3 x4 x5 h0 n0 _ T24.heap _
            rw [e24]
            exact ⟨rfl, N24⟩
  · rw [e]
    obtain ⟨T25, h25, X25, e25, E25, A25, D25, -, st25⟩ := newO X0 hx hZ hown (hw _ (List.mem_of_getElem? (i := 1) rfl)) (hw _ (List.mem_of_getElem? (i := 2) rfl)) (hw _ (List.mem_of_getElem? (i := 3) rfl)) e0 (g := (mkF m 22 #[.val (.long x0), .second, .val (.long x1), .second, .val (.long x2), .second, .val (.long x3), .second, .val (.long x4), .second, .val (.int x5), .val (.int ad), .val (.int (3 : Int32)), .unset, .unset, .unset] [])) rfl (hb hby at_22) (by decide) (by decide)
    obtain ⟨b25, g25⟩ : ∃ z, z = h0.size := ⟨_, rfl⟩
    rw [← g25] at A25 D25 st25
    have g_b25 : n0 ≤ b25 := Nat.le_trans Z0 (Nat.le_of_eq g25.symm)
    have sz_b25 : h0.size ≤ b25 := Nat.le_trans (Keep.refl h0 []).1 (Nat.le_of_eq g25.symm)
    have F25_values : Fld Z h25 b25 "com/example/ostracon/ostracon/LastValues" "values" "[J" .null := D25 (Or.inl (hw _ (List.mem_of_getElem? (i := 12) rfl))) (ty := (.array .long)) (by decide)
    have F25_count : Fld Z h25 b25 "com/example/ostracon/ostracon/LastValues" "count" "I" (.int (0 : Int32)) := D25 (Or.inl (hw _ (List.mem_of_getElem? (i := 19) rfl))) (ty := .int) (by decide)
    have F25_start : Fld Z h25 b25 "com/example/ostracon/ostracon/LastValues" "start" "I" (.int (0 : Int32)) := D25 (Or.inl (hw _ (List.mem_of_getElem? (i := 21) rfl))) (ty := .int) (by decide)
    have K25 : Keep h0 h25 [] := (Keep.refl h0 []).ext E25
    have Z25 : n0 ≤ h25.size := Nat.le_trans Z0 K25.1
    refine own_Go.of (g' := (mkF m 25 #[.val (.long x0), .second, .val (.long x1), .second, .val (.long x2), .second, .val (.long x3), .second, .val (.long x4), .second, .val (.int x5), .val (.int ad), .val (.int (3 : Int32)), .unset, .unset, .unset] [(.ref b25)])) (fun t k => st25 _ k) ?_
    refine og_dup (pc' := 26) X25 hx (hb hby at_25) rfl rfl ?_
    obtain ⟨_, _, ⟨T26, L26, k26, n26⟩, -, X26, ⟨Lc26, hQ26, l26, y26, z26⟩, st26⟩ := X25.specialBack hx (y := (⟨"com/example/ostracon/ostracon/LastValues", "<init>", "()V"⟩ : MethodName)) rfl hown (mvT hZ (hw _ (List.mem_of_getElem? (i := 4) rfl))) (mvT hZ (hw _ (List.mem_of_getElem? (i := 5) rfl))) (mvT hZ (hw _ (List.mem_of_getElem? (i := 6) rfl))) (by decide) (backOf (W := 1) (rmini l Z a0 hw [] b25 .null h25 n0 Z25 A25 F25_values F25_start F25_count g_b25) hZ (hw _ (List.mem_of_getElem? (i := 6) rfl)) (hw _ (List.mem_of_getElem? (i := 3) rfl)) (by decide) (by decide)) (g := (mkF m 26 #[.val (.long x0), .second, .val (.long x1), .second, .val (.long x2), .second, .val (.long x3), .second, .val (.long x4), .second, .val (.int x5), .val (.int ad), .val (.int (3 : Int32)), .unset, .unset, .unset] [(.ref b25), (.ref b25)])) rfl (by rw [hml]; rfl) (Steps.refl _) (a := b25) (argsL := []) (rest := [(.ref b25)]) (lenOf pd_1 rfl) rfl (by show 2 * 0 + _ ≤ _; exact Nat.le_of_eq rfl) (hb hby at_26) (fun _ _ => ⟨rfl, e25, (by decide : 1 + 1 ≤ _), (by decide : 3 + 1 ≤ _)⟩)
    dsimp only [Pt.U, Pt.locs, Pt.cells, Pt.slots] at X26 l26 y26 z26 st26 hQ26
    subst l26 y26 z26
    obtain ⟨b_26, k_26, rfl, N26q, K26q, zz26_b, c26_0, c26_1, c26_2, c26_3, c26_4⟩ := hQ26
    have N26 := Fr.app N0 N26q
    have g_b_26 : n0 ≤ b_26 := Nat.le_trans Z25 zz26_b
    have sz_b_26 : h0.size ≤ b_26 := Nat.le_trans K25.1 zz26_b
    have ne26_0 : b25 ≠ b_26 := Nat.ne_of_lt (Nat.lt_of_lt_of_le A25.lt zz26_b)
    have f26_0 := A25.keep K26q
    have K26 : Keep h0 T26.heap [] := K25.trans K26q (allS (Or.inr sz_b25) all0)
    have Z26 : n0 ≤ T26.heap.size := Nat.le_trans Z0 K26.1
    refine own_Go.of (g' := (mkF m 29 #[.val (.long x0), .second, .val (.long x1), .second, .val (.long x2), .second, .val (.long x3), .second, .val (.long x4), .second, .val (.int x5), .val (.int ad), .val (.int (3 : Int32)), .unset, .unset, .unset] [(.ref b25)])) (fun t k => st26.trans k) ?_
    refine og_astore (pc' := 31) (L' := #[.val (.long x0), .second, .val (.long x1), .second, .val (.long x2), .second, .val (.long x3), .second, .val (.long x4), .second, .val (.int x5), .val (.int ad), .val (.int (3 : Int32)), .val (.ref b25), .unset, .unset]) X26 hx (hb hby at_29) rfl rfl rfl ?_
    refine og_lloadN (pc' := 32) X26 hx (hb hby at_31) rfl rfl ?_
    refine og_lstore (pc' := 34) (L' := #[.val (.long x0), .second, .val (.long x1), .second, .val (.long x2), .second, .val (.long x3), .second, .val (.long x4), .second, .val (.int x5), .val (.int ad), .val (.int (3 : Int32)), .val (.ref b25), .val (.long x0), .second]) X26 hx (hb hby at_32) rfl rfl ?_
    refine og_aload (pc' := 36) X26 hx (hb hby at_34) rfl rfl rfl ?_
    refine og_lloadN (pc' := 37) X26 hx (hb hby at_36) rfl rfl ?_
    refine og_iload (pc' := 39) X26 hx (hb hby at_37) rfl rfl ?_
    obtain ⟨cq27, kq27, q27a, q27b, q27c⟩ := isOf hZ rfl c26_0
    obtain ⟨_, _, ⟨T27, L27, k27, n27⟩, -, X27, ⟨Lc27, hQ27, l27, y27, z27⟩, st27⟩ := X26.virtualBack hx (y := (⟨"com/example/ostracon/ostracon/LastValues", "add", "(JI)J"⟩ : MethodName)) (z := (⟨"com/example/ostracon/ostracon/LastValues", "add", "(JI)J"⟩ : MethodName)) hown (mvT hZ (hw _ (List.mem_of_getElem? (i := 13) rfl))) (mvT hZ (hw _ (List.mem_of_getElem? (i := 14) rfl))) (notFace_of_selects (args := #[]) (mvT hZ (hw _ (List.mem_of_getElem? (i := 16) rfl)))) (mvT hZ (hw _ (List.mem_of_getElem? (i := 16) rfl))) (mvT hZ (hw _ (List.mem_of_getElem? (i := 15) rfl))) (by decide) (backOf (W := 0) (rmadd3_100 l Z a0 hw [] b25 x0 b_26 k_26 (0 : Int64) T26.heap n0 Z26 c26_0 c26_1 c26_2 c26_3 c26_4 g_b25 g_b_26 ne26_0) hZ (hw _ (List.mem_of_getElem? (i := 17) rfl)) (hw _ (List.mem_of_getElem? (i := 3) rfl)) (by decide) (by decide)) q27a q27c (g := (mkF m 39 #[.val (.long x0), .second, .val (.long x1), .second, .val (.long x2), .second, .val (.long x3), .second, .val (.long x4), .second, .val (.int x5), .val (.int ad), .val (.int (3 : Int32)), .val (.ref b25), .val (.long x0), .second] [(.int (3 : Int32)), (.long x0), (.ref b25)])) rfl (by rw [hml]; rfl) (Steps.refl _) (argsL := [(.long x0), (.int (3 : Int32))]) (rest := []) (lenOf pd_2 rfl) rfl (by show 2 * 0 + _ ≤ _; exact Nat.le_of_eq rfl) (hb hby at_39) (fun _ _ => ⟨rfl, rfl, (by decide : 2 + 0 ≤ _), (by decide : 4 + 0 ≤ _)⟩)
    dsimp only [Pt.U, Pt.locs, Pt.cells, Pt.slots] at X27 l27 y27 z27 st27 hQ27
    subst l27 y27 z27
    obtain ⟨rfl, N27q, K27q, c27_0, c27_1, c27_2, c27_3, c27_4⟩ := hQ27
    have N27 := Fr.app N26 N27q
    have f27_0 := c26_0.keep K27q
    have K27 : Keep h0 T27.heap [] := K26.trans K27q (allS (Or.inr sz_b25) (allS (Or.inr sz_b_26) all0))
    have Z27 : n0 ≤ T27.heap.size := Nat.le_trans Z0 K27.1
    refine own_Go.of (g' := (mkF m 42 #[.val (.long x0), .second, .val (.long x1), .second, .val (.long x2), .second, .val (.long x3), .second, .val (.long x4), .second, .val (.int x5), .val (.int ad), .val (.int (3 : Int32)), .val (.ref b25), .val (.long x0), .second] [(.long (-1 : Int64))])) (fun t k => st27.trans k) ?_
    refine own_Go.of (g' := (mkF m 43 #[.val (.long x0), .second, .val (.long x1), .second, .val (.long x2), .second, .val (.long x3), .second, .val (.long x4), .second, .val (.int x5), .val (.int ad), .val (.int (3 : Int32)), .val (.ref b25), .val (.long x0), .second] [])) (fun t k => by jvm_step X27.here [X27.here.top, hx, (hb hby at_42), Value.category]; exact k) ?_
    refine og_iload (pc' := 45) X27 hx (hb hby at_43) rfl rfl ?_
    refine og_iconst (pc' := 46) (n := 2) X27 hx (hb hby at_45) rfl rfl ?_
    by_cases hc46_9 : ad < (2 : Int32)
    · refine og_icmpYes (pc' := 61) X27 hx (hb hby at_46) (tlt hc46_9).1 (by decide) (by decide) ?_
      refine og_iload (pc' := 63) X27 hx (hb hby at_61) rfl rfl ?_
      refine og_iconst (pc' := 64) (n := 3) X27 hx (hb hby at_63) rfl rfl ?_
      refine og_icmpYes (pc' := 81) X27 hx (hb hby at_64) (tlt (own_lt23 hc46_9)).1 (by decide) (by decide) ?_
      refine og_iload (pc' := 83) X27 hx (hb hby at_81) rfl rfl ?_
      refine og_iconst (pc' := 84) (n := 4) X27 hx (hb hby at_83) rfl rfl ?_
      refine og_icmpYes (pc' := 101) X27 hx (hb hby at_84) (tlt (own_lt24 hc46_9)).1 (by decide) (by decide) ?_
      refine og_iload (pc' := 103) X27 hx (hb hby at_101) rfl rfl ?_
      refine og_iconst (pc' := 104) (n := 5) X27 hx (hb hby at_103) rfl rfl ?_
      refine og_icmpYes (pc' := 121) X27 hx (hb hby at_104) (tlt (own_lt25 hc46_9)).1 (by decide) (by decide) ?_
      refine og_aload (pc' := 123) X27 hx (hb hby at_121) rfl rfl rfl ?_
      obtain ⟨cq28, kq28, q28a, q28b, q28c⟩ := isOf hZ rfl c27_0
      obtain ⟨_, _, ⟨T28, L28, k28, n28⟩, -, X28, ⟨Lc28, hQ28, l28, y28, z28⟩, st28⟩ := X27.virtualBack hx (y := (⟨"com/example/ostracon/ostracon/LastValues", "newest", "()J"⟩ : MethodName)) (z := (⟨"com/example/ostracon/ostracon/LastValues", "newest", "()J"⟩ : MethodName)) hown (mvT hZ (hw _ (List.mem_of_getElem? (i := 23) rfl))) (mvT hZ (hw _ (List.mem_of_getElem? (i := 24) rfl))) (notFace_of_selects (args := #[]) (mvT hZ (hw _ (List.mem_of_getElem? (i := 26) rfl)))) (mvT hZ (hw _ (List.mem_of_getElem? (i := 26) rfl))) (mvT hZ (hw _ (List.mem_of_getElem? (i := 25) rfl))) (by decide) (backOf (W := 0) (rmnew101 l Z a0 hw [] b25 b_26 k_26 x0 T27.heap n0 Z27 c27_0 c27_1 c27_2 c27_3 c27_4) hZ (hw _ (List.mem_of_getElem? (i := 27) rfl)) (hw _ (List.mem_of_getElem? (i := 3) rfl)) (by decide) (by decide)) q28a q28c (g := (mkF m 123 #[.val (.long x0), .second, .val (.long x1), .second, .val (.long x2), .second, .val (.long x3), .second, .val (.long x4), .second, .val (.int x5), .val (.int ad), .val (.int (3 : Int32)), .val (.ref b25), .val (.long x0), .second] [(.ref b25)])) rfl (by rw [hml]; rfl) (Steps.refl _) (argsL := []) (rest := []) (lenOf pd_3 rfl) rfl (by show 2 * 0 + _ ≤ _; exact Nat.le_of_eq rfl) (hb hby at_123) (fun _ _ => ⟨rfl, rfl, (by decide : 2 + 0 ≤ _), (by decide : 4 + 0 ≤ _)⟩)
      dsimp only [Pt.U, Pt.locs, Pt.cells, Pt.slots] at X28 l28 y28 z28 st28 hQ28
      subst l28 y28 z28
      obtain ⟨rfl, N28q, e28⟩ := hQ28
      have N28 := Fr.app N27 N28q
      refine own_Go.of (g' := (mkF m 126 #[.val (.long x0), .second, .val (.long x1), .second, .val (.long x2), .second, .val (.long x3), .second, .val (.long x4), .second, .val (.int x5), .val (.int ad), .val (.int (3 : Int32)), .val (.ref b25), .val (.long x0), .second] [(.long x0)])) (fun t k => st28.trans k) ?_
      refine og_lload (pc' := 128) X28 hx (hb hby at_126) rfl rfl ?_
      refine og_lcmp (pc' := 129) X28 hx (hb hby at_128) rfl ?_
      refine og_ifNo (pc' := 132) X28 hx (hb hby at_129) ((if0 _ _).trans (teq ((lw_eq _ _).mpr rfl)).2) rfl ?_
      refine og_iconst (pc' := 133) (n := 1) X28 hx (hb hby at_132) rfl rfl ?_
      refine og_goto (pc' := 137) X28 hx (hb hby at_133) (by decide) (by decide) ?_
      obtain ⟨fs, hr, hrun, hended, hW, hsame⟩ := X28.leave (v := some (.int (1 : Int32))) (fun h => by rw [Bd.returns] at h; cases h) (BodyLoose.notSynchronized Bd)
      refine ⟨_, _, retN X28 hx (t := .boolean) Bd.returns (by simp) (hb hby at_137) hr, hrun, hended, some (.int (1 : Int32)), _, rfl, ?_, ⟨_, rfl⟩, hW, hsame.mono (by decide) (by decide)⟩
      show Q0 Z x0 x1 x2 x3 x4 x5 h0 n0 _ T28.heap _
      rw [e28]
      exact ⟨rfl, N28⟩
    · refine og_icmpNo (pc' := 49) X27 hx (hb hby at_46) (flt hc46_9).1 rfl ?_
      refine og_aload (pc' := 51) X27 hx (hb hby at_49) rfl rfl rfl ?_
      refine og_lloadN (pc' := 52) X27 hx (hb hby at_51) rfl rfl ?_
      refine og_iload (pc' := 54) X27 hx (hb hby at_52) rfl rfl ?_
      obtain ⟨cq29, kq29, q29a, q29b, q29c⟩ := isOf hZ rfl c27_0
      obtain ⟨_, _, ⟨T29, L29, k29, n29⟩, -, X29, ⟨Lc29, hQ29, l29, y29, z29⟩, st29⟩ := X27.virtualBack hx (y := (⟨"com/example/ostracon/ostracon/LastValues", "add", "(JI)J"⟩ : MethodName)) (z := (⟨"com/example/ostracon/ostracon/LastValues", "add", "(JI)J"⟩ : MethodName)) hown (mvT hZ (hw _ (List.mem_of_getElem? (i := 13) rfl))) (mvT hZ (hw _ (List.mem_of_getElem? (i := 14) rfl))) (notFace_of_selects (args := #[]) (mvT hZ (hw _ (List.mem_of_getElem? (i := 16) rfl)))) (mvT hZ (hw _ (List.mem_of_getElem? (i := 16) rfl))) (mvT hZ (hw _ (List.mem_of_getElem? (i := 15) rfl))) (by decide) (backOf (W := 0) (rmadd3_101 l Z a0 hw [] b25 x1 b_26 k_26 x0 T27.heap n0 Z27 c27_0 c27_1 c27_2 c27_3 c27_4 g_b25 g_b_26 ne26_0) hZ (hw _ (List.mem_of_getElem? (i := 17) rfl)) (hw _ (List.mem_of_getElem? (i := 3) rfl)) (by decide) (by decide)) q29a q29c (g := (mkF m 54 #[.val (.long x0), .second, .val (.long x1), .second, .val (.long x2), .second, .val (.long x3), .second, .val (.long x4), .second, .val (.int x5), .val (.int ad), .val (.int (3 : Int32)), .val (.ref b25), .val (.long x0), .second] [(.int (3 : Int32)), (.long x1), (.ref b25)])) rfl (by rw [hml]; rfl) (Steps.refl _) (argsL := [(.long x1), (.int (3 : Int32))]) (rest := []) (lenOf pd_2 rfl) rfl (by show 2 * 0 + _ ≤ _; exact Nat.le_of_eq rfl) (hb hby at_54) (fun _ _ => ⟨rfl, rfl, (by decide : 2 + 1 ≤ _), (by decide : 4 + 2 ≤ _)⟩)
      dsimp only [Pt.U, Pt.locs, Pt.cells, Pt.slots] at X29 l29 y29 z29 st29 hQ29
      subst l29 y29 z29
      obtain ⟨b2_29, k2_29, rfl, N29q, K29q, zz29_b2, c29_0, c29_1, c29_2, c29_3, c29_4⟩ := hQ29
      have N29 := Fr.app N27 N29q
      have g_b2_29 : n0 ≤ b2_29 := Nat.le_trans Z27 zz29_b2
      have sz_b2_29 : h0.size ≤ b2_29 := Nat.le_trans K27.1 zz29_b2
      have ne29_1 : b25 ≠ b2_29 := Nat.ne_of_lt (Nat.lt_of_lt_of_le c27_0.lt zz29_b2)
      have ne29_2 : b_26 ≠ b2_29 := Nat.ne_of_lt (Nat.lt_of_lt_of_le c27_4.lt zz29_b2)
      have f29_0 := c27_0.keep K29q
      have f29_1 := c27_4.keep K29q (ninS (Ne.symm ne26_0) nin0)
      have K29 : Keep h0 T29.heap [] := K27.trans K29q (allS (Or.inr sz_b25) all0)
      have Z29 : n0 ≤ T29.heap.size := Nat.le_trans Z0 K29.1
      refine own_Go.of (g' := (mkF m 57 #[.val (.long x0), .second, .val (.long x1), .second, .val (.long x2), .second, .val (.long x3), .second, .val (.long x4), .second, .val (.int x5), .val (.int ad), .val (.int (3 : Int32)), .val (.ref b25), .val (.long x0), .second] [(.long (-1 : Int64))])) (fun t k => st29.trans k) ?_
      refine own_Go.of (g' := (mkF m 58 #[.val (.long x0), .second, .val (.long x1), .second, .val (.long x2), .second, .val (.long x3), .second, .val (.long x4), .second, .val (.int x5), .val (.int ad), .val (.int (3 : Int32)), .val (.ref b25), .val (.long x0), .second] [])) (fun t k => by jvm_step X29.here [X29.here.top, hx, (hb hby at_57), Value.category]; exact k) ?_
      refine og_lloadN (pc' := 59) X29 hx (hb hby at_58) rfl rfl ?_
      refine og_lstore (pc' := 61) (L' := #[.val (.long x0), .second, .val (.long x1), .second, .val (.long x2), .second, .val (.long x3), .second, .val (.long x4), .second, .val (.int x5), .val (.int ad), .val (.int (3 : Int32)), .val (.ref b25), .val (.long x1), .second]) X29 hx (hb hby at_59) rfl rfl ?_
      refine og_iload (pc' := 63) X29 hx (hb hby at_61) rfl rfl ?_
      refine og_iconst (pc' := 64) (n := 3) X29 hx (hb hby at_63) rfl rfl ?_
      by_cases hc64_10 : ad < (3 : Int32)
      · refine og_icmpYes (pc' := 81) X29 hx (hb hby at_64) (tlt hc64_10).1 (by decide) (by decide) ?_
        refine og_iload (pc' := 83) X29 hx (hb hby at_81) rfl rfl ?_
        refine og_iconst (pc' := 84) (n := 4) X29 hx (hb hby at_83) rfl rfl ?_
        refine og_icmpYes (pc' := 101) X29 hx (hb hby at_84) (tlt (own_lt34 hc64_10)).1 (by decide) (by decide) ?_
        refine og_iload (pc' := 103) X29 hx (hb hby at_101) rfl rfl ?_
        refine og_iconst (pc' := 104) (n := 5) X29 hx (hb hby at_103) rfl rfl ?_
        refine og_icmpYes (pc' := 121) X29 hx (hb hby at_104) (tlt (own_lt35 hc64_10)).1 (by decide) (by decide) ?_
        refine og_aload (pc' := 123) X29 hx (hb hby at_121) rfl rfl rfl ?_
        obtain ⟨cq30, kq30, q30a, q30b, q30c⟩ := isOf hZ rfl c29_0
        obtain ⟨_, _, ⟨T30, L30, k30, n30⟩, -, X30, ⟨Lc30, hQ30, l30, y30, z30⟩, st30⟩ := X29.virtualBack hx (y := (⟨"com/example/ostracon/ostracon/LastValues", "newest", "()J"⟩ : MethodName)) (z := (⟨"com/example/ostracon/ostracon/LastValues", "newest", "()J"⟩ : MethodName)) hown (mvT hZ (hw _ (List.mem_of_getElem? (i := 23) rfl))) (mvT hZ (hw _ (List.mem_of_getElem? (i := 24) rfl))) (notFace_of_selects (args := #[]) (mvT hZ (hw _ (List.mem_of_getElem? (i := 26) rfl)))) (mvT hZ (hw _ (List.mem_of_getElem? (i := 26) rfl))) (mvT hZ (hw _ (List.mem_of_getElem? (i := 25) rfl))) (by decide) (backOf (W := 0) (rmnew202 l Z a0 hw [] b25 b2_29 k2_29 x0 x1 T29.heap n0 Z29 c29_0 c29_1 c29_2 c29_3 c29_4) hZ (hw _ (List.mem_of_getElem? (i := 27) rfl)) (hw _ (List.mem_of_getElem? (i := 3) rfl)) (by decide) (by decide)) q30a q30c (g := (mkF m 123 #[.val (.long x0), .second, .val (.long x1), .second, .val (.long x2), .second, .val (.long x3), .second, .val (.long x4), .second, .val (.int x5), .val (.int ad), .val (.int (3 : Int32)), .val (.ref b25), .val (.long x1), .second] [(.ref b25)])) rfl (by rw [hml]; rfl) (Steps.refl _) (argsL := []) (rest := []) (lenOf pd_3 rfl) rfl (by show 2 * 0 + _ ≤ _; exact Nat.le_of_eq rfl) (hb hby at_123) (fun _ _ => ⟨rfl, rfl, (by decide : 3 + 0 ≤ _), (by decide : 6 + 0 ≤ _)⟩)
        dsimp only [Pt.U, Pt.locs, Pt.cells, Pt.slots] at X30 l30 y30 z30 st30 hQ30
        subst l30 y30 z30
        obtain ⟨rfl, N30q, e30⟩ := hQ30
        have N30 := Fr.app N29 N30q
        refine own_Go.of (g' := (mkF m 126 #[.val (.long x0), .second, .val (.long x1), .second, .val (.long x2), .second, .val (.long x3), .second, .val (.long x4), .second, .val (.int x5), .val (.int ad), .val (.int (3 : Int32)), .val (.ref b25), .val (.long x1), .second] [(.long x1)])) (fun t k => st30.trans k) ?_
        refine og_lload (pc' := 128) X30 hx (hb hby at_126) rfl rfl ?_
        refine og_lcmp (pc' := 129) X30 hx (hb hby at_128) rfl ?_
        refine og_ifNo (pc' := 132) X30 hx (hb hby at_129) ((if0 _ _).trans (teq ((lw_eq _ _).mpr rfl)).2) rfl ?_
        refine og_iconst (pc' := 133) (n := 1) X30 hx (hb hby at_132) rfl rfl ?_
        refine og_goto (pc' := 137) X30 hx (hb hby at_133) (by decide) (by decide) ?_
        obtain ⟨fs, hr, hrun, hended, hW, hsame⟩ := X30.leave (v := some (.int (1 : Int32))) (fun h => by rw [Bd.returns] at h; cases h) (BodyLoose.notSynchronized Bd)
        refine ⟨_, _, retN X30 hx (t := .boolean) Bd.returns (by simp) (hb hby at_137) hr, hrun, hended, some (.int (1 : Int32)), _, rfl, ?_, ⟨_, rfl⟩, hW, hsame.mono (by decide) (by decide)⟩
        show Q0 Z x0 x1 x2 x3 x4 x5 h0 n0 _ T30.heap _
        rw [e30]
        exact ⟨rfl, N30⟩
      · refine og_icmpNo (pc' := 67) X29 hx (hb hby at_64) (flt hc64_10).1 rfl ?_
        refine og_aload (pc' := 69) X29 hx (hb hby at_67) rfl rfl rfl ?_
        refine og_lload (pc' := 71) X29 hx (hb hby at_69) rfl rfl ?_
        refine og_iload (pc' := 73) X29 hx (hb hby at_71) rfl rfl ?_
        obtain ⟨cq31, kq31, q31a, q31b, q31c⟩ := isOf hZ rfl c29_0
        obtain ⟨_, _, ⟨T31, L31, k31, n31⟩, -, X31, ⟨Lc31, hQ31, l31, y31, z31⟩, st31⟩ := X29.virtualBack hx (y := (⟨"com/example/ostracon/ostracon/LastValues", "add", "(JI)J"⟩ : MethodName)) (z := (⟨"com/example/ostracon/ostracon/LastValues", "add", "(JI)J"⟩ : MethodName)) hown (mvT hZ (hw _ (List.mem_of_getElem? (i := 13) rfl))) (mvT hZ (hw _ (List.mem_of_getElem? (i := 14) rfl))) (notFace_of_selects (args := #[]) (mvT hZ (hw _ (List.mem_of_getElem? (i := 16) rfl)))) (mvT hZ (hw _ (List.mem_of_getElem? (i := 16) rfl))) (mvT hZ (hw _ (List.mem_of_getElem? (i := 15) rfl))) (by decide) (backOf (W := 0) (rmadd3_202 l Z a0 hw [] b25 x2 b2_29 k2_29 x0 x1 T29.heap n0 Z29 c29_0 c29_1 c29_2 c29_3 c29_4 g_b25 g_b2_29 ne29_1) hZ (hw _ (List.mem_of_getElem? (i := 17) rfl)) (hw _ (List.mem_of_getElem? (i := 3) rfl)) (by decide) (by decide)) q31a q31c (g := (mkF m 73 #[.val (.long x0), .second, .val (.long x1), .second, .val (.long x2), .second, .val (.long x3), .second, .val (.long x4), .second, .val (.int x5), .val (.int ad), .val (.int (3 : Int32)), .val (.ref b25), .val (.long x1), .second] [(.int (3 : Int32)), (.long x2), (.ref b25)])) rfl (by rw [hml]; rfl) (Steps.refl _) (argsL := [(.long x2), (.int (3 : Int32))]) (rest := []) (lenOf pd_2 rfl) rfl (by show 2 * 0 + _ ≤ _; exact Nat.le_of_eq rfl) (hb hby at_73) (fun _ _ => ⟨rfl, rfl, (by decide : 3 + 1 ≤ _), (by decide : 6 + 3 ≤ _)⟩)
        dsimp only [Pt.U, Pt.locs, Pt.cells, Pt.slots] at X31 l31 y31 z31 st31 hQ31
        subst l31 y31 z31
        obtain ⟨b2_31, k2_31, rfl, N31q, K31q, zz31_b2, c31_0, c31_1, c31_2, c31_3, c31_4⟩ := hQ31
        have N31 := Fr.app N29 N31q
        have g_b2_31 : n0 ≤ b2_31 := Nat.le_trans Z29 zz31_b2
        have sz_b2_31 : h0.size ≤ b2_31 := Nat.le_trans K29.1 zz31_b2
        have ne31_3 : b25 ≠ b2_31 := Nat.ne_of_lt (Nat.lt_of_lt_of_le c29_0.lt zz31_b2)
        have ne31_4 : b_26 ≠ b2_31 := Nat.ne_of_lt (Nat.lt_of_lt_of_le f29_1.lt zz31_b2)
        have ne31_5 : b2_29 ≠ b2_31 := Nat.ne_of_lt (Nat.lt_of_lt_of_le c29_4.lt zz31_b2)
        have f31_0 := c29_0.keep K31q
        have f31_1 := f29_1.keep K31q (ninS (Ne.symm ne26_0) nin0)
        have f31_2 := c29_4.keep K31q (ninS (Ne.symm ne29_1) nin0)
        have K31 : Keep h0 T31.heap [] := K29.trans K31q (allS (Or.inr sz_b25) all0)
        have Z31 : n0 ≤ T31.heap.size := Nat.le_trans Z0 K31.1
        refine own_Go.of (g' := (mkF m 76 #[.val (.long x0), .second, .val (.long x1), .second, .val (.long x2), .second, .val (.long x3), .second, .val (.long x4), .second, .val (.int x5), .val (.int ad), .val (.int (3 : Int32)), .val (.ref b25), .val (.long x1), .second] [(.long (-1 : Int64))])) (fun t k => st31.trans k) ?_
        refine own_Go.of (g' := (mkF m 77 #[.val (.long x0), .second, .val (.long x1), .second, .val (.long x2), .second, .val (.long x3), .second, .val (.long x4), .second, .val (.int x5), .val (.int ad), .val (.int (3 : Int32)), .val (.ref b25), .val (.long x1), .second] [])) (fun t k => by jvm_step X31.here [X31.here.top, hx, (hb hby at_76), Value.category]; exact k) ?_
        refine og_lload (pc' := 79) X31 hx (hb hby at_77) rfl rfl ?_
        refine og_lstore (pc' := 81) (L' := #[.val (.long x0), .second, .val (.long x1), .second, .val (.long x2), .second, .val (.long x3), .second, .val (.long x4), .second, .val (.int x5), .val (.int ad), .val (.int (3 : Int32)), .val (.ref b25), .val (.long x2), .second]) X31 hx (hb hby at_79) rfl rfl ?_
        refine og_iload (pc' := 83) X31 hx (hb hby at_81) rfl rfl ?_
        refine og_iconst (pc' := 84) (n := 4) X31 hx (hb hby at_83) rfl rfl ?_
        by_cases hc84_11 : ad < (4 : Int32)
        · refine og_icmpYes (pc' := 101) X31 hx (hb hby at_84) (tlt hc84_11).1 (by decide) (by decide) ?_
          refine og_iload (pc' := 103) X31 hx (hb hby at_101) rfl rfl ?_
          refine og_iconst (pc' := 104) (n := 5) X31 hx (hb hby at_103) rfl rfl ?_
          refine og_icmpYes (pc' := 121) X31 hx (hb hby at_104) (tlt (own_lt45 hc84_11)).1 (by decide) (by decide) ?_
          refine og_aload (pc' := 123) X31 hx (hb hby at_121) rfl rfl rfl ?_
          obtain ⟨cq32, kq32, q32a, q32b, q32c⟩ := isOf hZ rfl c31_0
          obtain ⟨_, _, ⟨T32, L32, k32, n32⟩, -, X32, ⟨Lc32, hQ32, l32, y32, z32⟩, st32⟩ := X31.virtualBack hx (y := (⟨"com/example/ostracon/ostracon/LastValues", "newest", "()J"⟩ : MethodName)) (z := (⟨"com/example/ostracon/ostracon/LastValues", "newest", "()J"⟩ : MethodName)) hown (mvT hZ (hw _ (List.mem_of_getElem? (i := 23) rfl))) (mvT hZ (hw _ (List.mem_of_getElem? (i := 24) rfl))) (notFace_of_selects (args := #[]) (mvT hZ (hw _ (List.mem_of_getElem? (i := 26) rfl)))) (mvT hZ (hw _ (List.mem_of_getElem? (i := 26) rfl))) (mvT hZ (hw _ (List.mem_of_getElem? (i := 25) rfl))) (by decide) (backOf (W := 0) (rmnew303 l Z a0 hw [] b25 b2_31 k2_31 x0 x1 x2 T31.heap n0 Z31 c31_0 c31_1 c31_2 c31_3 c31_4) hZ (hw _ (List.mem_of_getElem? (i := 27) rfl)) (hw _ (List.mem_of_getElem? (i := 3) rfl)) (by decide) (by decide)) q32a q32c (g := (mkF m 123 #[.val (.long x0), .second, .val (.long x1), .second, .val (.long x2), .second, .val (.long x3), .second, .val (.long x4), .second, .val (.int x5), .val (.int ad), .val (.int (3 : Int32)), .val (.ref b25), .val (.long x2), .second] [(.ref b25)])) rfl (by rw [hml]; rfl) (Steps.refl _) (argsL := []) (rest := []) (lenOf pd_3 rfl) rfl (by show 2 * 0 + _ ≤ _; exact Nat.le_of_eq rfl) (hb hby at_123) (fun _ _ => ⟨rfl, rfl, (by decide : 4 + 0 ≤ _), (by decide : 9 + 0 ≤ _)⟩)
          dsimp only [Pt.U, Pt.locs, Pt.cells, Pt.slots] at X32 l32 y32 z32 st32 hQ32
          subst l32 y32 z32
          obtain ⟨rfl, N32q, e32⟩ := hQ32
          have N32 := Fr.app N31 N32q
          refine own_Go.of (g' := (mkF m 126 #[.val (.long x0), .second, .val (.long x1), .second, .val (.long x2), .second, .val (.long x3), .second, .val (.long x4), .second, .val (.int x5), .val (.int ad), .val (.int (3 : Int32)), .val (.ref b25), .val (.long x2), .second] [(.long x2)])) (fun t k => st32.trans k) ?_
          refine og_lload (pc' := 128) X32 hx (hb hby at_126) rfl rfl ?_
          refine og_lcmp (pc' := 129) X32 hx (hb hby at_128) rfl ?_
          refine og_ifNo (pc' := 132) X32 hx (hb hby at_129) ((if0 _ _).trans (teq ((lw_eq _ _).mpr rfl)).2) rfl ?_
          refine og_iconst (pc' := 133) (n := 1) X32 hx (hb hby at_132) rfl rfl ?_
          refine og_goto (pc' := 137) X32 hx (hb hby at_133) (by decide) (by decide) ?_
          obtain ⟨fs, hr, hrun, hended, hW, hsame⟩ := X32.leave (v := some (.int (1 : Int32))) (fun h => by rw [Bd.returns] at h; cases h) (BodyLoose.notSynchronized Bd)
          refine ⟨_, _, retN X32 hx (t := .boolean) Bd.returns (by simp) (hb hby at_137) hr, hrun, hended, some (.int (1 : Int32)), _, rfl, ?_, ⟨_, rfl⟩, hW, hsame.mono (by decide) (by decide)⟩
          show Q0 Z x0 x1 x2 x3 x4 x5 h0 n0 _ T32.heap _
          rw [e32]
          exact ⟨rfl, N32⟩
        · refine og_icmpNo (pc' := 87) X31 hx (hb hby at_84) (flt hc84_11).1 rfl ?_
          refine og_aload (pc' := 89) X31 hx (hb hby at_87) rfl rfl rfl ?_
          refine og_lload (pc' := 91) X31 hx (hb hby at_89) rfl rfl ?_
          refine og_iload (pc' := 93) X31 hx (hb hby at_91) rfl rfl ?_
          obtain ⟨cq33, kq33, q33a, q33b, q33c⟩ := isOf hZ rfl c31_0
          obtain ⟨_, _, ⟨T33, L33, k33, n33⟩, -, X33, ⟨Lc33, hQ33, l33, y33, z33⟩, st33⟩ := X31.virtualBack hx (y := (⟨"com/example/ostracon/ostracon/LastValues", "add", "(JI)J"⟩ : MethodName)) (z := (⟨"com/example/ostracon/ostracon/LastValues", "add", "(JI)J"⟩ : MethodName)) hown (mvT hZ (hw _ (List.mem_of_getElem? (i := 13) rfl))) (mvT hZ (hw _ (List.mem_of_getElem? (i := 14) rfl))) (notFace_of_selects (args := #[]) (mvT hZ (hw _ (List.mem_of_getElem? (i := 16) rfl)))) (mvT hZ (hw _ (List.mem_of_getElem? (i := 16) rfl))) (mvT hZ (hw _ (List.mem_of_getElem? (i := 15) rfl))) (by decide) (backOf (W := 0) (rmadd3_303 l Z a0 hw [] b25 x3 b2_31 k2_31 x0 x1 x2 T31.heap n0 Z31 c31_0 c31_1 c31_2 c31_3 c31_4 g_b25 g_b2_31 ne31_3) hZ (hw _ (List.mem_of_getElem? (i := 17) rfl)) (hw _ (List.mem_of_getElem? (i := 3) rfl)) (by decide) (by decide)) q33a q33c (g := (mkF m 93 #[.val (.long x0), .second, .val (.long x1), .second, .val (.long x2), .second, .val (.long x3), .second, .val (.long x4), .second, .val (.int x5), .val (.int ad), .val (.int (3 : Int32)), .val (.ref b25), .val (.long x2), .second] [(.int (3 : Int32)), (.long x3), (.ref b25)])) rfl (by rw [hml]; rfl) (Steps.refl _) (argsL := [(.long x3), (.int (3 : Int32))]) (rest := []) (lenOf pd_2 rfl) rfl (by show 2 * 0 + _ ≤ _; exact Nat.le_of_eq rfl) (hb hby at_93) (fun _ _ => ⟨rfl, rfl, (by decide : 4 + 0 ≤ _), (by decide : 9 + 0 ≤ _)⟩)
          dsimp only [Pt.U, Pt.locs, Pt.cells, Pt.slots] at X33 l33 y33 z33 st33 hQ33
          subst l33 y33 z33
          obtain ⟨rfl, N33q, K33q, c33_0, c33_1, c33_2, c33_3, c33_4⟩ := hQ33
          have N33 := Fr.app N31 N33q
          have f33_0 := c31_0.keep K33q
          have f33_1 := f31_1.keep K33q (ninS (Ne.symm ne26_0) (ninS ne31_4 nin0))
          have f33_2 := f31_2.keep K33q (ninS (Ne.symm ne29_1) (ninS ne31_5 nin0))
          have K33 : Keep h0 T33.heap [] := K31.trans K33q (allS (Or.inr sz_b25) (allS (Or.inr sz_b2_31) all0))
          have Z33 : n0 ≤ T33.heap.size := Nat.le_trans Z0 K33.1
          refine own_Go.of (g' := (mkF m 96 #[.val (.long x0), .second, .val (.long x1), .second, .val (.long x2), .second, .val (.long x3), .second, .val (.long x4), .second, .val (.int x5), .val (.int ad), .val (.int (3 : Int32)), .val (.ref b25), .val (.long x2), .second] [(.long x0)])) (fun t k => st33.trans k) ?_
          refine own_Go.of (g' := (mkF m 97 #[.val (.long x0), .second, .val (.long x1), .second, .val (.long x2), .second, .val (.long x3), .second, .val (.long x4), .second, .val (.int x5), .val (.int ad), .val (.int (3 : Int32)), .val (.ref b25), .val (.long x2), .second] [])) (fun t k => by jvm_step X33.here [X33.here.top, hx, (hb hby at_96), Value.category]; exact k) ?_
          refine og_lload (pc' := 99) X33 hx (hb hby at_97) rfl rfl ?_
          refine og_lstore (pc' := 101) (L' := #[.val (.long x0), .second, .val (.long x1), .second, .val (.long x2), .second, .val (.long x3), .second, .val (.long x4), .second, .val (.int x5), .val (.int ad), .val (.int (3 : Int32)), .val (.ref b25), .val (.long x3), .second]) X33 hx (hb hby at_99) rfl rfl ?_
          refine og_iload (pc' := 103) X33 hx (hb hby at_101) rfl rfl ?_
          refine og_iconst (pc' := 104) (n := 5) X33 hx (hb hby at_103) rfl rfl ?_
          by_cases hc104_12 : ad < (5 : Int32)
          · refine og_icmpYes (pc' := 121) X33 hx (hb hby at_104) (tlt hc104_12).1 (by decide) (by decide) ?_
            refine og_aload (pc' := 123) X33 hx (hb hby at_121) rfl rfl rfl ?_
            obtain ⟨cq34, kq34, q34a, q34b, q34c⟩ := isOf hZ rfl c33_0
            obtain ⟨_, _, ⟨T34, L34, k34, n34⟩, -, X34, ⟨Lc34, hQ34, l34, y34, z34⟩, st34⟩ := X33.virtualBack hx (y := (⟨"com/example/ostracon/ostracon/LastValues", "newest", "()J"⟩ : MethodName)) (z := (⟨"com/example/ostracon/ostracon/LastValues", "newest", "()J"⟩ : MethodName)) hown (mvT hZ (hw _ (List.mem_of_getElem? (i := 23) rfl))) (mvT hZ (hw _ (List.mem_of_getElem? (i := 24) rfl))) (notFace_of_selects (args := #[]) (mvT hZ (hw _ (List.mem_of_getElem? (i := 26) rfl)))) (mvT hZ (hw _ (List.mem_of_getElem? (i := 26) rfl))) (mvT hZ (hw _ (List.mem_of_getElem? (i := 25) rfl))) (by decide) (backOf (W := 0) (rmnew313 l Z a0 hw [] b25 b2_31 k2_31 x3 x1 x2 T33.heap n0 Z33 c33_0 c33_1 c33_2 c33_3 c33_4) hZ (hw _ (List.mem_of_getElem? (i := 27) rfl)) (hw _ (List.mem_of_getElem? (i := 3) rfl)) (by decide) (by decide)) q34a q34c (g := (mkF m 123 #[.val (.long x0), .second, .val (.long x1), .second, .val (.long x2), .second, .val (.long x3), .second, .val (.long x4), .second, .val (.int x5), .val (.int ad), .val (.int (3 : Int32)), .val (.ref b25), .val (.long x3), .second] [(.ref b25)])) rfl (by rw [hml]; rfl) (Steps.refl _) (argsL := []) (rest := []) (lenOf pd_3 rfl) rfl (by show 2 * 0 + _ ≤ _; exact Nat.le_of_eq rfl) (hb hby at_123) (fun _ _ => ⟨rfl, rfl, (by decide : 4 + 0 ≤ _), (by decide : 9 + 0 ≤ _)⟩)
            dsimp only [Pt.U, Pt.locs, Pt.cells, Pt.slots] at X34 l34 y34 z34 st34 hQ34
            subst l34 y34 z34
            obtain ⟨rfl, N34q, e34⟩ := hQ34
            have N34 := Fr.app N33 N34q
            refine own_Go.of (g' := (mkF m 126 #[.val (.long x0), .second, .val (.long x1), .second, .val (.long x2), .second, .val (.long x3), .second, .val (.long x4), .second, .val (.int x5), .val (.int ad), .val (.int (3 : Int32)), .val (.ref b25), .val (.long x3), .second] [(.long x3)])) (fun t k => st34.trans k) ?_
            refine og_lload (pc' := 128) X34 hx (hb hby at_126) rfl rfl ?_
            refine og_lcmp (pc' := 129) X34 hx (hb hby at_128) rfl ?_
            refine og_ifNo (pc' := 132) X34 hx (hb hby at_129) ((if0 _ _).trans (teq ((lw_eq _ _).mpr rfl)).2) rfl ?_
            refine og_iconst (pc' := 133) (n := 1) X34 hx (hb hby at_132) rfl rfl ?_
            refine og_goto (pc' := 137) X34 hx (hb hby at_133) (by decide) (by decide) ?_
            obtain ⟨fs, hr, hrun, hended, hW, hsame⟩ := X34.leave (v := some (.int (1 : Int32))) (fun h => by rw [Bd.returns] at h; cases h) (BodyLoose.notSynchronized Bd)
            refine ⟨_, _, retN X34 hx (t := .boolean) Bd.returns (by simp) (hb hby at_137) hr, hrun, hended, some (.int (1 : Int32)), _, rfl, ?_, ⟨_, rfl⟩, hW, hsame.mono (by decide) (by decide)⟩
            show Q0 Z x0 x1 x2 x3 x4 x5 h0 n0 _ T34.heap _
            rw [e34]
            exact ⟨rfl, N34⟩
          · refine og_icmpNo (pc' := 107) X33 hx (hb hby at_104) (flt hc104_12).1 rfl ?_
            refine og_aload (pc' := 109) X33 hx (hb hby at_107) rfl rfl rfl ?_
            refine og_lload (pc' := 111) X33 hx (hb hby at_109) rfl rfl ?_
            refine og_iload (pc' := 113) X33 hx (hb hby at_111) rfl rfl ?_
            obtain ⟨cq35, kq35, q35a, q35b, q35c⟩ := isOf hZ rfl c33_0
            obtain ⟨_, _, ⟨T35, L35, k35, n35⟩, -, X35, ⟨Lc35, hQ35, l35, y35, z35⟩, st35⟩ := X33.virtualBack hx (y := (⟨"com/example/ostracon/ostracon/LastValues", "add", "(JI)J"⟩ : MethodName)) (z := (⟨"com/example/ostracon/ostracon/LastValues", "add", "(JI)J"⟩ : MethodName)) hown (mvT hZ (hw _ (List.mem_of_getElem? (i := 13) rfl))) (mvT hZ (hw _ (List.mem_of_getElem? (i := 14) rfl))) (notFace_of_selects (args := #[]) (mvT hZ (hw _ (List.mem_of_getElem? (i := 16) rfl)))) (mvT hZ (hw _ (List.mem_of_getElem? (i := 16) rfl))) (mvT hZ (hw _ (List.mem_of_getElem? (i := 15) rfl))) (by decide) (backOf (W := 0) (rmadd3_313 l Z a0 hw [] b25 x4 b2_31 k2_31 x3 x1 x2 T33.heap n0 Z33 c33_0 c33_1 c33_2 c33_3 c33_4 g_b25 g_b2_31 ne31_3) hZ (hw _ (List.mem_of_getElem? (i := 17) rfl)) (hw _ (List.mem_of_getElem? (i := 3) rfl)) (by decide) (by decide)) q35a q35c (g := (mkF m 113 #[.val (.long x0), .second, .val (.long x1), .second, .val (.long x2), .second, .val (.long x3), .second, .val (.long x4), .second, .val (.int x5), .val (.int ad), .val (.int (3 : Int32)), .val (.ref b25), .val (.long x3), .second] [(.int (3 : Int32)), (.long x4), (.ref b25)])) rfl (by rw [hml]; rfl) (Steps.refl _) (argsL := [(.long x4), (.int (3 : Int32))]) (rest := []) (lenOf pd_2 rfl) rfl (by show 2 * 0 + _ ≤ _; exact Nat.le_of_eq rfl) (hb hby at_113) (fun _ _ => ⟨rfl, rfl, (by decide : 4 + 0 ≤ _), (by decide : 9 + 0 ≤ _)⟩)
            dsimp only [Pt.U, Pt.locs, Pt.cells, Pt.slots] at X35 l35 y35 z35 st35 hQ35
            subst l35 y35 z35
            obtain ⟨rfl, N35q, K35q, c35_0, c35_1, c35_2, c35_3, c35_4⟩ := hQ35
            have N35 := Fr.app N33 N35q
            have f35_0 := c33_0.keep K35q
            have f35_1 := f33_1.keep K35q (ninS (Ne.symm ne26_0) (ninS ne31_4 nin0))
            have f35_2 := f33_2.keep K35q (ninS (Ne.symm ne29_1) (ninS ne31_5 nin0))
            have K35 : Keep h0 T35.heap [] := K33.trans K35q (allS (Or.inr sz_b25) (allS (Or.inr sz_b2_31) all0))
            have Z35 : n0 ≤ T35.heap.size := Nat.le_trans Z0 K35.1
            refine own_Go.of (g' := (mkF m 116 #[.val (.long x0), .second, .val (.long x1), .second, .val (.long x2), .second, .val (.long x3), .second, .val (.long x4), .second, .val (.int x5), .val (.int ad), .val (.int (3 : Int32)), .val (.ref b25), .val (.long x3), .second] [(.long x1)])) (fun t k => st35.trans k) ?_
            refine own_Go.of (g' := (mkF m 117 #[.val (.long x0), .second, .val (.long x1), .second, .val (.long x2), .second, .val (.long x3), .second, .val (.long x4), .second, .val (.int x5), .val (.int ad), .val (.int (3 : Int32)), .val (.ref b25), .val (.long x3), .second] [])) (fun t k => by jvm_step X35.here [X35.here.top, hx, (hb hby at_116), Value.category]; exact k) ?_
            refine og_lload (pc' := 119) X35 hx (hb hby at_117) rfl rfl ?_
            refine og_lstore (pc' := 121) (L' := #[.val (.long x0), .second, .val (.long x1), .second, .val (.long x2), .second, .val (.long x3), .second, .val (.long x4), .second, .val (.int x5), .val (.int ad), .val (.int (3 : Int32)), .val (.ref b25), .val (.long x4), .second]) X35 hx (hb hby at_119) rfl rfl ?_
            refine og_aload (pc' := 123) X35 hx (hb hby at_121) rfl rfl rfl ?_
            obtain ⟨cq36, kq36, q36a, q36b, q36c⟩ := isOf hZ rfl c35_0
            obtain ⟨_, _, ⟨T36, L36, k36, n36⟩, -, X36, ⟨Lc36, hQ36, l36, y36, z36⟩, st36⟩ := X35.virtualBack hx (y := (⟨"com/example/ostracon/ostracon/LastValues", "newest", "()J"⟩ : MethodName)) (z := (⟨"com/example/ostracon/ostracon/LastValues", "newest", "()J"⟩ : MethodName)) hown (mvT hZ (hw _ (List.mem_of_getElem? (i := 23) rfl))) (mvT hZ (hw _ (List.mem_of_getElem? (i := 24) rfl))) (notFace_of_selects (args := #[]) (mvT hZ (hw _ (List.mem_of_getElem? (i := 26) rfl)))) (mvT hZ (hw _ (List.mem_of_getElem? (i := 26) rfl))) (mvT hZ (hw _ (List.mem_of_getElem? (i := 25) rfl))) (by decide) (backOf (W := 0) (rmnew323 l Z a0 hw [] b25 b2_31 k2_31 x3 x4 x2 T35.heap n0 Z35 c35_0 c35_1 c35_2 c35_3 c35_4) hZ (hw _ (List.mem_of_getElem? (i := 27) rfl)) (hw _ (List.mem_of_getElem? (i := 3) rfl)) (by decide) (by decide)) q36a q36c (g := (mkF m 123 #[.val (.long x0), .second, .val (.long x1), .second, .val (.long x2), .second, .val (.long x3), .second, .val (.long x4), .second, .val (.int x5), .val (.int ad), .val (.int (3 : Int32)), .val (.ref b25), .val (.long x4), .second] [(.ref b25)])) rfl (by rw [hml]; rfl) (Steps.refl _) (argsL := []) (rest := []) (lenOf pd_3 rfl) rfl (by show 2 * 0 + _ ≤ _; exact Nat.le_of_eq rfl) (hb hby at_123) (fun _ _ => ⟨rfl, rfl, (by decide : 4 + 0 ≤ _), (by decide : 9 + 0 ≤ _)⟩)
            dsimp only [Pt.U, Pt.locs, Pt.cells, Pt.slots] at X36 l36 y36 z36 st36 hQ36
            subst l36 y36 z36
            obtain ⟨rfl, N36q, e36⟩ := hQ36
            have N36 := Fr.app N35 N36q
            refine own_Go.of (g' := (mkF m 126 #[.val (.long x0), .second, .val (.long x1), .second, .val (.long x2), .second, .val (.long x3), .second, .val (.long x4), .second, .val (.int x5), .val (.int ad), .val (.int (3 : Int32)), .val (.ref b25), .val (.long x4), .second] [(.long x4)])) (fun t k => st36.trans k) ?_
            refine og_lload (pc' := 128) X36 hx (hb hby at_126) rfl rfl ?_
            refine og_lcmp (pc' := 129) X36 hx (hb hby at_128) rfl ?_
            refine og_ifNo (pc' := 132) X36 hx (hb hby at_129) ((if0 _ _).trans (teq ((lw_eq _ _).mpr rfl)).2) rfl ?_
            refine og_iconst (pc' := 133) (n := 1) X36 hx (hb hby at_132) rfl rfl ?_
            refine og_goto (pc' := 137) X36 hx (hb hby at_133) (by decide) (by decide) ?_
            obtain ⟨fs, hr, hrun, hended, hW, hsame⟩ := X36.leave (v := some (.int (1 : Int32))) (fun h => by rw [Bd.returns] at h; cases h) (BodyLoose.notSynchronized Bd)
            refine ⟨_, _, retN X36 hx (t := .boolean) Bd.returns (by simp) (hb hby at_137) hr, hrun, hended, some (.int (1 : Int32)), _, rfl, ?_, ⟨_, rfl⟩, hW, hsame.mono (by decide) (by decide)⟩
            show Q0 Z x0 x1 x2 x3 x4 x5 h0 n0 _ T36.heap _
            rw [e36]
            exact ⟨rfl, N36⟩
  · rw [e]
    obtain ⟨T37, h37, X37, e37, E37, A37, D37, -, st37⟩ := newO X0 hx hZ hown (hw _ (List.mem_of_getElem? (i := 1) rfl)) (hw _ (List.mem_of_getElem? (i := 2) rfl)) (hw _ (List.mem_of_getElem? (i := 3) rfl)) e0 (g := (mkF m 22 #[.val (.long x0), .second, .val (.long x1), .second, .val (.long x2), .second, .val (.long x3), .second, .val (.long x4), .second, .val (.int x5), .val (.int ad), .val (.int (4 : Int32)), .unset, .unset, .unset] [])) rfl (hb hby at_22) (by decide) (by decide)
    obtain ⟨b37, g37⟩ : ∃ z, z = h0.size := ⟨_, rfl⟩
    rw [← g37] at A37 D37 st37
    have g_b37 : n0 ≤ b37 := Nat.le_trans Z0 (Nat.le_of_eq g37.symm)
    have sz_b37 : h0.size ≤ b37 := Nat.le_trans (Keep.refl h0 []).1 (Nat.le_of_eq g37.symm)
    have F37_values : Fld Z h37 b37 "com/example/ostracon/ostracon/LastValues" "values" "[J" .null := D37 (Or.inl (hw _ (List.mem_of_getElem? (i := 12) rfl))) (ty := (.array .long)) (by decide)
    have F37_count : Fld Z h37 b37 "com/example/ostracon/ostracon/LastValues" "count" "I" (.int (0 : Int32)) := D37 (Or.inl (hw _ (List.mem_of_getElem? (i := 19) rfl))) (ty := .int) (by decide)
    have F37_start : Fld Z h37 b37 "com/example/ostracon/ostracon/LastValues" "start" "I" (.int (0 : Int32)) := D37 (Or.inl (hw _ (List.mem_of_getElem? (i := 21) rfl))) (ty := .int) (by decide)
    have K37 : Keep h0 h37 [] := (Keep.refl h0 []).ext E37
    have Z37 : n0 ≤ h37.size := Nat.le_trans Z0 K37.1
    refine own_Go.of (g' := (mkF m 25 #[.val (.long x0), .second, .val (.long x1), .second, .val (.long x2), .second, .val (.long x3), .second, .val (.long x4), .second, .val (.int x5), .val (.int ad), .val (.int (4 : Int32)), .unset, .unset, .unset] [(.ref b37)])) (fun t k => st37 _ k) ?_
    refine og_dup (pc' := 26) X37 hx (hb hby at_25) rfl rfl ?_
    obtain ⟨_, _, ⟨T38, L38, k38, n38⟩, -, X38, ⟨Lc38, hQ38, l38, y38, z38⟩, st38⟩ := X37.specialBack hx (y := (⟨"com/example/ostracon/ostracon/LastValues", "<init>", "()V"⟩ : MethodName)) rfl hown (mvT hZ (hw _ (List.mem_of_getElem? (i := 4) rfl))) (mvT hZ (hw _ (List.mem_of_getElem? (i := 5) rfl))) (mvT hZ (hw _ (List.mem_of_getElem? (i := 6) rfl))) (by decide) (backOf (W := 1) (rmini l Z a0 hw [] b37 .null h37 n0 Z37 A37 F37_values F37_start F37_count g_b37) hZ (hw _ (List.mem_of_getElem? (i := 6) rfl)) (hw _ (List.mem_of_getElem? (i := 3) rfl)) (by decide) (by decide)) (g := (mkF m 26 #[.val (.long x0), .second, .val (.long x1), .second, .val (.long x2), .second, .val (.long x3), .second, .val (.long x4), .second, .val (.int x5), .val (.int ad), .val (.int (4 : Int32)), .unset, .unset, .unset] [(.ref b37), (.ref b37)])) rfl (by rw [hml]; rfl) (Steps.refl _) (a := b37) (argsL := []) (rest := [(.ref b37)]) (lenOf pd_1 rfl) rfl (by show 2 * 0 + _ ≤ _; exact Nat.le_of_eq rfl) (hb hby at_26) (fun _ _ => ⟨rfl, e37, (by decide : 1 + 1 ≤ _), (by decide : 3 + 1 ≤ _)⟩)
    dsimp only [Pt.U, Pt.locs, Pt.cells, Pt.slots] at X38 l38 y38 z38 st38 hQ38
    subst l38 y38 z38
    obtain ⟨b_38, k_38, rfl, N38q, K38q, zz38_b, c38_0, c38_1, c38_2, c38_3, c38_4⟩ := hQ38
    have N38 := Fr.app N0 N38q
    have g_b_38 : n0 ≤ b_38 := Nat.le_trans Z37 zz38_b
    have sz_b_38 : h0.size ≤ b_38 := Nat.le_trans K37.1 zz38_b
    have ne38_0 : b37 ≠ b_38 := Nat.ne_of_lt (Nat.lt_of_lt_of_le A37.lt zz38_b)
    have f38_0 := A37.keep K38q
    have K38 : Keep h0 T38.heap [] := K37.trans K38q (allS (Or.inr sz_b37) all0)
    have Z38 : n0 ≤ T38.heap.size := Nat.le_trans Z0 K38.1
    refine own_Go.of (g' := (mkF m 29 #[.val (.long x0), .second, .val (.long x1), .second, .val (.long x2), .second, .val (.long x3), .second, .val (.long x4), .second, .val (.int x5), .val (.int ad), .val (.int (4 : Int32)), .unset, .unset, .unset] [(.ref b37)])) (fun t k => st38.trans k) ?_
    refine og_astore (pc' := 31) (L' := #[.val (.long x0), .second, .val (.long x1), .second, .val (.long x2), .second, .val (.long x3), .second, .val (.long x4), .second, .val (.int x5), .val (.int ad), .val (.int (4 : Int32)), .val (.ref b37), .unset, .unset]) X38 hx (hb hby at_29) rfl rfl rfl ?_
    refine og_lloadN (pc' := 32) X38 hx (hb hby at_31) rfl rfl ?_
    refine og_lstore (pc' := 34) (L' := #[.val (.long x0), .second, .val (.long x1), .second, .val (.long x2), .second, .val (.long x3), .second, .val (.long x4), .second, .val (.int x5), .val (.int ad), .val (.int (4 : Int32)), .val (.ref b37), .val (.long x0), .second]) X38 hx (hb hby at_32) rfl rfl ?_
    refine og_aload (pc' := 36) X38 hx (hb hby at_34) rfl rfl rfl ?_
    refine og_lloadN (pc' := 37) X38 hx (hb hby at_36) rfl rfl ?_
    refine og_iload (pc' := 39) X38 hx (hb hby at_37) rfl rfl ?_
    obtain ⟨cq39, kq39, q39a, q39b, q39c⟩ := isOf hZ rfl c38_0
    obtain ⟨_, _, ⟨T39, L39, k39, n39⟩, -, X39, ⟨Lc39, hQ39, l39, y39, z39⟩, st39⟩ := X38.virtualBack hx (y := (⟨"com/example/ostracon/ostracon/LastValues", "add", "(JI)J"⟩ : MethodName)) (z := (⟨"com/example/ostracon/ostracon/LastValues", "add", "(JI)J"⟩ : MethodName)) hown (mvT hZ (hw _ (List.mem_of_getElem? (i := 13) rfl))) (mvT hZ (hw _ (List.mem_of_getElem? (i := 14) rfl))) (notFace_of_selects (args := #[]) (mvT hZ (hw _ (List.mem_of_getElem? (i := 16) rfl)))) (mvT hZ (hw _ (List.mem_of_getElem? (i := 16) rfl))) (mvT hZ (hw _ (List.mem_of_getElem? (i := 15) rfl))) (by decide) (backOf (W := 0) (rmadd4_100 l Z a0 hw [] b37 x0 b_38 k_38 (0 : Int64) T38.heap n0 Z38 c38_0 c38_1 c38_2 c38_3 c38_4 g_b37 g_b_38 ne38_0) hZ (hw _ (List.mem_of_getElem? (i := 17) rfl)) (hw _ (List.mem_of_getElem? (i := 3) rfl)) (by decide) (by decide)) q39a q39c (g := (mkF m 39 #[.val (.long x0), .second, .val (.long x1), .second, .val (.long x2), .second, .val (.long x3), .second, .val (.long x4), .second, .val (.int x5), .val (.int ad), .val (.int (4 : Int32)), .val (.ref b37), .val (.long x0), .second] [(.int (4 : Int32)), (.long x0), (.ref b37)])) rfl (by rw [hml]; rfl) (Steps.refl _) (argsL := [(.long x0), (.int (4 : Int32))]) (rest := []) (lenOf pd_2 rfl) rfl (by show 2 * 0 + _ ≤ _; exact Nat.le_of_eq rfl) (hb hby at_39) (fun _ _ => ⟨rfl, rfl, (by decide : 2 + 0 ≤ _), (by decide : 4 + 0 ≤ _)⟩)
    dsimp only [Pt.U, Pt.locs, Pt.cells, Pt.slots] at X39 l39 y39 z39 st39 hQ39
    subst l39 y39 z39
    obtain ⟨rfl, N39q, K39q, c39_0, c39_1, c39_2, c39_3, c39_4⟩ := hQ39
    have N39 := Fr.app N38 N39q
    have f39_0 := c38_0.keep K39q
    have K39 : Keep h0 T39.heap [] := K38.trans K39q (allS (Or.inr sz_b37) (allS (Or.inr sz_b_38) all0))
    have Z39 : n0 ≤ T39.heap.size := Nat.le_trans Z0 K39.1
    refine own_Go.of (g' := (mkF m 42 #[.val (.long x0), .second, .val (.long x1), .second, .val (.long x2), .second, .val (.long x3), .second, .val (.long x4), .second, .val (.int x5), .val (.int ad), .val (.int (4 : Int32)), .val (.ref b37), .val (.long x0), .second] [(.long (-1 : Int64))])) (fun t k => st39.trans k) ?_
    refine own_Go.of (g' := (mkF m 43 #[.val (.long x0), .second, .val (.long x1), .second, .val (.long x2), .second, .val (.long x3), .second, .val (.long x4), .second, .val (.int x5), .val (.int ad), .val (.int (4 : Int32)), .val (.ref b37), .val (.long x0), .second] [])) (fun t k => by jvm_step X39.here [X39.here.top, hx, (hb hby at_42), Value.category]; exact k) ?_
    refine og_iload (pc' := 45) X39 hx (hb hby at_43) rfl rfl ?_
    refine og_iconst (pc' := 46) (n := 2) X39 hx (hb hby at_45) rfl rfl ?_
    by_cases hc46_13 : ad < (2 : Int32)
    · refine og_icmpYes (pc' := 61) X39 hx (hb hby at_46) (tlt hc46_13).1 (by decide) (by decide) ?_
      refine og_iload (pc' := 63) X39 hx (hb hby at_61) rfl rfl ?_
      refine og_iconst (pc' := 64) (n := 3) X39 hx (hb hby at_63) rfl rfl ?_
      refine og_icmpYes (pc' := 81) X39 hx (hb hby at_64) (tlt (own_lt23 hc46_13)).1 (by decide) (by decide) ?_
      refine og_iload (pc' := 83) X39 hx (hb hby at_81) rfl rfl ?_
      refine og_iconst (pc' := 84) (n := 4) X39 hx (hb hby at_83) rfl rfl ?_
      refine og_icmpYes (pc' := 101) X39 hx (hb hby at_84) (tlt (own_lt24 hc46_13)).1 (by decide) (by decide) ?_
      refine og_iload (pc' := 103) X39 hx (hb hby at_101) rfl rfl ?_
      refine og_iconst (pc' := 104) (n := 5) X39 hx (hb hby at_103) rfl rfl ?_
      refine og_icmpYes (pc' := 121) X39 hx (hb hby at_104) (tlt (own_lt25 hc46_13)).1 (by decide) (by decide) ?_
      refine og_aload (pc' := 123) X39 hx (hb hby at_121) rfl rfl rfl ?_
      obtain ⟨cq40, kq40, q40a, q40b, q40c⟩ := isOf hZ rfl c39_0
      obtain ⟨_, _, ⟨T40, L40, k40, n40⟩, -, X40, ⟨Lc40, hQ40, l40, y40, z40⟩, st40⟩ := X39.virtualBack hx (y := (⟨"com/example/ostracon/ostracon/LastValues", "newest", "()J"⟩ : MethodName)) (z := (⟨"com/example/ostracon/ostracon/LastValues", "newest", "()J"⟩ : MethodName)) hown (mvT hZ (hw _ (List.mem_of_getElem? (i := 23) rfl))) (mvT hZ (hw _ (List.mem_of_getElem? (i := 24) rfl))) (notFace_of_selects (args := #[]) (mvT hZ (hw _ (List.mem_of_getElem? (i := 26) rfl)))) (mvT hZ (hw _ (List.mem_of_getElem? (i := 26) rfl))) (mvT hZ (hw _ (List.mem_of_getElem? (i := 25) rfl))) (by decide) (backOf (W := 0) (rmnew101 l Z a0 hw [] b37 b_38 k_38 x0 T39.heap n0 Z39 c39_0 c39_1 c39_2 c39_3 c39_4) hZ (hw _ (List.mem_of_getElem? (i := 27) rfl)) (hw _ (List.mem_of_getElem? (i := 3) rfl)) (by decide) (by decide)) q40a q40c (g := (mkF m 123 #[.val (.long x0), .second, .val (.long x1), .second, .val (.long x2), .second, .val (.long x3), .second, .val (.long x4), .second, .val (.int x5), .val (.int ad), .val (.int (4 : Int32)), .val (.ref b37), .val (.long x0), .second] [(.ref b37)])) rfl (by rw [hml]; rfl) (Steps.refl _) (argsL := []) (rest := []) (lenOf pd_3 rfl) rfl (by show 2 * 0 + _ ≤ _; exact Nat.le_of_eq rfl) (hb hby at_123) (fun _ _ => ⟨rfl, rfl, (by decide : 2 + 0 ≤ _), (by decide : 4 + 0 ≤ _)⟩)
      dsimp only [Pt.U, Pt.locs, Pt.cells, Pt.slots] at X40 l40 y40 z40 st40 hQ40
      subst l40 y40 z40
      obtain ⟨rfl, N40q, e40⟩ := hQ40
      have N40 := Fr.app N39 N40q
      refine own_Go.of (g' := (mkF m 126 #[.val (.long x0), .second, .val (.long x1), .second, .val (.long x2), .second, .val (.long x3), .second, .val (.long x4), .second, .val (.int x5), .val (.int ad), .val (.int (4 : Int32)), .val (.ref b37), .val (.long x0), .second] [(.long x0)])) (fun t k => st40.trans k) ?_
      refine og_lload (pc' := 128) X40 hx (hb hby at_126) rfl rfl ?_
      refine og_lcmp (pc' := 129) X40 hx (hb hby at_128) rfl ?_
      refine og_ifNo (pc' := 132) X40 hx (hb hby at_129) ((if0 _ _).trans (teq ((lw_eq _ _).mpr rfl)).2) rfl ?_
      refine og_iconst (pc' := 133) (n := 1) X40 hx (hb hby at_132) rfl rfl ?_
      refine og_goto (pc' := 137) X40 hx (hb hby at_133) (by decide) (by decide) ?_
      obtain ⟨fs, hr, hrun, hended, hW, hsame⟩ := X40.leave (v := some (.int (1 : Int32))) (fun h => by rw [Bd.returns] at h; cases h) (BodyLoose.notSynchronized Bd)
      refine ⟨_, _, retN X40 hx (t := .boolean) Bd.returns (by simp) (hb hby at_137) hr, hrun, hended, some (.int (1 : Int32)), _, rfl, ?_, ⟨_, rfl⟩, hW, hsame.mono (by decide) (by decide)⟩
      show Q0 Z x0 x1 x2 x3 x4 x5 h0 n0 _ T40.heap _
      rw [e40]
      exact ⟨rfl, N40⟩
    · refine og_icmpNo (pc' := 49) X39 hx (hb hby at_46) (flt hc46_13).1 rfl ?_
      refine og_aload (pc' := 51) X39 hx (hb hby at_49) rfl rfl rfl ?_
      refine og_lloadN (pc' := 52) X39 hx (hb hby at_51) rfl rfl ?_
      refine og_iload (pc' := 54) X39 hx (hb hby at_52) rfl rfl ?_
      obtain ⟨cq41, kq41, q41a, q41b, q41c⟩ := isOf hZ rfl c39_0
      obtain ⟨_, _, ⟨T41, L41, k41, n41⟩, -, X41, ⟨Lc41, hQ41, l41, y41, z41⟩, st41⟩ := X39.virtualBack hx (y := (⟨"com/example/ostracon/ostracon/LastValues", "add", "(JI)J"⟩ : MethodName)) (z := (⟨"com/example/ostracon/ostracon/LastValues", "add", "(JI)J"⟩ : MethodName)) hown (mvT hZ (hw _ (List.mem_of_getElem? (i := 13) rfl))) (mvT hZ (hw _ (List.mem_of_getElem? (i := 14) rfl))) (notFace_of_selects (args := #[]) (mvT hZ (hw _ (List.mem_of_getElem? (i := 16) rfl)))) (mvT hZ (hw _ (List.mem_of_getElem? (i := 16) rfl))) (mvT hZ (hw _ (List.mem_of_getElem? (i := 15) rfl))) (by decide) (backOf (W := 0) (rmadd4_101 l Z a0 hw [] b37 x1 b_38 k_38 x0 T39.heap n0 Z39 c39_0 c39_1 c39_2 c39_3 c39_4 g_b37 g_b_38 ne38_0) hZ (hw _ (List.mem_of_getElem? (i := 17) rfl)) (hw _ (List.mem_of_getElem? (i := 3) rfl)) (by decide) (by decide)) q41a q41c (g := (mkF m 54 #[.val (.long x0), .second, .val (.long x1), .second, .val (.long x2), .second, .val (.long x3), .second, .val (.long x4), .second, .val (.int x5), .val (.int ad), .val (.int (4 : Int32)), .val (.ref b37), .val (.long x0), .second] [(.int (4 : Int32)), (.long x1), (.ref b37)])) rfl (by rw [hml]; rfl) (Steps.refl _) (argsL := [(.long x1), (.int (4 : Int32))]) (rest := []) (lenOf pd_2 rfl) rfl (by show 2 * 0 + _ ≤ _; exact Nat.le_of_eq rfl) (hb hby at_54) (fun _ _ => ⟨rfl, rfl, (by decide : 2 + 1 ≤ _), (by decide : 4 + 2 ≤ _)⟩)
      dsimp only [Pt.U, Pt.locs, Pt.cells, Pt.slots] at X41 l41 y41 z41 st41 hQ41
      subst l41 y41 z41
      obtain ⟨b2_41, k2_41, rfl, N41q, K41q, zz41_b2, c41_0, c41_1, c41_2, c41_3, c41_4⟩ := hQ41
      have N41 := Fr.app N39 N41q
      have g_b2_41 : n0 ≤ b2_41 := Nat.le_trans Z39 zz41_b2
      have sz_b2_41 : h0.size ≤ b2_41 := Nat.le_trans K39.1 zz41_b2
      have ne41_1 : b37 ≠ b2_41 := Nat.ne_of_lt (Nat.lt_of_lt_of_le c39_0.lt zz41_b2)
      have ne41_2 : b_38 ≠ b2_41 := Nat.ne_of_lt (Nat.lt_of_lt_of_le c39_4.lt zz41_b2)
      have f41_0 := c39_0.keep K41q
      have f41_1 := c39_4.keep K41q (ninS (Ne.symm ne38_0) nin0)
      have K41 : Keep h0 T41.heap [] := K39.trans K41q (allS (Or.inr sz_b37) all0)
      have Z41 : n0 ≤ T41.heap.size := Nat.le_trans Z0 K41.1
      refine own_Go.of (g' := (mkF m 57 #[.val (.long x0), .second, .val (.long x1), .second, .val (.long x2), .second, .val (.long x3), .second, .val (.long x4), .second, .val (.int x5), .val (.int ad), .val (.int (4 : Int32)), .val (.ref b37), .val (.long x0), .second] [(.long (-1 : Int64))])) (fun t k => st41.trans k) ?_
      refine own_Go.of (g' := (mkF m 58 #[.val (.long x0), .second, .val (.long x1), .second, .val (.long x2), .second, .val (.long x3), .second, .val (.long x4), .second, .val (.int x5), .val (.int ad), .val (.int (4 : Int32)), .val (.ref b37), .val (.long x0), .second] [])) (fun t k => by jvm_step X41.here [X41.here.top, hx, (hb hby at_57), Value.category]; exact k) ?_
      refine og_lloadN (pc' := 59) X41 hx (hb hby at_58) rfl rfl ?_
      refine og_lstore (pc' := 61) (L' := #[.val (.long x0), .second, .val (.long x1), .second, .val (.long x2), .second, .val (.long x3), .second, .val (.long x4), .second, .val (.int x5), .val (.int ad), .val (.int (4 : Int32)), .val (.ref b37), .val (.long x1), .second]) X41 hx (hb hby at_59) rfl rfl ?_
      refine og_iload (pc' := 63) X41 hx (hb hby at_61) rfl rfl ?_
      refine og_iconst (pc' := 64) (n := 3) X41 hx (hb hby at_63) rfl rfl ?_
      by_cases hc64_14 : ad < (3 : Int32)
      · refine og_icmpYes (pc' := 81) X41 hx (hb hby at_64) (tlt hc64_14).1 (by decide) (by decide) ?_
        refine og_iload (pc' := 83) X41 hx (hb hby at_81) rfl rfl ?_
        refine og_iconst (pc' := 84) (n := 4) X41 hx (hb hby at_83) rfl rfl ?_
        refine og_icmpYes (pc' := 101) X41 hx (hb hby at_84) (tlt (own_lt34 hc64_14)).1 (by decide) (by decide) ?_
        refine og_iload (pc' := 103) X41 hx (hb hby at_101) rfl rfl ?_
        refine og_iconst (pc' := 104) (n := 5) X41 hx (hb hby at_103) rfl rfl ?_
        refine og_icmpYes (pc' := 121) X41 hx (hb hby at_104) (tlt (own_lt35 hc64_14)).1 (by decide) (by decide) ?_
        refine og_aload (pc' := 123) X41 hx (hb hby at_121) rfl rfl rfl ?_
        obtain ⟨cq42, kq42, q42a, q42b, q42c⟩ := isOf hZ rfl c41_0
        obtain ⟨_, _, ⟨T42, L42, k42, n42⟩, -, X42, ⟨Lc42, hQ42, l42, y42, z42⟩, st42⟩ := X41.virtualBack hx (y := (⟨"com/example/ostracon/ostracon/LastValues", "newest", "()J"⟩ : MethodName)) (z := (⟨"com/example/ostracon/ostracon/LastValues", "newest", "()J"⟩ : MethodName)) hown (mvT hZ (hw _ (List.mem_of_getElem? (i := 23) rfl))) (mvT hZ (hw _ (List.mem_of_getElem? (i := 24) rfl))) (notFace_of_selects (args := #[]) (mvT hZ (hw _ (List.mem_of_getElem? (i := 26) rfl)))) (mvT hZ (hw _ (List.mem_of_getElem? (i := 26) rfl))) (mvT hZ (hw _ (List.mem_of_getElem? (i := 25) rfl))) (by decide) (backOf (W := 0) (rmnew202 l Z a0 hw [] b37 b2_41 k2_41 x0 x1 T41.heap n0 Z41 c41_0 c41_1 c41_2 c41_3 c41_4) hZ (hw _ (List.mem_of_getElem? (i := 27) rfl)) (hw _ (List.mem_of_getElem? (i := 3) rfl)) (by decide) (by decide)) q42a q42c (g := (mkF m 123 #[.val (.long x0), .second, .val (.long x1), .second, .val (.long x2), .second, .val (.long x3), .second, .val (.long x4), .second, .val (.int x5), .val (.int ad), .val (.int (4 : Int32)), .val (.ref b37), .val (.long x1), .second] [(.ref b37)])) rfl (by rw [hml]; rfl) (Steps.refl _) (argsL := []) (rest := []) (lenOf pd_3 rfl) rfl (by show 2 * 0 + _ ≤ _; exact Nat.le_of_eq rfl) (hb hby at_123) (fun _ _ => ⟨rfl, rfl, (by decide : 3 + 0 ≤ _), (by decide : 6 + 0 ≤ _)⟩)
        dsimp only [Pt.U, Pt.locs, Pt.cells, Pt.slots] at X42 l42 y42 z42 st42 hQ42
        subst l42 y42 z42
        obtain ⟨rfl, N42q, e42⟩ := hQ42
        have N42 := Fr.app N41 N42q
        refine own_Go.of (g' := (mkF m 126 #[.val (.long x0), .second, .val (.long x1), .second, .val (.long x2), .second, .val (.long x3), .second, .val (.long x4), .second, .val (.int x5), .val (.int ad), .val (.int (4 : Int32)), .val (.ref b37), .val (.long x1), .second] [(.long x1)])) (fun t k => st42.trans k) ?_
        refine og_lload (pc' := 128) X42 hx (hb hby at_126) rfl rfl ?_
        refine og_lcmp (pc' := 129) X42 hx (hb hby at_128) rfl ?_
        refine og_ifNo (pc' := 132) X42 hx (hb hby at_129) ((if0 _ _).trans (teq ((lw_eq _ _).mpr rfl)).2) rfl ?_
        refine og_iconst (pc' := 133) (n := 1) X42 hx (hb hby at_132) rfl rfl ?_
        refine og_goto (pc' := 137) X42 hx (hb hby at_133) (by decide) (by decide) ?_
        obtain ⟨fs, hr, hrun, hended, hW, hsame⟩ := X42.leave (v := some (.int (1 : Int32))) (fun h => by rw [Bd.returns] at h; cases h) (BodyLoose.notSynchronized Bd)
        refine ⟨_, _, retN X42 hx (t := .boolean) Bd.returns (by simp) (hb hby at_137) hr, hrun, hended, some (.int (1 : Int32)), _, rfl, ?_, ⟨_, rfl⟩, hW, hsame.mono (by decide) (by decide)⟩
        show Q0 Z x0 x1 x2 x3 x4 x5 h0 n0 _ T42.heap _
        rw [e42]
        exact ⟨rfl, N42⟩
      · refine og_icmpNo (pc' := 67) X41 hx (hb hby at_64) (flt hc64_14).1 rfl ?_
        refine og_aload (pc' := 69) X41 hx (hb hby at_67) rfl rfl rfl ?_
        refine og_lload (pc' := 71) X41 hx (hb hby at_69) rfl rfl ?_
        refine og_iload (pc' := 73) X41 hx (hb hby at_71) rfl rfl ?_
        obtain ⟨cq43, kq43, q43a, q43b, q43c⟩ := isOf hZ rfl c41_0
        obtain ⟨_, _, ⟨T43, L43, k43, n43⟩, -, X43, ⟨Lc43, hQ43, l43, y43, z43⟩, st43⟩ := X41.virtualBack hx (y := (⟨"com/example/ostracon/ostracon/LastValues", "add", "(JI)J"⟩ : MethodName)) (z := (⟨"com/example/ostracon/ostracon/LastValues", "add", "(JI)J"⟩ : MethodName)) hown (mvT hZ (hw _ (List.mem_of_getElem? (i := 13) rfl))) (mvT hZ (hw _ (List.mem_of_getElem? (i := 14) rfl))) (notFace_of_selects (args := #[]) (mvT hZ (hw _ (List.mem_of_getElem? (i := 16) rfl)))) (mvT hZ (hw _ (List.mem_of_getElem? (i := 16) rfl))) (mvT hZ (hw _ (List.mem_of_getElem? (i := 15) rfl))) (by decide) (backOf (W := 0) (rmadd4_202 l Z a0 hw [] b37 x2 b2_41 k2_41 x0 x1 T41.heap n0 Z41 c41_0 c41_1 c41_2 c41_3 c41_4 g_b37 g_b2_41 ne41_1) hZ (hw _ (List.mem_of_getElem? (i := 17) rfl)) (hw _ (List.mem_of_getElem? (i := 3) rfl)) (by decide) (by decide)) q43a q43c (g := (mkF m 73 #[.val (.long x0), .second, .val (.long x1), .second, .val (.long x2), .second, .val (.long x3), .second, .val (.long x4), .second, .val (.int x5), .val (.int ad), .val (.int (4 : Int32)), .val (.ref b37), .val (.long x1), .second] [(.int (4 : Int32)), (.long x2), (.ref b37)])) rfl (by rw [hml]; rfl) (Steps.refl _) (argsL := [(.long x2), (.int (4 : Int32))]) (rest := []) (lenOf pd_2 rfl) rfl (by show 2 * 0 + _ ≤ _; exact Nat.le_of_eq rfl) (hb hby at_73) (fun _ _ => ⟨rfl, rfl, (by decide : 3 + 1 ≤ _), (by decide : 6 + 4 ≤ _)⟩)
        dsimp only [Pt.U, Pt.locs, Pt.cells, Pt.slots] at X43 l43 y43 z43 st43 hQ43
        subst l43 y43 z43
        obtain ⟨b2_43, k2_43, rfl, N43q, K43q, zz43_b2, c43_0, c43_1, c43_2, c43_3, c43_4⟩ := hQ43
        have N43 := Fr.app N41 N43q
        have g_b2_43 : n0 ≤ b2_43 := Nat.le_trans Z41 zz43_b2
        have sz_b2_43 : h0.size ≤ b2_43 := Nat.le_trans K41.1 zz43_b2
        have ne43_3 : b37 ≠ b2_43 := Nat.ne_of_lt (Nat.lt_of_lt_of_le c41_0.lt zz43_b2)
        have ne43_4 : b_38 ≠ b2_43 := Nat.ne_of_lt (Nat.lt_of_lt_of_le f41_1.lt zz43_b2)
        have ne43_5 : b2_41 ≠ b2_43 := Nat.ne_of_lt (Nat.lt_of_lt_of_le c41_4.lt zz43_b2)
        have f43_0 := c41_0.keep K43q
        have f43_1 := f41_1.keep K43q (ninS (Ne.symm ne38_0) nin0)
        have f43_2 := c41_4.keep K43q (ninS (Ne.symm ne41_1) nin0)
        have K43 : Keep h0 T43.heap [] := K41.trans K43q (allS (Or.inr sz_b37) all0)
        have Z43 : n0 ≤ T43.heap.size := Nat.le_trans Z0 K43.1
        refine own_Go.of (g' := (mkF m 76 #[.val (.long x0), .second, .val (.long x1), .second, .val (.long x2), .second, .val (.long x3), .second, .val (.long x4), .second, .val (.int x5), .val (.int ad), .val (.int (4 : Int32)), .val (.ref b37), .val (.long x1), .second] [(.long (-1 : Int64))])) (fun t k => st43.trans k) ?_
        refine own_Go.of (g' := (mkF m 77 #[.val (.long x0), .second, .val (.long x1), .second, .val (.long x2), .second, .val (.long x3), .second, .val (.long x4), .second, .val (.int x5), .val (.int ad), .val (.int (4 : Int32)), .val (.ref b37), .val (.long x1), .second] [])) (fun t k => by jvm_step X43.here [X43.here.top, hx, (hb hby at_76), Value.category]; exact k) ?_
        refine og_lload (pc' := 79) X43 hx (hb hby at_77) rfl rfl ?_
        refine og_lstore (pc' := 81) (L' := #[.val (.long x0), .second, .val (.long x1), .second, .val (.long x2), .second, .val (.long x3), .second, .val (.long x4), .second, .val (.int x5), .val (.int ad), .val (.int (4 : Int32)), .val (.ref b37), .val (.long x2), .second]) X43 hx (hb hby at_79) rfl rfl ?_
        refine og_iload (pc' := 83) X43 hx (hb hby at_81) rfl rfl ?_
        refine og_iconst (pc' := 84) (n := 4) X43 hx (hb hby at_83) rfl rfl ?_
        by_cases hc84_15 : ad < (4 : Int32)
        · refine og_icmpYes (pc' := 101) X43 hx (hb hby at_84) (tlt hc84_15).1 (by decide) (by decide) ?_
          refine og_iload (pc' := 103) X43 hx (hb hby at_101) rfl rfl ?_
          refine og_iconst (pc' := 104) (n := 5) X43 hx (hb hby at_103) rfl rfl ?_
          refine og_icmpYes (pc' := 121) X43 hx (hb hby at_104) (tlt (own_lt45 hc84_15)).1 (by decide) (by decide) ?_
          refine og_aload (pc' := 123) X43 hx (hb hby at_121) rfl rfl rfl ?_
          obtain ⟨cq44, kq44, q44a, q44b, q44c⟩ := isOf hZ rfl c43_0
          obtain ⟨_, _, ⟨T44, L44, k44, n44⟩, -, X44, ⟨Lc44, hQ44, l44, y44, z44⟩, st44⟩ := X43.virtualBack hx (y := (⟨"com/example/ostracon/ostracon/LastValues", "newest", "()J"⟩ : MethodName)) (z := (⟨"com/example/ostracon/ostracon/LastValues", "newest", "()J"⟩ : MethodName)) hown (mvT hZ (hw _ (List.mem_of_getElem? (i := 23) rfl))) (mvT hZ (hw _ (List.mem_of_getElem? (i := 24) rfl))) (notFace_of_selects (args := #[]) (mvT hZ (hw _ (List.mem_of_getElem? (i := 26) rfl)))) (mvT hZ (hw _ (List.mem_of_getElem? (i := 26) rfl))) (mvT hZ (hw _ (List.mem_of_getElem? (i := 25) rfl))) (by decide) (backOf (W := 0) (rmnew403 l Z a0 hw [] b37 b2_43 k2_43 x0 x1 x2 (0 : Int64) T43.heap n0 Z43 c43_0 c43_1 c43_2 c43_3 c43_4) hZ (hw _ (List.mem_of_getElem? (i := 27) rfl)) (hw _ (List.mem_of_getElem? (i := 3) rfl)) (by decide) (by decide)) q44a q44c (g := (mkF m 123 #[.val (.long x0), .second, .val (.long x1), .second, .val (.long x2), .second, .val (.long x3), .second, .val (.long x4), .second, .val (.int x5), .val (.int ad), .val (.int (4 : Int32)), .val (.ref b37), .val (.long x2), .second] [(.ref b37)])) rfl (by rw [hml]; rfl) (Steps.refl _) (argsL := []) (rest := []) (lenOf pd_3 rfl) rfl (by show 2 * 0 + _ ≤ _; exact Nat.le_of_eq rfl) (hb hby at_123) (fun _ _ => ⟨rfl, rfl, (by decide : 4 + 0 ≤ _), (by decide : 10 + 0 ≤ _)⟩)
          dsimp only [Pt.U, Pt.locs, Pt.cells, Pt.slots] at X44 l44 y44 z44 st44 hQ44
          subst l44 y44 z44
          obtain ⟨rfl, N44q, e44⟩ := hQ44
          have N44 := Fr.app N43 N44q
          refine own_Go.of (g' := (mkF m 126 #[.val (.long x0), .second, .val (.long x1), .second, .val (.long x2), .second, .val (.long x3), .second, .val (.long x4), .second, .val (.int x5), .val (.int ad), .val (.int (4 : Int32)), .val (.ref b37), .val (.long x2), .second] [(.long x2)])) (fun t k => st44.trans k) ?_
          refine og_lload (pc' := 128) X44 hx (hb hby at_126) rfl rfl ?_
          refine og_lcmp (pc' := 129) X44 hx (hb hby at_128) rfl ?_
          refine og_ifNo (pc' := 132) X44 hx (hb hby at_129) ((if0 _ _).trans (teq ((lw_eq _ _).mpr rfl)).2) rfl ?_
          refine og_iconst (pc' := 133) (n := 1) X44 hx (hb hby at_132) rfl rfl ?_
          refine og_goto (pc' := 137) X44 hx (hb hby at_133) (by decide) (by decide) ?_
          obtain ⟨fs, hr, hrun, hended, hW, hsame⟩ := X44.leave (v := some (.int (1 : Int32))) (fun h => by rw [Bd.returns] at h; cases h) (BodyLoose.notSynchronized Bd)
          refine ⟨_, _, retN X44 hx (t := .boolean) Bd.returns (by simp) (hb hby at_137) hr, hrun, hended, some (.int (1 : Int32)), _, rfl, ?_, ⟨_, rfl⟩, hW, hsame.mono (by decide) (by decide)⟩
          show Q0 Z x0 x1 x2 x3 x4 x5 h0 n0 _ T44.heap _
          rw [e44]
          exact ⟨rfl, N44⟩
        · refine og_icmpNo (pc' := 87) X43 hx (hb hby at_84) (flt hc84_15).1 rfl ?_
          refine og_aload (pc' := 89) X43 hx (hb hby at_87) rfl rfl rfl ?_
          refine og_lload (pc' := 91) X43 hx (hb hby at_89) rfl rfl ?_
          refine og_iload (pc' := 93) X43 hx (hb hby at_91) rfl rfl ?_
          obtain ⟨cq45, kq45, q45a, q45b, q45c⟩ := isOf hZ rfl c43_0
          obtain ⟨_, _, ⟨T45, L45, k45, n45⟩, -, X45, ⟨Lc45, hQ45, l45, y45, z45⟩, st45⟩ := X43.virtualBack hx (y := (⟨"com/example/ostracon/ostracon/LastValues", "add", "(JI)J"⟩ : MethodName)) (z := (⟨"com/example/ostracon/ostracon/LastValues", "add", "(JI)J"⟩ : MethodName)) hown (mvT hZ (hw _ (List.mem_of_getElem? (i := 13) rfl))) (mvT hZ (hw _ (List.mem_of_getElem? (i := 14) rfl))) (notFace_of_selects (args := #[]) (mvT hZ (hw _ (List.mem_of_getElem? (i := 16) rfl)))) (mvT hZ (hw _ (List.mem_of_getElem? (i := 16) rfl))) (mvT hZ (hw _ (List.mem_of_getElem? (i := 15) rfl))) (by decide) (backOf (W := 0) (rmadd4_403 l Z a0 hw [] b37 x3 b2_43 k2_43 x0 x1 x2 (0 : Int64) T43.heap n0 Z43 c43_0 c43_1 c43_2 c43_3 c43_4 g_b37 g_b2_43 ne43_3) hZ (hw _ (List.mem_of_getElem? (i := 17) rfl)) (hw _ (List.mem_of_getElem? (i := 3) rfl)) (by decide) (by decide)) q45a q45c (g := (mkF m 93 #[.val (.long x0), .second, .val (.long x1), .second, .val (.long x2), .second, .val (.long x3), .second, .val (.long x4), .second, .val (.int x5), .val (.int ad), .val (.int (4 : Int32)), .val (.ref b37), .val (.long x2), .second] [(.int (4 : Int32)), (.long x3), (.ref b37)])) rfl (by rw [hml]; rfl) (Steps.refl _) (argsL := [(.long x3), (.int (4 : Int32))]) (rest := []) (lenOf pd_2 rfl) rfl (by show 2 * 0 + _ ≤ _; exact Nat.le_of_eq rfl) (hb hby at_93) (fun _ _ => ⟨rfl, rfl, (by decide : 4 + 0 ≤ _), (by decide : 10 + 0 ≤ _)⟩)
          dsimp only [Pt.U, Pt.locs, Pt.cells, Pt.slots] at X45 l45 y45 z45 st45 hQ45
          subst l45 y45 z45
          obtain ⟨rfl, N45q, K45q, c45_0, c45_1, c45_2, c45_3, c45_4⟩ := hQ45
          have N45 := Fr.app N43 N45q
          have f45_0 := c43_0.keep K45q
          have f45_1 := f43_1.keep K45q (ninS (Ne.symm ne38_0) (ninS ne43_4 nin0))
          have f45_2 := f43_2.keep K45q (ninS (Ne.symm ne41_1) (ninS ne43_5 nin0))
          have K45 : Keep h0 T45.heap [] := K43.trans K45q (allS (Or.inr sz_b37) (allS (Or.inr sz_b2_43) all0))
          have Z45 : n0 ≤ T45.heap.size := Nat.le_trans Z0 K45.1
          refine own_Go.of (g' := (mkF m 96 #[.val (.long x0), .second, .val (.long x1), .second, .val (.long x2), .second, .val (.long x3), .second, .val (.long x4), .second, .val (.int x5), .val (.int ad), .val (.int (4 : Int32)), .val (.ref b37), .val (.long x2), .second] [(.long (-1 : Int64))])) (fun t k => st45.trans k) ?_
          refine own_Go.of (g' := (mkF m 97 #[.val (.long x0), .second, .val (.long x1), .second, .val (.long x2), .second, .val (.long x3), .second, .val (.long x4), .second, .val (.int x5), .val (.int ad), .val (.int (4 : Int32)), .val (.ref b37), .val (.long x2), .second] [])) (fun t k => by jvm_step X45.here [X45.here.top, hx, (hb hby at_96), Value.category]; exact k) ?_
          refine og_lload (pc' := 99) X45 hx (hb hby at_97) rfl rfl ?_
          refine og_lstore (pc' := 101) (L' := #[.val (.long x0), .second, .val (.long x1), .second, .val (.long x2), .second, .val (.long x3), .second, .val (.long x4), .second, .val (.int x5), .val (.int ad), .val (.int (4 : Int32)), .val (.ref b37), .val (.long x3), .second]) X45 hx (hb hby at_99) rfl rfl ?_
          refine og_iload (pc' := 103) X45 hx (hb hby at_101) rfl rfl ?_
          refine og_iconst (pc' := 104) (n := 5) X45 hx (hb hby at_103) rfl rfl ?_
          by_cases hc104_16 : ad < (5 : Int32)
          · refine og_icmpYes (pc' := 121) X45 hx (hb hby at_104) (tlt hc104_16).1 (by decide) (by decide) ?_
            refine og_aload (pc' := 123) X45 hx (hb hby at_121) rfl rfl rfl ?_
            obtain ⟨cq46, kq46, q46a, q46b, q46c⟩ := isOf hZ rfl c45_0
            obtain ⟨_, _, ⟨T46, L46, k46, n46⟩, -, X46, ⟨Lc46, hQ46, l46, y46, z46⟩, st46⟩ := X45.virtualBack hx (y := (⟨"com/example/ostracon/ostracon/LastValues", "newest", "()J"⟩ : MethodName)) (z := (⟨"com/example/ostracon/ostracon/LastValues", "newest", "()J"⟩ : MethodName)) hown (mvT hZ (hw _ (List.mem_of_getElem? (i := 23) rfl))) (mvT hZ (hw _ (List.mem_of_getElem? (i := 24) rfl))) (notFace_of_selects (args := #[]) (mvT hZ (hw _ (List.mem_of_getElem? (i := 26) rfl)))) (mvT hZ (hw _ (List.mem_of_getElem? (i := 26) rfl))) (mvT hZ (hw _ (List.mem_of_getElem? (i := 25) rfl))) (by decide) (backOf (W := 0) (rmnew404 l Z a0 hw [] b37 b2_43 k2_43 x0 x1 x2 x3 T45.heap n0 Z45 c45_0 c45_1 c45_2 c45_3 c45_4) hZ (hw _ (List.mem_of_getElem? (i := 27) rfl)) (hw _ (List.mem_of_getElem? (i := 3) rfl)) (by decide) (by decide)) q46a q46c (g := (mkF m 123 #[.val (.long x0), .second, .val (.long x1), .second, .val (.long x2), .second, .val (.long x3), .second, .val (.long x4), .second, .val (.int x5), .val (.int ad), .val (.int (4 : Int32)), .val (.ref b37), .val (.long x3), .second] [(.ref b37)])) rfl (by rw [hml]; rfl) (Steps.refl _) (argsL := []) (rest := []) (lenOf pd_3 rfl) rfl (by show 2 * 0 + _ ≤ _; exact Nat.le_of_eq rfl) (hb hby at_123) (fun _ _ => ⟨rfl, rfl, (by decide : 4 + 0 ≤ _), (by decide : 10 + 0 ≤ _)⟩)
            dsimp only [Pt.U, Pt.locs, Pt.cells, Pt.slots] at X46 l46 y46 z46 st46 hQ46
            subst l46 y46 z46
            obtain ⟨rfl, N46q, e46⟩ := hQ46
            have N46 := Fr.app N45 N46q
            refine own_Go.of (g' := (mkF m 126 #[.val (.long x0), .second, .val (.long x1), .second, .val (.long x2), .second, .val (.long x3), .second, .val (.long x4), .second, .val (.int x5), .val (.int ad), .val (.int (4 : Int32)), .val (.ref b37), .val (.long x3), .second] [(.long x3)])) (fun t k => st46.trans k) ?_
            refine og_lload (pc' := 128) X46 hx (hb hby at_126) rfl rfl ?_
            refine og_lcmp (pc' := 129) X46 hx (hb hby at_128) rfl ?_
            refine og_ifNo (pc' := 132) X46 hx (hb hby at_129) ((if0 _ _).trans (teq ((lw_eq _ _).mpr rfl)).2) rfl ?_
            refine og_iconst (pc' := 133) (n := 1) X46 hx (hb hby at_132) rfl rfl ?_
            refine og_goto (pc' := 137) X46 hx (hb hby at_133) (by decide) (by decide) ?_
            obtain ⟨fs, hr, hrun, hended, hW, hsame⟩ := X46.leave (v := some (.int (1 : Int32))) (fun h => by rw [Bd.returns] at h; cases h) (BodyLoose.notSynchronized Bd)
            refine ⟨_, _, retN X46 hx (t := .boolean) Bd.returns (by simp) (hb hby at_137) hr, hrun, hended, some (.int (1 : Int32)), _, rfl, ?_, ⟨_, rfl⟩, hW, hsame.mono (by decide) (by decide)⟩
            show Q0 Z x0 x1 x2 x3 x4 x5 h0 n0 _ T46.heap _
            rw [e46]
            exact ⟨rfl, N46⟩
          · refine og_icmpNo (pc' := 107) X45 hx (hb hby at_104) (flt hc104_16).1 rfl ?_
            refine og_aload (pc' := 109) X45 hx (hb hby at_107) rfl rfl rfl ?_
            refine og_lload (pc' := 111) X45 hx (hb hby at_109) rfl rfl ?_
            refine og_iload (pc' := 113) X45 hx (hb hby at_111) rfl rfl ?_
            obtain ⟨cq47, kq47, q47a, q47b, q47c⟩ := isOf hZ rfl c45_0
            obtain ⟨_, _, ⟨T47, L47, k47, n47⟩, -, X47, ⟨Lc47, hQ47, l47, y47, z47⟩, st47⟩ := X45.virtualBack hx (y := (⟨"com/example/ostracon/ostracon/LastValues", "add", "(JI)J"⟩ : MethodName)) (z := (⟨"com/example/ostracon/ostracon/LastValues", "add", "(JI)J"⟩ : MethodName)) hown (mvT hZ (hw _ (List.mem_of_getElem? (i := 13) rfl))) (mvT hZ (hw _ (List.mem_of_getElem? (i := 14) rfl))) (notFace_of_selects (args := #[]) (mvT hZ (hw _ (List.mem_of_getElem? (i := 16) rfl)))) (mvT hZ (hw _ (List.mem_of_getElem? (i := 16) rfl))) (mvT hZ (hw _ (List.mem_of_getElem? (i := 15) rfl))) (by decide) (backOf (W := 0) (rmadd4_404 l Z a0 hw [] b37 x4 b2_43 k2_43 x0 x1 x2 x3 T45.heap n0 Z45 c45_0 c45_1 c45_2 c45_3 c45_4 g_b37 g_b2_43 ne43_3) hZ (hw _ (List.mem_of_getElem? (i := 17) rfl)) (hw _ (List.mem_of_getElem? (i := 3) rfl)) (by decide) (by decide)) q47a q47c (g := (mkF m 113 #[.val (.long x0), .second, .val (.long x1), .second, .val (.long x2), .second, .val (.long x3), .second, .val (.long x4), .second, .val (.int x5), .val (.int ad), .val (.int (4 : Int32)), .val (.ref b37), .val (.long x3), .second] [(.int (4 : Int32)), (.long x4), (.ref b37)])) rfl (by rw [hml]; rfl) (Steps.refl _) (argsL := [(.long x4), (.int (4 : Int32))]) (rest := []) (lenOf pd_2 rfl) rfl (by show 2 * 0 + _ ≤ _; exact Nat.le_of_eq rfl) (hb hby at_113) (fun _ _ => ⟨rfl, rfl, (by decide : 4 + 0 ≤ _), (by decide : 10 + 0 ≤ _)⟩)
            dsimp only [Pt.U, Pt.locs, Pt.cells, Pt.slots] at X47 l47 y47 z47 st47 hQ47
            subst l47 y47 z47
            obtain ⟨rfl, N47q, K47q, c47_0, c47_1, c47_2, c47_3, c47_4⟩ := hQ47
            have N47 := Fr.app N45 N47q
            have f47_0 := c45_0.keep K47q
            have f47_1 := f45_1.keep K47q (ninS (Ne.symm ne38_0) (ninS ne43_4 nin0))
            have f47_2 := f45_2.keep K47q (ninS (Ne.symm ne41_1) (ninS ne43_5 nin0))
            have K47 : Keep h0 T47.heap [] := K45.trans K47q (allS (Or.inr sz_b37) (allS (Or.inr sz_b2_43) all0))
            have Z47 : n0 ≤ T47.heap.size := Nat.le_trans Z0 K47.1
            refine own_Go.of (g' := (mkF m 116 #[.val (.long x0), .second, .val (.long x1), .second, .val (.long x2), .second, .val (.long x3), .second, .val (.long x4), .second, .val (.int x5), .val (.int ad), .val (.int (4 : Int32)), .val (.ref b37), .val (.long x3), .second] [(.long x0)])) (fun t k => st47.trans k) ?_
            refine own_Go.of (g' := (mkF m 117 #[.val (.long x0), .second, .val (.long x1), .second, .val (.long x2), .second, .val (.long x3), .second, .val (.long x4), .second, .val (.int x5), .val (.int ad), .val (.int (4 : Int32)), .val (.ref b37), .val (.long x3), .second] [])) (fun t k => by jvm_step X47.here [X47.here.top, hx, (hb hby at_116), Value.category]; exact k) ?_
            refine og_lload (pc' := 119) X47 hx (hb hby at_117) rfl rfl ?_
            refine og_lstore (pc' := 121) (L' := #[.val (.long x0), .second, .val (.long x1), .second, .val (.long x2), .second, .val (.long x3), .second, .val (.long x4), .second, .val (.int x5), .val (.int ad), .val (.int (4 : Int32)), .val (.ref b37), .val (.long x4), .second]) X47 hx (hb hby at_119) rfl rfl ?_
            refine og_aload (pc' := 123) X47 hx (hb hby at_121) rfl rfl rfl ?_
            obtain ⟨cq48, kq48, q48a, q48b, q48c⟩ := isOf hZ rfl c47_0
            obtain ⟨_, _, ⟨T48, L48, k48, n48⟩, -, X48, ⟨Lc48, hQ48, l48, y48, z48⟩, st48⟩ := X47.virtualBack hx (y := (⟨"com/example/ostracon/ostracon/LastValues", "newest", "()J"⟩ : MethodName)) (z := (⟨"com/example/ostracon/ostracon/LastValues", "newest", "()J"⟩ : MethodName)) hown (mvT hZ (hw _ (List.mem_of_getElem? (i := 23) rfl))) (mvT hZ (hw _ (List.mem_of_getElem? (i := 24) rfl))) (notFace_of_selects (args := #[]) (mvT hZ (hw _ (List.mem_of_getElem? (i := 26) rfl)))) (mvT hZ (hw _ (List.mem_of_getElem? (i := 26) rfl))) (mvT hZ (hw _ (List.mem_of_getElem? (i := 25) rfl))) (by decide) (backOf (W := 0) (rmnew414 l Z a0 hw [] b37 b2_43 k2_43 x4 x1 x2 x3 T47.heap n0 Z47 c47_0 c47_1 c47_2 c47_3 c47_4) hZ (hw _ (List.mem_of_getElem? (i := 27) rfl)) (hw _ (List.mem_of_getElem? (i := 3) rfl)) (by decide) (by decide)) q48a q48c (g := (mkF m 123 #[.val (.long x0), .second, .val (.long x1), .second, .val (.long x2), .second, .val (.long x3), .second, .val (.long x4), .second, .val (.int x5), .val (.int ad), .val (.int (4 : Int32)), .val (.ref b37), .val (.long x4), .second] [(.ref b37)])) rfl (by rw [hml]; rfl) (Steps.refl _) (argsL := []) (rest := []) (lenOf pd_3 rfl) rfl (by show 2 * 0 + _ ≤ _; exact Nat.le_of_eq rfl) (hb hby at_123) (fun _ _ => ⟨rfl, rfl, (by decide : 4 + 0 ≤ _), (by decide : 10 + 0 ≤ _)⟩)
            dsimp only [Pt.U, Pt.locs, Pt.cells, Pt.slots] at X48 l48 y48 z48 st48 hQ48
            subst l48 y48 z48
            obtain ⟨rfl, N48q, e48⟩ := hQ48
            have N48 := Fr.app N47 N48q
            refine own_Go.of (g' := (mkF m 126 #[.val (.long x0), .second, .val (.long x1), .second, .val (.long x2), .second, .val (.long x3), .second, .val (.long x4), .second, .val (.int x5), .val (.int ad), .val (.int (4 : Int32)), .val (.ref b37), .val (.long x4), .second] [(.long x4)])) (fun t k => st48.trans k) ?_
            refine og_lload (pc' := 128) X48 hx (hb hby at_126) rfl rfl ?_
            refine og_lcmp (pc' := 129) X48 hx (hb hby at_128) rfl ?_
            refine og_ifNo (pc' := 132) X48 hx (hb hby at_129) ((if0 _ _).trans (teq ((lw_eq _ _).mpr rfl)).2) rfl ?_
            refine og_iconst (pc' := 133) (n := 1) X48 hx (hb hby at_132) rfl rfl ?_
            refine og_goto (pc' := 137) X48 hx (hb hby at_133) (by decide) (by decide) ?_
            obtain ⟨fs, hr, hrun, hended, hW, hsame⟩ := X48.leave (v := some (.int (1 : Int32))) (fun h => by rw [Bd.returns] at h; cases h) (BodyLoose.notSynchronized Bd)
            refine ⟨_, _, retN X48 hx (t := .boolean) Bd.returns (by simp) (hb hby at_137) hr, hrun, hended, some (.int (1 : Int32)), _, rfl, ?_, ⟨_, rfl⟩, hW, hsame.mono (by decide) (by decide)⟩
            show Q0 Z x0 x1 x2 x3 x4 x5 h0 n0 _ T48.heap _
            rw [e48]
            exact ⟨rfl, N48⟩

set_option maxRecDepth 65536 in
set_option maxHeartbeats 40000000 in
theorem comes_1 {Post : Tables → Env → Array Value → State → Outcome → State → Prop} (hpost : ∀ tb e args s v u, (limb_1_1.after args s (.returned v) u = true ∧ limb_1_2.after args s (.returned v) u = true ∧ True) → FrameEnd s (.returned v) u (Jvm.fieldLocs frame_1_writes args s ++ Jvm.arrayLocs frame_1_arrays args s ++ Jvm.staticLocs frame_1_statics s) 16 128 → Post tb e args s (.returned v) u) :
    ArmFor flags0 classFile x code maxLocals ret World_1 tables_1 room_1 Calls_1 rest_1 Pre_1 Post := by
  intro l hfl _ _ p e ha hc hk s m args below hf hA hF happ hP
  obtain ⟨hcalls, hrest, hpre⟩ := hP
  obtain ⟨-, -, -, hnamed, -, -, -, hat⟩ := (Spec.applies_iff hf).mp happ
  obtain ⟨hg, hn⟩ := and_e (Cond.before_iff.mp (show (Jvm.Cond.and given_1 narrow_1).before args s = true from hpre))
  obtain ⟨hcnt, hg0⟩ := and_e hg
  obtain ⟨a0, hg1⟩ := and_e hg0
  obtain ⟨a1, hg2⟩ := and_e hg1
  obtain ⟨a2, hg3⟩ := and_e hg2
  obtain ⟨a3, hg4⟩ := and_e hg3
  obtain ⟨a4, hg5⟩ := and_e hg4
  obtain ⟨w0, w1, w2, w3, w4, w5, rfl⟩ : ∃ w0 w1 w2 w3 w4 w5 : Value, args = #[w0, w1, w2, w3, w4, w5] := by
    have hs : args.size = 6 := by simpa [Cond.value, given_1] using hcnt
    obtain ⟨L⟩ := args
    match L, hs with
    | [w0, w1, w2, w3, w4, w5], _ => exact ⟨w0, w1, w2, w3, w4, w5, rfl⟩
  have hw := fun d (hd : d ∈ tables_1) => atoms_spec (ws := Jvm.Cond.code x code maxLocals ret :: tables_1) hat d (List.mem_cons_of_mem _ hd)
  have hfit : Fit s := fun {y c} hc i hi => by
    obtain ⟨ha, rfl⟩ := Array.getElem?_eq_some_iff.mp hc
    have q := List.all_eq_true.mp ((Array.all_eq_true_iff_forall_mem.mp hF) _ (Array.getElem_mem ha)) i (List.mem_range.mpr hi)
    simpa [Array.getElem?_eq_getElem hi] using q
  obtain ⟨i0, ei0⟩ := isL_v a0
  obtain rfl : w0 = (.long i0) := Option.some.inj ei0
  obtain ⟨i1, ei1⟩ := isL_v a1
  obtain rfl : w1 = (.long i1) := Option.some.inj ei1
  obtain ⟨i2, ei2⟩ := isL_v a2
  obtain rfl : w2 = (.long i2) := Option.some.inj ei2
  obtain ⟨i3, ei3⟩ := isL_v a3
  obtain rfl : w3 = (.long i3) := Option.some.inj ei3
  obtain ⟨i4, ei4⟩ := isL_v a4
  obtain rfl : w4 = (.long i4) := Option.some.inj ei4
  obtain ⟨i5, ei5⟩ := is_v hg5
  obtain rfl : w5 = (.int i5) := Option.some.inj ei5
  obtain ⟨n, o, h1, h2, h3, _, L, rfl, ⟨rfl, N⟩, hq⟩ := rm0 l s _ hw tables_1 i0 i1 i2 i3 i4 i5  s.heap s.heap.size (Nat.le_refl _)  p e ha hc hk s m _ below hf ((Spec.applies_iff_loose hf).mp happ).1 ⟨rfl, State.Warmed39.refl s, rfl⟩ trivial
  refine ⟨n, _, h1, h2, h3, hpost _ _ _ _ _ _ ⟨Cond.after_iff.mpr rfl, Cond.after_iff.mpr (eq_i res_at (Term.int_eval (1)) rfl), trivial⟩ ⟨hq.1, hq.2.1, (hq.2.2.sift fun y hy => Or.inr (N y hy)).mono (by decide) (by decide)⟩⟩
theorem main_1_1 : Claimed_1_1 := comes_1 fun _ _ _ _ _ _ h hF => ⟨h.1, hF⟩
theorem main_1_2 : Claimed_1_2 := comes_1 fun _ _ _ _ _ _ h hF => ⟨h.2.1, hF⟩

end Jvm.Pilot.@@N@@
namespace Jvm.Pilot.@@N@@
open Jvm Jvm.ClassFile Sem Op Lib Jvm.Free Jvm.Stand Jvm.Pilot.@@N@@.Jvm.D
/-! MADE BY PROGRAM (witnessworld.py) out of the Statement's table words and the real class files: 12 classes; the members and pool entries that the words name. The judged class is class 1, her method 1. -/
namespace start1
open Jvm.ClassFile
def u (s : String) : CpInfo := .utf8 (stringToUtf16 s)
/-- a pool by its gaps: so many unusable entries, then the entry; so many at the end -/
def gap : Nat → List CpInfo → List CpInfo
  | 0, r => r
  | n + 1, r => .unusable :: gap n r
def poolList (es : List (Nat × CpInfo)) (last : Nat) : List CpInfo := es.foldr (fun e r => gap e.1 (e.2 :: r)) (gap last [])
def pool (es : List (Nat × CpInfo)) (last : Nat) : Array CpInfo := ⟨poolList es last⟩
def fileOf (pool : Array CpInfo) (this : Nat) (attrs : Array Attribute := #[]) (ms : Array MethodInfo := #[]) (fl : Nat := 33) (sup : Nat := 0) (ifs : Array Nat := #[]) (fds : Array FieldInfo := #[]) : ClassFile where
  minorVersion := 0
  majorVersion := 65
  constantPool := pool
  accessFlags := fl
  thisClass := this
  superClass := sup
  interfaces := ifs
  fields := fds
  methods := ms
  attributes := attrs
def plain (name : String) (sup : Option ClassId) : Class where
  name := name
  kind := .ordinary
  loader := none
  accessFlags := 33
  super := sup
  interfaces := #[]
  cf := none
  fields := #[]
  methods := #[]
  instanceTypes := #[]
  staticTypes := #[]
  resolved := #[]
  callSites := []
  init := .initialized
  statics := none
  mirror := none

def pool0 : Array CpInfo := pool [(5, u "<init>"), (0, u "()V"), (1, .class_ 10), (1, u "java/lang/Object")] 113

def k0c0 : Code := { maxStack := 0, maxLocals := 1, code := object_method_1_code, exceptionTable := #[], attributes := #[] }
def k0m0 : Method := { name := "<init>", desc := "()V", sig := { parameters := [], returnType := none }, accessFlags := 1, code := some k0c0 }
/-- java/lang/Object -/
def k0 : Class := { plain "java/lang/Object" none with
  accessFlags := 33
  interfaces := #[]
  cf := some (fileOf pool0 8 #[] #[{ accessFlags := 1, nameIndex := 5, descriptorIndex := 6, attributes := #[] }] 33 0 #[] #[])
  fields := #[]
  methods := #[k0m0]
  instanceTypes := #[]
  staticTypes := #[]
  resolved := Array.replicate 124 none
  statics := none }

def pool1 : Array CpInfo := pool [(2, .class_ 4), (0, .nameAndType 5 6), (0, u "java/lang/Object"), (0, u "<init>"), (0, u "()V"), (0, .integer 2147483647), (0, .class_ 9), (0, u "com/example/ostracon/ostracon/LastValues"), (0, .methodref 8 3), (0, .methodref 8 12), (0, .nameAndType 13 14), (0, u "add"), (0, u "(JI)J"), (0, .methodref 8 16), (0, .nameAndType 17 18), (0, u "newest"), (0, u "()J"), (0, .class_ 20), (0, u "com/example/ostracon/ostracon/LastValuesNewestPinLaw"), (2, u "law"), (0, u "(JJJJJI)Z")] 3

def k1m0 : Method := { name := "<init>", desc := "()V", sig := { parameters := [], returnType := none }, accessFlags := 1, code := none }
def k1c1 : Code := { maxStack := 4, maxLocals := 16, code := code, exceptionTable := #[], attributes := #[] }
def k1m1 : Method := { name := "law", desc := "(JJJJJI)Z", sig := { parameters := [.long, .long, .long, .long, .long, .int], returnType := some .boolean }, accessFlags := 9, code := some k1c1 }
/-- com/example/ostracon/ostracon/LastValuesNewestPinLaw -/
def k1 : Class := { plain "com/example/ostracon/ostracon/LastValuesNewestPinLaw" (some 0) with
  accessFlags := 49
  interfaces := #[]
  cf := some (fileOf pool1 19 #[] #[{ accessFlags := 1, nameIndex := 5, descriptorIndex := 6, attributes := #[] }, { accessFlags := 9, nameIndex := 23, descriptorIndex := 24, attributes := #[] }] 49 2 #[] #[])
  fields := #[]
  methods := #[k1m0, k1m1]
  instanceTypes := #[]
  staticTypes := #[]
  resolved := Array.replicate 28 none
  statics := none }

def pool2 : Array CpInfo := pool [(1, .methodref 2 3), (0, .class_ 4), (0, .nameAndType 5 6), (0, u "java/lang/Object"), (0, u "<init>"), (0, u "()V"), (0, .fieldref 8 9), (0, .class_ 10), (0, .nameAndType 11 12), (0, u "com/example/ostracon/ostracon/LastValues"), (0, u "values"), (0, u "[J"), (0, .fieldref 8 14), (0, .nameAndType 15 16), (0, u "count"), (0, u "I"), (0, .methodref 18 19), (0, .class_ 20), (0, .nameAndType 21 22), (0, u "java/lang/Math"), (0, u "min"), (0, u "(II)I"), (0, .fieldref 8 24), (0, .nameAndType 25 16), (0, u "start"), (0, .long 18446744073709551615), (3, u "add"), (0, u "(JI)J"), (4, u "()J"), (0, u "newest")] 2

def k2c0 : Code := { maxStack := 2, maxLocals := 1, code := prog_19_method_1_code, exceptionTable := #[], attributes := #[] }
def k2m0 : Method := { name := "<init>", desc := "()V", sig := { parameters := [], returnType := none }, accessFlags := 0, code := some k2c0 }
def k2c1 : Code := { maxStack := 5, maxLocals := 6, code := prog_19_method_2_code, exceptionTable := #[], attributes := #[] }
def k2m1 : Method := { name := "add", desc := "(JI)J", sig := { parameters := [.long, .int], returnType := some .long }, accessFlags := 0, code := some k2c1 }
def k2c2 : Code := { maxStack := 3, maxLocals := 1, code := prog_19_method_5_code, exceptionTable := #[], attributes := #[] }
def k2m2 : Method := { name := "newest", desc := "()J", sig := { parameters := [], returnType := some .long }, accessFlags := 0, code := some k2c2 }
/-- com/example/ostracon/ostracon/LastValues -/
def k2 : Class := { plain "com/example/ostracon/ostracon/LastValues" (some 0) with
  accessFlags := 48
  interfaces := #[]
  cf := some (fileOf pool2 8 #[] #[{ accessFlags := 0, nameIndex := 5, descriptorIndex := 6, attributes := #[] }, { accessFlags := 0, nameIndex := 30, descriptorIndex := 31, attributes := #[] }, { accessFlags := 0, nameIndex := 37, descriptorIndex := 36, attributes := #[] }] 48 2 #[] #[{ accessFlags := 2, nameIndex := 11, descriptorIndex := 12, attributes := #[] }, { accessFlags := 2, nameIndex := 25, descriptorIndex := 16, attributes := #[] }, { accessFlags := 2, nameIndex := 15, descriptorIndex := 16, attributes := #[] }])
  fields := #[{ name := "values", type := (.array .long), accessFlags := 2, slot := 0, constantValue := 0 }, { name := "start", type := .int, accessFlags := 2, slot := 1, constantValue := 0 }, { name := "count", type := .int, accessFlags := 2, slot := 2, constantValue := 0 }]
  methods := #[k2m0, k2m1, k2m2]
  instanceTypes := #[(.array .long), .int, .int]
  staticTypes := #[]
  resolved := Array.replicate 40 none
  statics := none }

def pool3 : Array CpInfo := pool [(1, .class_ 2), (0, u "java/lang/Math"), (1, .class_ 6), (1, u "java/lang/Object"), (0, u "<init>"), (0, u "()V"), (89, .class_ 100), (1, u "java/lang/Math$RandomNumberGeneratorHolder"), (71, u "negativeZeroFloatBits"), (0, u "J"), (2, u "negativeZeroDoubleBits"), (24, u "min"), (43, u "$assertionsDisabled"), (0, u "Z"), (88, u "(II)I"), (2, u "twoToTheDoubleScaleDown"), (0, u "D"), (4, u "twoToTheDoubleScaleUp"), (9, u "E"), (3, u "PI"), (2, u "TAU"), (2, u "DEGREES_TO_RADIANS"), (0, u "RADIANS_TO_DEGREES")] 94

def k3m0 : Method := { name := "<init>", desc := "()V", sig := { parameters := [], returnType := none }, accessFlags := 2, code := none }
def k3c1 : Code := { maxStack := 2, maxLocals := 2, code := jdk_29_method_69_code, exceptionTable := #[], attributes := #[] }
def k3m1 : Method := { name := "min", desc := "(II)I", sig := { parameters := [.int, .int], returnType := some .int }, accessFlags := 9, code := some k3c1 }
/-- java/lang/Math -/
def k3 : Class := { plain "java/lang/Math" (some 0) with
  accessFlags := 49
  interfaces := #[]
  cf := some (fileOf pool3 1 #[.nestMembers #[98]] #[{ accessFlags := 2, nameIndex := 7, descriptorIndex := 8, attributes := #[] }, { accessFlags := 9, nameIndex := 201, descriptorIndex := 335, attributes := #[] }] 49 4 #[] #[{ accessFlags := 25, nameIndex := 354, descriptorIndex := 339, attributes := #[] }, { accessFlags := 25, nameIndex := 358, descriptorIndex := 339, attributes := #[] }, { accessFlags := 25, nameIndex := 361, descriptorIndex := 339, attributes := #[] }, { accessFlags := 26, nameIndex := 364, descriptorIndex := 339, attributes := #[] }, { accessFlags := 26, nameIndex := 365, descriptorIndex := 339, attributes := #[] }, { accessFlags := 26, nameIndex := 172, descriptorIndex := 173, attributes := #[] }, { accessFlags := 26, nameIndex := 176, descriptorIndex := 173, attributes := #[] }, { accessFlags := 8, nameIndex := 344, descriptorIndex := 339, attributes := #[] }, { accessFlags := 8, nameIndex := 338, descriptorIndex := 339, attributes := #[] }, { accessFlags := 4120, nameIndex := 245, descriptorIndex := 246, attributes := #[] }])
  fields := #[{ name := "E", type := .double, accessFlags := 25, slot := 0, constantValue := 0 }, { name := "PI", type := .double, accessFlags := 25, slot := 1, constantValue := 0 }, { name := "TAU", type := .double, accessFlags := 25, slot := 2, constantValue := 0 }, { name := "DEGREES_TO_RADIANS", type := .double, accessFlags := 26, slot := 3, constantValue := 0 }, { name := "RADIANS_TO_DEGREES", type := .double, accessFlags := 26, slot := 4, constantValue := 0 }, { name := "negativeZeroFloatBits", type := .long, accessFlags := 26, slot := 5, constantValue := 0 }, { name := "negativeZeroDoubleBits", type := .long, accessFlags := 26, slot := 6, constantValue := 0 }, { name := "twoToTheDoubleScaleUp", type := .double, accessFlags := 8, slot := 7, constantValue := 0 }, { name := "twoToTheDoubleScaleDown", type := .double, accessFlags := 8, slot := 8, constantValue := 0 }, { name := "$assertionsDisabled", type := .boolean, accessFlags := 4120, slot := 9, constantValue := 0 }]
  methods := #[k3m0, k3m1]
  instanceTypes := #[]
  staticTypes := #[.double, .double, .double, .double, .double, .long, .long, .double, .double, .boolean]
  resolved := Array.replicate 460 none
  statics := none }

def pool4 : Array CpInfo := pool [(1, u "java/lang/Cloneable"), (0, .class_ 1), (0, u "java/lang/Object"), (0, .class_ 3)] 3

/-- java/lang/Cloneable -/
def k4 : Class := { plain "java/lang/Cloneable" (some 0) with
  accessFlags := 1537
  interfaces := #[]
  cf := some (fileOf pool4 2 #[] #[] 1537 4 #[] #[])
  fields := #[]
  methods := #[]
  instanceTypes := #[]
  staticTypes := #[]
  resolved := Array.replicate 8 none
  statics := none }

def pool5 : Array CpInfo := pool [(1, u "java/io/Serializable"), (0, .class_ 1), (0, u "java/lang/Object"), (0, .class_ 3)] 3

/-- java/io/Serializable -/
def k5 : Class := { plain "java/io/Serializable" (some 0) with
  accessFlags := 1537
  interfaces := #[]
  cf := some (fileOf pool5 2 #[] #[] 1537 4 #[] #[])
  fields := #[]
  methods := #[]
  instanceTypes := #[]
  staticTypes := #[]
  resolved := Array.replicate 8 none
  statics := none }

/-- the primitive byte -/
def k6 : Class := { plain "byte" none with kind := .primitive 'B', accessFlags := 0x411 }
/-- [B -/
def k7 : Class := { plain "[B" (some 0) with kind := .array 6 .byte, interfaces := #[4, 5], accessFlags := 1041 }

/-- the primitive int -/
def k8 : Class := { plain "int" none with kind := .primitive 'I', accessFlags := 0x411 }
/-- [I -/
def k9 : Class := { plain "[I" (some 0) with kind := .array 8 .int, interfaces := #[4, 5], accessFlags := 1041 }

/-- the primitive long -/
def k10 : Class := { plain "long" none with kind := .primitive 'J', accessFlags := 0x411 }
/-- [J -/
def k11 : Class := { plain "[J" (some 0) with kind := .array 10 .long, interfaces := #[4, 5], accessFlags := 1041 }

def heap : Heap := #[]
def classes : Array Class := #[k0, k1, k2, k3, k4, k5, k6, k7, k8, k9, k10, k11]
def interned : List (Array UInt16 × Addr) := []
def slotsUsed : Nat := 0
def theMethod : MethodId := ⟨1, 1⟩
def args0 : Array Value := #[.long 5, .long 6, .long 7, .long 8, .long 9, .int 3]
def aboutOver (below : List Frame) : State where
  vm := { classes := classes, interned := interned.toArray }
  heap := heap
  slotsUsed := slotsUsed
  threads := #[{ frames := .invoking theMethod args0 :: below }]
def below0 : List Frame := [.native { method := ⟨0, 0⟩, args := #[] }]
def about1 : State := aboutOver below0
def p0 : Program := .bare "" "" ""
def e0 : Env := launch0.env 0 0 0
theorem w_frames : about1.frames = Frame.invoking theMethod args0 :: below0 := rfl
set_option maxRecDepth 65536 in
theorem w_args : argsFit about1.vm theMethod args0 = true := by decide +kernel
set_option maxRecDepth 65536 in
theorem w_heap : heapFits about1 = true := by decide +kernel
set_option maxRecDepth 65536 in
theorem w_runnable : about1.curStatus? = some .runnable := by decide +kernel
set_option maxRecDepth 65536 in
theorem w_alone : about1.alone = true := by decide +kernel
set_option maxRecDepth 65536 in
theorem w_named : about1.methodNamed? x = some theMethod := by decide +kernel
set_option maxRecDepth 65536 in
theorem w_hears : about1.hears theMethod below0 = true := by decide +kernel
set_option maxRecDepth 65536 in
theorem w_ripe : about1.ripe theMethod args0 below0 = true := by decide +kernel
theorem w_running : about1.status = .running := rfl
set_option maxRecDepth 65536 in
theorem w_room : about1.hasRoom e0.platform room_1 = true :=
  launch0.hasRoom_least _ room_1 (by decide +kernel) (by decide +kernel) (by decide +kernel) (by decide +kernel) (by decide +kernel) (by decide +kernel)
theorem allAtoms_all (ts : List Jvm.Cond) (a : Array Jvm.Value) (st : Jvm.State) : (allAtoms ts).before a st = ts.all (fun c => c.before a st) := by
  induction ts with
  | nil => rfl
  | cons c t ih =>
    show (Jvm.Cond.and c (allAtoms t)).before a st = _
    rw [Jvm.Cond.before_and, ih, List.all_cons]
def words1 : List Jvm.Cond := Jvm.Cond.code x code maxLocals ret :: tables_1
/-- a 'code' word, met by the world's own term for the bytes: nothing is compared byte by byte -/
theorem code_word {y : MethodName} {bytes : ByteArray} {mx : Nat} {rt : Option FieldType} {a : Array Value} {s : State} {m : MethodId} {meth : Method} {c : Code} (h1 : s.methodNamed? y = some m) (h2 : s.vm.method? m = some meth) (h3 : meth.code = some c) (h4 : c.code = bytes)
    (h5 : (c.maxLocals == mx && c.exceptionTable.isEmpty && decide (c.maxStack ≤ mostOperands) && decide (meth.sig.returnType = rt) && !meth.locks && decide (parseMethodDescriptor y.desc = some meth.sig)) = true) : (Jvm.Cond.code y bytes mx rt).before a s = true := by
  simp only [Bool.and_eq_true, beq_iff_eq, Bool.not_eq_true', decide_eq_true_eq] at h5
  obtain ⟨⟨⟨⟨⟨g1, g2⟩, g3⟩, g4⟩, g5⟩, g6⟩ := h5
  simp [Cond.before, Cond.holds, Cond.value, h1, h2, h3, h4, g1, g2, g3, g4, g5, g6]
def isCode : Jvm.Cond → Bool
  | .code _ _ _ _ => true
  | _ => false
theorem all_split {L : List Jvm.Cond} {P : Jvm.Cond → Bool} (h1 : L.all (fun c => isCode c || P c) = true) (h2 : ∀ c ∈ L.filter isCode, P c = true) : L.all P = true := by
  refine List.all_eq_true.mpr fun c hc => ?_
  have h := List.all_eq_true.mp h1 c hc
  rcases Bool.eq_false_or_eq_true (isCode c) with hi | hi
  · exact h2 c (List.mem_filter.mpr ⟨hc, hi⟩)
  · simpa [hi] using h
set_option maxRecDepth 65536 in
theorem w_c0 : (Jvm.Cond.code x code maxLocals ret).before args0 about1 = true := code_word (m := ⟨1, 1⟩) (meth := k1m1) (c := k1c1) (by decide +kernel) rfl rfl rfl (by decide +kernel)
set_option maxRecDepth 65536 in
theorem w_c1 : (Jvm.Cond.code ({ cls := "com/example/ostracon/ostracon/LastValues", name := "<init>", desc := "()V" } : Jvm.MethodName) prog_19_method_1_code (1 : Nat) (Option.none : Option Jvm.ClassFile.FieldType)).before args0 about1 = true := code_word (m := ⟨2, 0⟩) (meth := k2m0) (c := k2c0) (by decide +kernel) rfl rfl rfl (by decide +kernel)
set_option maxRecDepth 65536 in
theorem w_c2 : (Jvm.Cond.code ({ cls := "java/lang/Object", name := "<init>", desc := "()V" } : Jvm.MethodName) object_method_1_code (1 : Nat) (Option.none : Option Jvm.ClassFile.FieldType)).before args0 about1 = true := code_word (m := ⟨0, 0⟩) (meth := k0m0) (c := k0c0) (by decide +kernel) rfl rfl rfl (by decide +kernel)
set_option maxRecDepth 65536 in
theorem w_c3 : (Jvm.Cond.code ({ cls := "com/example/ostracon/ostracon/LastValues", name := "add", desc := "(JI)J" } : Jvm.MethodName) prog_19_method_2_code (6 : Nat) (Option.some Jvm.ClassFile.FieldType.long)).before args0 about1 = true := code_word (m := ⟨2, 1⟩) (meth := k2m1) (c := k2c1) (by decide +kernel) rfl rfl rfl (by decide +kernel)
set_option maxRecDepth 65536 in
theorem w_c4 : (Jvm.Cond.code ({ cls := "com/example/ostracon/ostracon/LastValues", name := "newest", desc := "()J" } : Jvm.MethodName) prog_19_method_5_code (1 : Nat) (Option.some Jvm.ClassFile.FieldType.long)).before args0 about1 = true := code_word (m := ⟨2, 2⟩) (meth := k2m2) (c := k2c2) (by decide +kernel) rfl rfl rfl (by decide +kernel)
set_option maxRecDepth 65536 in
theorem w_c5 : (Jvm.Cond.code ({ cls := "java/lang/Math", name := "min", desc := "(II)I" } : Jvm.MethodName) jdk_29_method_69_code (2 : Nat) (Option.some Jvm.ClassFile.FieldType.int)).before args0 about1 = true := code_word (m := ⟨3, 1⟩) (meth := k3m1) (c := k3c1) (by decide +kernel) rfl rfl rfl (by decide +kernel)
def codes1 : List Jvm.Cond := [Jvm.Cond.code x code maxLocals ret, Jvm.Cond.code ({ cls := "com/example/ostracon/ostracon/LastValues", name := "<init>", desc := "()V" } : Jvm.MethodName) prog_19_method_1_code (1 : Nat) (Option.none : Option Jvm.ClassFile.FieldType), Jvm.Cond.code ({ cls := "java/lang/Object", name := "<init>", desc := "()V" } : Jvm.MethodName) object_method_1_code (1 : Nat) (Option.none : Option Jvm.ClassFile.FieldType), Jvm.Cond.code ({ cls := "com/example/ostracon/ostracon/LastValues", name := "add", desc := "(JI)J" } : Jvm.MethodName) prog_19_method_2_code (6 : Nat) (Option.some Jvm.ClassFile.FieldType.long), Jvm.Cond.code ({ cls := "com/example/ostracon/ostracon/LastValues", name := "newest", desc := "()J" } : Jvm.MethodName) prog_19_method_5_code (1 : Nat) (Option.some Jvm.ClassFile.FieldType.long), Jvm.Cond.code ({ cls := "java/lang/Math", name := "min", desc := "(II)I" } : Jvm.MethodName) jdk_29_method_69_code (2 : Nat) (Option.some Jvm.ClassFile.FieldType.int)]
set_option maxRecDepth 65536 in
theorem codes_eq : words1.filter isCode = codes1 := rfl
theorem w_codes : ∀ c ∈ words1.filter isCode, c.before args0 about1 = true := by
  rw [codes_eq]
  intro c hc
  simp only [codes1, List.mem_cons, List.not_mem_nil, or_false] at hc
  rcases hc with rfl | rfl | rfl | rfl | rfl | rfl
  · exact w_c0
  · exact w_c1
  · exact w_c2
  · exact w_c3
  · exact w_c4
  · exact w_c5
set_option maxRecDepth 65536 in
theorem w_t1 : (words1.take 24).all (fun c => isCode c || c.before args0 about1) = true := by decide +kernel
set_option maxRecDepth 65536 in
theorem w_t2 : (words1.drop 24).all (fun c => isCode c || c.before args0 about1) = true := by decide +kernel
theorem w_tables : (allAtoms (Jvm.Cond.code x code maxLocals ret :: tables_1)).before args0 about1 = true := by
  rw [allAtoms_all]
  show words1.all (fun c => c.before args0 about1) = true
  refine all_split ?_ w_codes
  rw [← List.take_append_drop 24 words1, List.all_append, w_t1, w_t2]
  rfl
set_option maxRecDepth 65536 in
theorem w_case : (Jvm.Cond.and given_1 narrow_1).before args0 about1 = true := by decide +kernel
theorem w_applies : (headSpec (Jvm.Cond.code x code maxLocals ret :: tables_1) room_1).applies x e0.platform about1 = true :=
  (Spec.applies_iff w_frames).mpr ⟨w_running, w_runnable, w_alone, w_named, w_hears, w_ripe, w_room, w_tables⟩
theorem atStart : AtStart classFile x code maxLocals ret World_1 tables_1 room_1 Calls_1 rest_1 Pre_1 launch0 p0 e0 about1 theMethod args0 below0 :=
  ⟨lists_1, trivial, launch0.admits_env _ _ _, launch0.least_env, fairChoices_fair.cas, fairChoices_fair.clock, w_frames, w_args, w_heap, w_applies, trivial, trivial, w_case⟩
end start1
theorem witness_1 : WitnessClaimed_1 := ⟨start1.p0, start1.e0, start1.about1, start1.theMethod, start1.args0, start1.below0, start1.atStart⟩
end Jvm.Pilot.@@N@@
