import JvmDerived
import JvmDerived.Pilot.@@N@@Statement
import JvmDerived.Pilot.@@N@@Code
set_option linter.unusedVariables false
set_option linter.unusedSimpArgs false

namespace Jvm.RoadKit
open Sem ClassFile Op Lib Jvm.Stand Jvm.Free Jvm.LawKit
section New
variable {p : Program} {l : Launch} {e : Env} {R : Room} {s : State} {m : MethodId} {args : Array Value} {below : List Frame} {meth : Method} {c : Code} {T : State} {locs : List Loc} {cells slots : Nat}
theorem retI (X : Stand p l e R s m args below meth c T locs cells slots) (hx : p.tables.exec = Jvm.exec) {pc : Nat} {Ls : Array Slot} {z : Int32} {rest : List Value} (hret : meth.sig.returnType = some .int) (hd : decode c.code pc = .ok (.ireturn, 1)) {fs : List Frame}
    (hl : ∀ (f : JFrame) (acts : List Action), f.method = m → f.locked = none → f.entered = [] → (doReturn e (T.setTop f) acts (some (.int z))).1 = T.setFrames fs) : Steps p.tables e below (T.setTop (mkF m pc Ls (.int z :: rest))) (T.setFrames fs) := by
  have hm' : T.vm.method? m = some meth := X.method'
  have hn : narrow .int (.int z) = .int z := rfl
  show Steps p.tables e below (T.setTop { method := m, pc := pc, locals := Ls, stack := _ :: rest, locked := none }) _
  jvm_step X.here [X.here.top, hx, hd, hm', hret, hn]
  first | (intro acts; rw [hl _ acts rfl rfl rfl]) | rw [hl _ _ rfl rfl rfl]
  exact Steps.refl _
theorem retL (X : Stand p l e R s m args below meth c T locs cells slots) (hx : p.tables.exec = Jvm.exec) {pc : Nat} {Ls : Array Slot} {z : Int64} {rest : List Value} (hret : meth.sig.returnType = some .long) (hd : decode c.code pc = .ok (.lreturn, 1)) {fs : List Frame}
    (hl : ∀ (f : JFrame) (acts : List Action), f.method = m → f.locked = none → f.entered = [] → (doReturn e (T.setTop f) acts (some (.long z))).1 = T.setFrames fs) : Steps p.tables e below (T.setTop (mkF m pc Ls (.long z :: rest))) (T.setFrames fs) := by
  have hm' : T.vm.method? m = some meth := X.method'
  have hn : narrow .long (.long z) = .long z := rfl
  show Steps p.tables e below (T.setTop { method := m, pc := pc, locals := Ls, stack := _ :: rest, locked := none }) _
  jvm_step X.here [X.here.top, hx, hd, hm', hret, hn]
  first | (intro acts; rw [hl _ acts rfl rfl rfl]) | rw [hl _ _ rfl rfl rfl]
  exact Steps.refl _
end New
end Jvm.RoadKit
namespace Jvm.Pilot.@@N@@
open Jvm Jvm.ClassFile Sem Op Lib Jvm.Free Jvm.Stand Jvm.LawKit Jvm.RoadKit Bundle Jvm.Pilot.@@N@@.Jvm.D
/-- from here the run comes to an end of which W holds -/
def own_Go (p : Program) (e : Env) (below : List Frame) (W : State → Outcome → Prop) (T : State) (g : JFrame) : Prop :=
  ∃ s₂ o, Steps p.tables e below (T.setTop g) s₂ ∧ s₂.status = .running ∧ Ended s₂ below o ∧ W s₂ o
theorem own_Go.of {p : Program} {e : Env} {below : List Frame} {W : State → Outcome → Prop} {T T' : State} {g g' : JFrame} (f : ∀ t, Steps p.tables e below (T'.setTop g') t → Steps p.tables e below (T.setTop g) t) (k : own_Go p e below W T' g') : own_Go p e below W T g := by
  obtain ⟨s₂, o, h1, h2⟩ := k
  exact ⟨s₂, o, f _ h1, h2⟩
theorem own_hide {p : Program} {l : Launch} {e : Env} {R : Room} {s : State} {m : MethodId} {args : Array Value} {below : List Frame} {meth : Method} {c : Code} {T : State} {locs : List Loc} {cells slots : Nat} (X : Stand p l e R s m args below meth c T locs cells slots) {k : Nat} (N : Fr k locs) : ∃ L, Stand p l e R s m args below meth c T L cells slots ∧ Fr k L := ⟨_, X, N⟩
theorem own_via {G A : Prop} (h1 : A → G) (h2 : A) : G := h1 h2
section OwnSteps
variable {p : Program} {l : Launch} {e : Env} {R : Room} {s : State} {m : MethodId} {args : Array Value} {below : List Frame} {meth : Method} {c : Code} {T : State} {locs : List Loc} {cells slots : Nat} {W : State → Outcome → Prop} {pc pc' : Nat} {L : Array Slot} {S : List Value}
theorem og_iloadN (X : Stand p l e R s m args below meth c T locs cells slots) (hx : p.tables.exec = Jvm.exec) {k : Fin 4} {v : Int32} (hd : decode c.code pc = .ok (.iload_n k, 1)) (hl : L[k.val]? = some (.val (.int v))) (hp : pc + 1 = pc') (h : own_Go p e below W T (mkF m pc' L ((.int v) :: S))) : own_Go p e below W T (mkF m pc L S) := by
  subst hp; exact own_Go.of (fun t q => XS.iloadN X.here hx rfl hd hl q) h
theorem og_iload (X : Stand p l e R s m args below meth c T locs cells slots) (hx : p.tables.exec = Jvm.exec) {k : Nat} {v : Int32} (hd : decode c.code pc = .ok (.iload k, 2)) (hl : L[k]? = some (.val (.int v))) (hp : pc + 2 = pc') (h : own_Go p e below W T (mkF m pc' L ((.int v) :: S))) : own_Go p e below W T (mkF m pc L S) := by
  subst hp; exact own_Go.of (fun t q => XS.iload X.here hx rfl hd hl q) h
theorem og_istoreN (X : Stand p l e R s m args below meth c T locs cells slots) (hx : p.tables.exec = Jvm.exec) {k : Fin 4} {v : Int32} {L' : Array Slot} (hd : decode c.code pc = .ok (.istore_n k, 1)) (hl : storeLocals L k.val (.int v) = some L') (hp : pc + 1 = pc') (h : own_Go p e below W T (mkF m pc' L' S)) : own_Go p e below W T (mkF m pc L ((.int v) :: S)) := by
  subst hp; exact own_Go.of (fun t q => XS.istoreN X.here hx rfl hd rfl hl q) h
theorem og_istore (X : Stand p l e R s m args below meth c T locs cells slots) (hx : p.tables.exec = Jvm.exec) {k : Nat} {v : Int32} {L' : Array Slot} (hd : decode c.code pc = .ok (.istore k, 2)) (hl : storeLocals L k (.int v) = some L') (hp : pc + 2 = pc') (h : own_Go p e below W T (mkF m pc' L' S)) : own_Go p e below W T (mkF m pc L ((.int v) :: S)) := by
  subst hp; exact own_Go.of (fun t q => XS.istore X.here hx rfl hd rfl hl q) h
theorem og_lloadN (X : Stand p l e R s m args below meth c T locs cells slots) (hx : p.tables.exec = Jvm.exec) {k : Fin 4} {v : Int64} (hd : decode c.code pc = .ok (.lload_n k, 1)) (hl : L[k.val]? = some (.val (.long v))) (hp : pc + 1 = pc') (h : own_Go p e below W T (mkF m pc' L ((.long v) :: S))) : own_Go p e below W T (mkF m pc L S) := by
  subst hp; exact own_Go.of (fun t q => XS.lloadN X.here hx rfl hd hl q) h
theorem og_lload (X : Stand p l e R s m args below meth c T locs cells slots) (hx : p.tables.exec = Jvm.exec) {k : Nat} {v : Int64} (hd : decode c.code pc = .ok (.lload k, 2)) (hl : L[k]? = some (.val (.long v))) (hp : pc + 2 = pc') (h : own_Go p e below W T (mkF m pc' L ((.long v) :: S))) : own_Go p e below W T (mkF m pc L S) := by
  subst hp; exact own_Go.of (fun t q => XS.lload X.here hx rfl hd hl q) h
theorem og_lstoreN (X : Stand p l e R s m args below meth c T locs cells slots) (hx : p.tables.exec = Jvm.exec) {k : Fin 4} {v : Int64} {L' : Array Slot} (hd : decode c.code pc = .ok (.lstore_n k, 1)) (hl : storeLocals L k.val (.long v) = some L') (hp : pc + 1 = pc') (h : own_Go p e below W T (mkF m pc' L' S)) : own_Go p e below W T (mkF m pc L ((.long v) :: S)) := by
  subst hp; exact own_Go.of (fun t q => XS.lstoreN X.here hx rfl hd rfl hl q) h
theorem og_lstore (X : Stand p l e R s m args below meth c T locs cells slots) (hx : p.tables.exec = Jvm.exec) {k : Nat} {v : Int64} {L' : Array Slot} (hd : decode c.code pc = .ok (.lstore k, 2)) (hl : storeLocals L k (.long v) = some L') (hp : pc + 2 = pc') (h : own_Go p e below W T (mkF m pc' L' S)) : own_Go p e below W T (mkF m pc L ((.long v) :: S)) := by
  subst hp; exact own_Go.of (fun t q => XS.lstore X.here hx rfl hd rfl hl q) h
theorem og_aloadN (X : Stand p l e R s m args below meth c T locs cells slots) (hx : p.tables.exec = Jvm.exec) {k : Fin 4} {v : Value} (hd : decode c.code pc = .ok (.aload_n k, 1)) (hl : L[k.val]? = some (.val v)) (hv : v.isRef = true) (hp : pc + 1 = pc') (h : own_Go p e below W T (mkF m pc' L (v :: S))) : own_Go p e below W T (mkF m pc L S) := by
  subst hp; exact own_Go.of (fun t q => XS.aloadN X.here hx rfl hd hl hv q) h
theorem og_aload (X : Stand p l e R s m args below meth c T locs cells slots) (hx : p.tables.exec = Jvm.exec) {k : Nat} {v : Value} (hd : decode c.code pc = .ok (.aload k, 2)) (hl : L[k]? = some (.val v)) (hv : v.isRef = true) (hp : pc + 2 = pc') (h : own_Go p e below W T (mkF m pc' L (v :: S))) : own_Go p e below W T (mkF m pc L S) := by
  subst hp; exact own_Go.of (fun t q => XS.aload X.here hx rfl hd hl hv q) h
theorem og_astoreN (X : Stand p l e R s m args below meth c T locs cells slots) (hx : p.tables.exec = Jvm.exec) {k : Fin 4} {v : Value} {L' : Array Slot} (hd : decode c.code pc = .ok (.astore_n k, 1)) (hv : v.isRef = true) (hl : storeLocals L k.val v = some L') (hp : pc + 1 = pc') (h : own_Go p e below W T (mkF m pc' L' S)) : own_Go p e below W T (mkF m pc L (v :: S)) := by
  subst hp; exact own_Go.of (fun t q => XS.astoreN X.here hx rfl hd rfl hv hl q) h
theorem og_astore (X : Stand p l e R s m args below meth c T locs cells slots) (hx : p.tables.exec = Jvm.exec) {k : Nat} {v : Value} {L' : Array Slot} (hd : decode c.code pc = .ok (.astore k, 2)) (hv : v.isRef = true) (hl : storeLocals L k v = some L') (hp : pc + 2 = pc') (h : own_Go p e below W T (mkF m pc' L' S)) : own_Go p e below W T (mkF m pc L (v :: S)) := by
  subst hp; exact own_Go.of (fun t q => XS.astore X.here hx rfl hd rfl hv hl q) h
theorem og_iconst (X : Stand p l e R s m args below meth c T locs cells slots) (hx : p.tables.exec = Jvm.exec) {i : Int} {n : Int32} (hd : decode c.code pc = .ok (.iconst i, 1)) (hn : Int32.ofInt i = n) (hp : pc + 1 = pc') (h : own_Go p e below W T (mkF m pc' L (.int n :: S))) : own_Go p e below W T (mkF m pc L S) := by
  subst hp hn; exact own_Go.of (fun t q => XS.iconst X.here hx rfl hd q) h
theorem og_bipush (X : Stand p l e R s m args below meth c T locs cells slots) (hx : p.tables.exec = Jvm.exec) {i : Int} {n : Int32} (hd : decode c.code pc = .ok (.bipush i, 2)) (hn : (Int8.ofInt i).toInt32 = n) (hp : pc + 2 = pc') (h : own_Go p e below W T (mkF m pc' L (.int n :: S))) : own_Go p e below W T (mkF m pc L S) := by
  subst hp hn; exact own_Go.of (fun t q => XS.bipush X.here hx rfl hd q) h
theorem og_sipush (X : Stand p l e R s m args below meth c T locs cells slots) (hx : p.tables.exec = Jvm.exec) {i : Int} {n : Int32} (hd : decode c.code pc = .ok (.sipush i, 3)) (hn : (Int16.ofInt i).toInt32 = n) (hp : pc + 3 = pc') (h : own_Go p e below W T (mkF m pc' L (.int n :: S))) : own_Go p e below W T (mkF m pc L S) := by
  subst hp hn; exact own_Go.of (fun t q => XS.sipush X.here hx rfl hd q) h
theorem og_lconst0 (X : Stand p l e R s m args below meth c T locs cells slots) (hx : p.tables.exec = Jvm.exec) (hd : decode c.code pc = .ok (.lconst 0, 1)) (hp : pc + 1 = pc') (h : own_Go p e below W T (mkF m pc' L (.long (0 : Int64) :: S))) : own_Go p e below W T (mkF m pc L S) := by
  subst hp; exact own_Go.of (fun t q => XS.lconst X.here hx rfl hd q) h
theorem og_lconst1 (X : Stand p l e R s m args below meth c T locs cells slots) (hx : p.tables.exec = Jvm.exec) (hd : decode c.code pc = .ok (.lconst 1, 1)) (hp : pc + 1 = pc') (h : own_Go p e below W T (mkF m pc' L (.long (1 : Int64) :: S))) : own_Go p e below W T (mkF m pc L S) := by
  subst hp; exact own_Go.of (fun t q => XS.lconst X.here hx rfl hd q) h
theorem og_aconst_null (X : Stand p l e R s m args below meth c T locs cells slots) (hx : p.tables.exec = Jvm.exec)  (hd : decode c.code pc = .ok (.aconst_null, 1)) (hp : pc + 1 = pc') (h : own_Go p e below W T (mkF m pc' L (.null :: S))) : own_Go p e below W T (mkF m pc L S) := by
  subst hp; exact own_Go.of (fun t q => XS.aconstNull X.here hx rfl hd q) h
theorem og_iadd (X : Stand p l e R s m args below meth c T locs cells slots) (hx : p.tables.exec = Jvm.exec) {x y : Int32} (hd : decode c.code pc = .ok (.iadd, 1)) (hp : pc + 1 = pc') (h : own_Go p e below W T (mkF m pc' L (.int (x + y) :: S))) : own_Go p e below W T (mkF m pc L (.int y :: .int x :: S)) := by
  subst hp; exact own_Go.of (fun t q => XS.iadd X.here hx rfl hd rfl q) h
theorem og_ladd (X : Stand p l e R s m args below meth c T locs cells slots) (hx : p.tables.exec = Jvm.exec) {x y : Int64} (hd : decode c.code pc = .ok (.ladd, 1)) (hp : pc + 1 = pc') (h : own_Go p e below W T (mkF m pc' L (.long (x + y) :: S))) : own_Go p e below W T (mkF m pc L (.long y :: .long x :: S)) := by
  subst hp; exact own_Go.of (fun t q => XS.ladd X.here hx rfl hd rfl q) h
theorem og_isub (X : Stand p l e R s m args below meth c T locs cells slots) (hx : p.tables.exec = Jvm.exec) {x y : Int32} (hd : decode c.code pc = .ok (.isub, 1)) (hp : pc + 1 = pc') (h : own_Go p e below W T (mkF m pc' L (.int (x - y) :: S))) : own_Go p e below W T (mkF m pc L (.int y :: .int x :: S)) := by
  subst hp; exact own_Go.of (fun t q => XS.isub X.here hx rfl hd rfl q) h
theorem og_lsub (X : Stand p l e R s m args below meth c T locs cells slots) (hx : p.tables.exec = Jvm.exec) {x y : Int64} (hd : decode c.code pc = .ok (.lsub, 1)) (hp : pc + 1 = pc') (h : own_Go p e below W T (mkF m pc' L (.long (x - y) :: S))) : own_Go p e below W T (mkF m pc L (.long y :: .long x :: S)) := by
  subst hp; exact own_Go.of (fun t q => XS.lsub X.here hx rfl hd rfl q) h
theorem og_imul (X : Stand p l e R s m args below meth c T locs cells slots) (hx : p.tables.exec = Jvm.exec) {x y : Int32} (hd : decode c.code pc = .ok (.imul, 1)) (hp : pc + 1 = pc') (h : own_Go p e below W T (mkF m pc' L (.int (x * y) :: S))) : own_Go p e below W T (mkF m pc L (.int y :: .int x :: S)) := by
  subst hp; exact own_Go.of (fun t q => XS.imul X.here hx rfl hd rfl q) h
theorem og_lmul (X : Stand p l e R s m args below meth c T locs cells slots) (hx : p.tables.exec = Jvm.exec) {x y : Int64} (hd : decode c.code pc = .ok (.lmul, 1)) (hp : pc + 1 = pc') (h : own_Go p e below W T (mkF m pc' L (.long (x * y) :: S))) : own_Go p e below W T (mkF m pc L (.long y :: .long x :: S)) := by
  subst hp; exact own_Go.of (fun t q => XS.lmul X.here hx rfl hd rfl q) h
theorem og_iand (X : Stand p l e R s m args below meth c T locs cells slots) (hx : p.tables.exec = Jvm.exec) {x y : Int32} (hd : decode c.code pc = .ok (.iand, 1)) (hp : pc + 1 = pc') (h : own_Go p e below W T (mkF m pc' L (.int (x &&& y) :: S))) : own_Go p e below W T (mkF m pc L (.int y :: .int x :: S)) := by
  subst hp; exact own_Go.of (fun t q => XS.iand X.here hx rfl hd rfl q) h
theorem og_land (X : Stand p l e R s m args below meth c T locs cells slots) (hx : p.tables.exec = Jvm.exec) {x y : Int64} (hd : decode c.code pc = .ok (.land, 1)) (hp : pc + 1 = pc') (h : own_Go p e below W T (mkF m pc' L (.long (x &&& y) :: S))) : own_Go p e below W T (mkF m pc L (.long y :: .long x :: S)) := by
  subst hp; exact own_Go.of (fun t q => XS.land X.here hx rfl hd rfl q) h
theorem og_ior (X : Stand p l e R s m args below meth c T locs cells slots) (hx : p.tables.exec = Jvm.exec) {x y : Int32} (hd : decode c.code pc = .ok (.ior, 1)) (hp : pc + 1 = pc') (h : own_Go p e below W T (mkF m pc' L (.int (x ||| y) :: S))) : own_Go p e below W T (mkF m pc L (.int y :: .int x :: S)) := by
  subst hp; exact own_Go.of (fun t q => XS.ior X.here hx rfl hd rfl q) h
theorem og_lor (X : Stand p l e R s m args below meth c T locs cells slots) (hx : p.tables.exec = Jvm.exec) {x y : Int64} (hd : decode c.code pc = .ok (.lor, 1)) (hp : pc + 1 = pc') (h : own_Go p e below W T (mkF m pc' L (.long (x ||| y) :: S))) : own_Go p e below W T (mkF m pc L (.long y :: .long x :: S)) := by
  subst hp; exact own_Go.of (fun t q => XS.lor X.here hx rfl hd rfl q) h
theorem og_ixor (X : Stand p l e R s m args below meth c T locs cells slots) (hx : p.tables.exec = Jvm.exec) {x y : Int32} (hd : decode c.code pc = .ok (.ixor, 1)) (hp : pc + 1 = pc') (h : own_Go p e below W T (mkF m pc' L (.int (x ^^^ y) :: S))) : own_Go p e below W T (mkF m pc L (.int y :: .int x :: S)) := by
  subst hp; exact own_Go.of (fun t q => XS.ixor X.here hx rfl hd rfl q) h
theorem og_lxor (X : Stand p l e R s m args below meth c T locs cells slots) (hx : p.tables.exec = Jvm.exec) {x y : Int64} (hd : decode c.code pc = .ok (.lxor, 1)) (hp : pc + 1 = pc') (h : own_Go p e below W T (mkF m pc' L (.long (x ^^^ y) :: S))) : own_Go p e below W T (mkF m pc L (.long y :: .long x :: S)) := by
  subst hp; exact own_Go.of (fun t q => XS.lxor X.here hx rfl hd rfl q) h
theorem og_ineg (X : Stand p l e R s m args below meth c T locs cells slots) (hx : p.tables.exec = Jvm.exec) {x : Int32} (hd : decode c.code pc = .ok (.ineg, 1)) (hp : pc + 1 = pc') (h : own_Go p e below W T (mkF m pc' L (.int (-x) :: S))) : own_Go p e below W T (mkF m pc L (.int x :: S)) := by
  subst hp; exact own_Go.of (fun t q => XS.ineg X.here hx rfl hd rfl q) h
theorem og_lneg (X : Stand p l e R s m args below meth c T locs cells slots) (hx : p.tables.exec = Jvm.exec) {x : Int64} (hd : decode c.code pc = .ok (.lneg, 1)) (hp : pc + 1 = pc') (h : own_Go p e below W T (mkF m pc' L (.long (-x) :: S))) : own_Go p e below W T (mkF m pc L (.long x :: S)) := by
  subst hp; exact own_Go.of (fun t q => XS.lneg X.here hx rfl hd rfl q) h
theorem og_i2l (X : Stand p l e R s m args below meth c T locs cells slots) (hx : p.tables.exec = Jvm.exec) {x : Int32} (hd : decode c.code pc = .ok (.i2l, 1)) (hp : pc + 1 = pc') (h : own_Go p e below W T (mkF m pc' L (.long (x.toInt64) :: S))) : own_Go p e below W T (mkF m pc L (.int x :: S)) := by
  subst hp; exact own_Go.of (fun t q => XS.i2l X.here hx rfl hd rfl q) h
theorem og_l2i (X : Stand p l e R s m args below meth c T locs cells slots) (hx : p.tables.exec = Jvm.exec) {x : Int64} (hd : decode c.code pc = .ok (.l2i, 1)) (hp : pc + 1 = pc') (h : own_Go p e below W T (mkF m pc' L (.int (x.toInt32) :: S))) : own_Go p e below W T (mkF m pc L (.long x :: S)) := by
  subst hp; exact own_Go.of (fun t q => XS.l2i X.here hx rfl hd rfl q) h
theorem og_i2b (X : Stand p l e R s m args below meth c T locs cells slots) (hx : p.tables.exec = Jvm.exec) {x : Int32} (hd : decode c.code pc = .ok (.i2b, 1)) (hp : pc + 1 = pc') (h : own_Go p e below W T (mkF m pc' L (.int (x.toInt8.toInt32) :: S))) : own_Go p e below W T (mkF m pc L (.int x :: S)) := by
  subst hp; exact own_Go.of (fun t q => XS.i2b X.here hx rfl hd rfl q) h
theorem og_i2s (X : Stand p l e R s m args below meth c T locs cells slots) (hx : p.tables.exec = Jvm.exec) {x : Int32} (hd : decode c.code pc = .ok (.i2s, 1)) (hp : pc + 1 = pc') (h : own_Go p e below W T (mkF m pc' L (.int (x.toInt16.toInt32) :: S))) : own_Go p e below W T (mkF m pc L (.int x :: S)) := by
  subst hp; exact own_Go.of (fun t q => XS.i2s X.here hx rfl hd rfl q) h
theorem og_i2c (X : Stand p l e R s m args below meth c T locs cells slots) (hx : p.tables.exec = Jvm.exec) {x : Int32} (hd : decode c.code pc = .ok (.i2c, 1)) (hp : pc + 1 = pc') (h : own_Go p e below W T (mkF m pc' L (.int (x.toUInt32.toUInt16.toUInt32.toInt32) :: S))) : own_Go p e below W T (mkF m pc L (.int x :: S)) := by
  subst hp; exact own_Go.of (fun t q => XS.i2c X.here hx rfl hd rfl q) h
theorem og_ishl (X : Stand p l e R s m args below meth c T locs cells slots) (hx : p.tables.exec = Jvm.exec) {x : Int32} {y : Int32} (hd : decode c.code pc = .ok (.ishl, 1)) (hp : pc + 1 = pc') (h : own_Go p e below W T (mkF m pc' L (.int (x <<< (y &&& 31)) :: S))) : own_Go p e below W T (mkF m pc L (.int y :: .int x :: S)) := by
  subst hp; exact own_Go.of (fun t q => XS.ishl X.here hx rfl hd rfl q) h
theorem og_ishr (X : Stand p l e R s m args below meth c T locs cells slots) (hx : p.tables.exec = Jvm.exec) {x : Int32} {y : Int32} (hd : decode c.code pc = .ok (.ishr, 1)) (hp : pc + 1 = pc') (h : own_Go p e below W T (mkF m pc' L (.int (x >>> (y &&& 31)) :: S))) : own_Go p e below W T (mkF m pc L (.int y :: .int x :: S)) := by
  subst hp; exact own_Go.of (fun t q => XS.ishr X.here hx rfl hd rfl q) h
theorem og_iushr (X : Stand p l e R s m args below meth c T locs cells slots) (hx : p.tables.exec = Jvm.exec) {x : Int32} {y : Int32} (hd : decode c.code pc = .ok (.iushr, 1)) (hp : pc + 1 = pc') (h : own_Go p e below W T (mkF m pc' L (.int ((x.toUInt32 >>> (y &&& 31).toUInt32).toInt32) :: S))) : own_Go p e below W T (mkF m pc L (.int y :: .int x :: S)) := by
  subst hp; exact own_Go.of (fun t q => XS.iushr X.here hx rfl hd rfl q) h
theorem og_lshl (X : Stand p l e R s m args below meth c T locs cells slots) (hx : p.tables.exec = Jvm.exec) {x : Int64} {y : Int32} (hd : decode c.code pc = .ok (.lshl, 1)) (hp : pc + 1 = pc') (h : own_Go p e below W T (mkF m pc' L (.long (x <<< (y &&& 0x3f).toInt64) :: S))) : own_Go p e below W T (mkF m pc L (.int y :: .long x :: S)) := by
  subst hp; exact own_Go.of (fun t q => XS.lshl X.here hx rfl hd rfl q) h
theorem og_lshr (X : Stand p l e R s m args below meth c T locs cells slots) (hx : p.tables.exec = Jvm.exec) {x : Int64} {y : Int32} (hd : decode c.code pc = .ok (.lshr, 1)) (hp : pc + 1 = pc') (h : own_Go p e below W T (mkF m pc' L (.long (x >>> (y &&& 0x3f).toInt64) :: S))) : own_Go p e below W T (mkF m pc L (.int y :: .long x :: S)) := by
  subst hp; exact own_Go.of (fun t q => XS.lshr X.here hx rfl hd rfl q) h
theorem og_lushr (X : Stand p l e R s m args below meth c T locs cells slots) (hx : p.tables.exec = Jvm.exec) {x : Int64} {y : Int32} (hd : decode c.code pc = .ok (.lushr, 1)) (hp : pc + 1 = pc') (h : own_Go p e below W T (mkF m pc' L (.long ((x.toUInt64 >>> (y &&& 0x3f).toInt64.toUInt64).toInt64) :: S))) : own_Go p e below W T (mkF m pc L (.int y :: .long x :: S)) := by
  subst hp; exact own_Go.of (fun t q => XS.lushr X.here hx rfl hd rfl q) h
theorem og_lcmp (X : Stand p l e R s m args below meth c T locs cells slots) (hx : p.tables.exec = Jvm.exec) {x y : Int64} (hd : decode c.code pc = .ok (.lcmp, 1)) (hp : pc + 1 = pc') (h : own_Go p e below W T (mkF m pc' L (.int (lcmpW x y) :: S))) : own_Go p e below W T (mkF m pc L (.long y :: .long x :: S)) := by
  subst hp; exact own_Go.of (fun t q => XS.lcmp X.here hx rfl hd rfl q) h
theorem og_idiv (X : Stand p l e R s m args below meth c T locs cells slots) (hx : p.tables.exec = Jvm.exec) {x y : Int32} (hd : decode c.code pc = .ok (.idiv, 1)) (hy : y ≠ 0) (hp : pc + 1 = pc') (h : own_Go p e below W T (mkF m pc' L (.int (x / y) :: S))) : own_Go p e below W T (mkF m pc L (.int y :: .int x :: S)) := by
  subst hp; exact own_Go.of (fun t q => XS.idiv X.here hx rfl hd rfl hy q) h
theorem og_ldiv (X : Stand p l e R s m args below meth c T locs cells slots) (hx : p.tables.exec = Jvm.exec) {x y : Int64} (hd : decode c.code pc = .ok (.ldiv, 1)) (hy : y ≠ 0) (hp : pc + 1 = pc') (h : own_Go p e below W T (mkF m pc' L (.long (x / y) :: S))) : own_Go p e below W T (mkF m pc L (.long y :: .long x :: S)) := by
  subst hp; exact own_Go.of (fun t q => XS.ldiv X.here hx rfl hd rfl hy q) h
theorem og_irem (X : Stand p l e R s m args below meth c T locs cells slots) (hx : p.tables.exec = Jvm.exec) {x y : Int32} (hd : decode c.code pc = .ok (.irem, 1)) (hy : y ≠ 0) (hp : pc + 1 = pc') (h : own_Go p e below W T (mkF m pc' L (.int (x % y) :: S))) : own_Go p e below W T (mkF m pc L (.int y :: .int x :: S)) := by
  subst hp; exact own_Go.of (fun t q => iremM X hx rfl hd rfl hy q) h
theorem og_lrem (X : Stand p l e R s m args below meth c T locs cells slots) (hx : p.tables.exec = Jvm.exec) {x y : Int64} (hd : decode c.code pc = .ok (.lrem, 1)) (hy : y ≠ 0) (hp : pc + 1 = pc') (h : own_Go p e below W T (mkF m pc' L (.long (x - (x / y) * y) :: S))) : own_Go p e below W T (mkF m pc L (.long y :: .long x :: S)) := by
  subst hp; exact own_Go.of (fun t q => XS.lrem X.here hx rfl hd rfl hy q) h
theorem og_iinc (X : Stand p l e R s m args below meth c T locs cells slots) (hx : p.tables.exec = Jvm.exec) {k : Nat} {z : Int} {v : Int32} {L' : Array Slot} (hd : decode c.code pc = .ok (.iinc k z, 3)) (hl : L[k]? = some (.val (.int v))) (hs : storeLocals L k (.int (v + Int32.ofInt z)) = some L') (hp : pc + 3 = pc') (h : own_Go p e below W T (mkF m pc' L' S)) : own_Go p e below W T (mkF m pc L S) := by
  subst hp; exact own_Go.of (fun t q => XS.iinc X.here hx rfl hd hl hs q) h
theorem og_dup (X : Stand p l e R s m args below meth c T locs cells slots) (hx : p.tables.exec = Jvm.exec) {v : Value} (hd : decode c.code pc = .ok (.dup, 1)) (hc : v.category = 1) (hp : pc + 1 = pc') (h : own_Go p e below W T (mkF m pc' L (v :: v :: S))) : own_Go p e below W T (mkF m pc L (v :: S)) := by
  subst hp; exact own_Go.of (fun t q => XS.dup X.here hx rfl hd rfl hc q) h
theorem og_pop (X : Stand p l e R s m args below meth c T locs cells slots) (hx : p.tables.exec = Jvm.exec) {v : Value} (hd : decode c.code pc = .ok (.pop, 1)) (hc : v.category = 1) (hp : pc + 1 = pc') (h : own_Go p e below W T (mkF m pc' L S)) : own_Go p e below W T (mkF m pc L (v :: S)) := by
  subst hp; exact own_Go.of (fun t q => XS.pop X.here hx rfl hd rfl hc q) h
theorem og_dup_x1 (X : Stand p l e R s m args below meth c T locs cells slots) (hx : p.tables.exec = Jvm.exec) {v w : Value} (hd : decode c.code pc = .ok (.dup_x1, 1)) (hc : v.category = 1) (hc' : w.category = 1) (hp : pc + 1 = pc') (h : own_Go p e below W T (mkF m pc' L (v :: w :: v :: S))) : own_Go p e below W T (mkF m pc L (v :: w :: S)) := by
  subst hp; exact own_Go.of (fun t q => XS.dupX1 X.here hx rfl hd rfl hc hc' q) h
theorem og_goto (X : Stand p l e R s m args below meth c T locs cells slots) (hx : p.tables.exec = Jvm.exec) {o : Int} (hd : decode c.code pc = .ok (.goto o, 3)) (ho : 0 ≤ (pc : Int) + o) (hp : ((pc : Int) + o).toNat = pc') (h : own_Go p e below W T (mkF m pc' L S)) : own_Go p e below W T (mkF m pc L S) := by
  exact own_Go.of (fun t q => XS.goto X.here hx rfl rfl hd ho hp q) h
theorem og_ifYes (X : Stand p l e R s m args below meth c T locs cells slots) (hx : p.tables.exec = Jvm.exec) {cd : ClassFile.Cond} {x : Int32} {o : Int} (hd : decode c.code pc = .ok (.ifCond cd o, 3)) (hc : ifCond.holds cd x = true) (ho : 0 ≤ (pc : Int) + o) (hp : ((pc : Int) + o).toNat = pc') (h : own_Go p e below W T (mkF m pc' L S)) : own_Go p e below W T (mkF m pc L (.int x :: S)) := by
  exact own_Go.of (fun t q => XS.ifYes X.here hx rfl rfl hd rfl hc ho hp q) h
theorem og_ifNo (X : Stand p l e R s m args below meth c T locs cells slots) (hx : p.tables.exec = Jvm.exec) {cd : ClassFile.Cond} {x : Int32} {o : Int} (hd : decode c.code pc = .ok (.ifCond cd o, 3)) (hc : ifCond.holds cd x = false) (hp : pc + 3 = pc') (h : own_Go p e below W T (mkF m pc' L S)) : own_Go p e below W T (mkF m pc L (.int x :: S)) := by
  subst hp; exact own_Go.of (fun t q => XS.ifNo X.here hx rfl hd rfl hc q) h
theorem og_icmpYes (X : Stand p l e R s m args below meth c T locs cells slots) (hx : p.tables.exec = Jvm.exec) {cd : ClassFile.Cond} {x y : Int32} {o : Int} (hd : decode c.code pc = .ok (.if_icmp cd o, 3)) (hc : if_icmp.holds cd x y = true) (ho : 0 ≤ (pc : Int) + o) (hp : ((pc : Int) + o).toNat = pc') (h : own_Go p e below W T (mkF m pc' L S)) : own_Go p e below W T (mkF m pc L (.int y :: .int x :: S)) := by
  exact own_Go.of (fun t q => XS.icmpYes X.here hx rfl rfl hd rfl hc ho hp q) h
theorem og_icmpNo (X : Stand p l e R s m args below meth c T locs cells slots) (hx : p.tables.exec = Jvm.exec) {cd : ClassFile.Cond} {x y : Int32} {o : Int} (hd : decode c.code pc = .ok (.if_icmp cd o, 3)) (hc : if_icmp.holds cd x y = false) (hp : pc + 3 = pc') (h : own_Go p e below W T (mkF m pc' L S)) : own_Go p e below W T (mkF m pc L (.int y :: .int x :: S)) := by
  subst hp; exact own_Go.of (fun t q => XS.icmpNo X.here hx rfl hd rfl hc q) h
theorem og_ifnullYes (X : Stand p l e R s m args below meth c T locs cells slots) (hx : p.tables.exec = Jvm.exec) {o : Int} (hd : decode c.code pc = .ok (.ifnull o, 3)) (ho : 0 ≤ (pc : Int) + o) (hp : ((pc : Int) + o).toNat = pc') (h : own_Go p e below W T (mkF m pc' L S)) : own_Go p e below W T (mkF m pc L (.null :: S)) := by
  exact own_Go.of (fun t q => XS.ifnullYes X.here hx rfl rfl hd rfl ho hp q) h
theorem og_ifnullNo (X : Stand p l e R s m args below meth c T locs cells slots) (hx : p.tables.exec = Jvm.exec) {b : Addr} {o : Int} (hd : decode c.code pc = .ok (.ifnull o, 3)) (hp : pc + 3 = pc') (h : own_Go p e below W T (mkF m pc' L S)) : own_Go p e below W T (mkF m pc L (.ref b :: S)) := by
  subst hp; exact own_Go.of (fun t q => XS.ifnullNo X.here hx rfl hd rfl q) h
theorem og_ifnonnullYes (X : Stand p l e R s m args below meth c T locs cells slots) (hx : p.tables.exec = Jvm.exec) {b : Addr} {o : Int} (hd : decode c.code pc = .ok (.ifnonnull o, 3)) (ho : 0 ≤ (pc : Int) + o) (hp : ((pc : Int) + o).toNat = pc') (h : own_Go p e below W T (mkF m pc' L S)) : own_Go p e below W T (mkF m pc L (.ref b :: S)) := by
  exact own_Go.of (fun t q => XS.ifnonnullYes X.here hx rfl rfl hd rfl ho hp q) h
theorem og_ifnonnullNo (X : Stand p l e R s m args below meth c T locs cells slots) (hx : p.tables.exec = Jvm.exec) {o : Int} (hd : decode c.code pc = .ok (.ifnonnull o, 3)) (hp : pc + 3 = pc') (h : own_Go p e below W T (mkF m pc' L S)) : own_Go p e below W T (mkF m pc L (.null :: S)) := by
  subst hp; exact own_Go.of (fun t q => XS.ifnonnullNo X.here hx rfl hd rfl q) h
theorem og_ldc (X : Stand p l e R s m args below meth c T locs cells slots) (hx : p.tables.exec = Jvm.exec) {own : String} {index : Nat} {v : Int32} (hd : decode c.code pc = .ok (.ldc index, 2)) (hown : s.vm.findClass own = some m.cls) (w : (Jvm.Cond.constant own index v).before args s = true) (hp : pc + 2 = pc') (h : own_Go p e below W T (mkF m pc' L (.int v :: S))) : own_Go p e below W T (mkF m pc L S) := by
  subst hp; exact own_Go.of (fun t q => X.ldcInt hx hown w (g := mkF m pc L S) rfl hd _ q) h
theorem og_ldc2_w (X : Stand p l e R s m args below meth c T locs cells slots) (hx : p.tables.exec = Jvm.exec) {own : String} {index : Nat} {v : Int64} (hd : decode c.code pc = .ok (.ldc2_w index, 3)) (hown : s.vm.findClass own = some m.cls) (w : (Jvm.Cond.constantLong own index v).before args s = true) (hp : pc + 3 = pc') (h : own_Go p e below W T (mkF m pc' L (.long v :: S))) : own_Go p e below W T (mkF m pc L S) := by
  subst hp; exact own_Go.of (fun t q => X.ldc2Long hx hown w (g := mkF m pc L S) rfl hd _ q) h
end OwnSteps
theorem own_getD_int (zs : List Int32) (i : Nat) : ∃ z : Int32, (zs.map Value.int).getD i (.int (0 : Int32)) = .int z := by
  induction zs generalizing i with
  | nil => exact ⟨0, rfl⟩
  | cons a t ih => cases i with
    | zero => exact ⟨a, rfl⟩
    | succ k => exact ih k

def own_f_173 (x0 : Int32)  : Int32 := (if x0 < (65536 : Int32) then (0 : Int32) else (if (983039 : Int32) < x0 then (0 : Int32) else (1 : Int32)))
def own_f_161 (x0 : Int32)  : Int32 := (if x0 < (65008 : Int32) then (own_f_173 x0) else (if (65533 : Int32) < x0 then (own_f_173 x0) else (1 : Int32)))
def own_f_149 (x0 : Int32)  : Int32 := (if x0 < (63744 : Int32) then (own_f_161 x0) else (if (64975 : Int32) < x0 then (own_f_161 x0) else (1 : Int32)))
def own_f_136 (x0 : Int32)  : Int32 := (if x0 < (12289 : Int32) then (own_f_149 x0) else (if (55295 : Int32) < x0 then (own_f_149 x0) else (1 : Int32)))
def own_f_122 (x0 : Int32)  : Int32 := (if x0 < (11264 : Int32) then (own_f_136 x0) else (if (12271 : Int32) < x0 then (own_f_136 x0) else (1 : Int32)))
def own_f_108 (x0 : Int32)  : Int32 := (if x0 < (8304 : Int32) then (own_f_122 x0) else (if (8591 : Int32) < x0 then (own_f_122 x0) else (1 : Int32)))
def own_f_94 (x0 : Int32)  : Int32 := (if x0 < (8204 : Int32) then (own_f_108 x0) else (if (8205 : Int32) < x0 then (own_f_108 x0) else (1 : Int32)))
def own_f_80 (x0 : Int32)  : Int32 := (if x0 < (895 : Int32) then (own_f_94 x0) else (if (8191 : Int32) < x0 then (own_f_94 x0) else (1 : Int32)))
def own_f_66 (x0 : Int32)  : Int32 := (if x0 < (880 : Int32) then (own_f_80 x0) else (if (893 : Int32) < x0 then (own_f_80 x0) else (1 : Int32)))
def own_f_52 (x0 : Int32)  : Int32 := (if x0 < (248 : Int32) then (own_f_66 x0) else (if (767 : Int32) < x0 then (own_f_66 x0) else (1 : Int32)))
def own_f_38 (x0 : Int32)  : Int32 := (if x0 < (216 : Int32) then (own_f_52 x0) else (if (246 : Int32) < x0 then (own_f_52 x0) else (1 : Int32)))
def own_f_24 (x0 : Int32)  : Int32 := (if x0 < (192 : Int32) then (own_f_38 x0) else (if (214 : Int32) < x0 then (own_f_38 x0) else (1 : Int32)))
def own_f_12 (x0 : Int32)  : Int32 := (if x0 < (97 : Int32) then (own_f_24 x0) else (if (122 : Int32) < x0 then (own_f_24 x0) else (1 : Int32)))
def own_f (x0 : Int32) : Int32 := (if x0 < (65 : Int32) then (own_f_12 x0) else (if (90 : Int32) < x0 then (own_f_12 x0) else (1 : Int32)))
theorem d2_0 : decode prog_144_method_3_code 0 = .ok (.iload_n 0, 1) := by decide +kernel
theorem d2_1 : decode prog_144_method_3_code 1 = .ok (.bipush 65, 2) := by decide +kernel
theorem d2_3 : decode prog_144_method_3_code 3 = .ok (.if_icmp .lt 9, 3) := by decide +kernel
theorem d2_6 : decode prog_144_method_3_code 6 = .ok (.iload_n 0, 1) := by decide +kernel
theorem d2_7 : decode prog_144_method_3_code 7 = .ok (.bipush 90, 2) := by decide +kernel
theorem d2_9 : decode prog_144_method_3_code 9 = .ok (.if_icmp .le 176, 3) := by decide +kernel
theorem d2_12 : decode prog_144_method_3_code 12 = .ok (.iload_n 0, 1) := by decide +kernel
theorem d2_13 : decode prog_144_method_3_code 13 = .ok (.bipush 97, 2) := by decide +kernel
theorem d2_15 : decode prog_144_method_3_code 15 = .ok (.if_icmp .lt 9, 3) := by decide +kernel
theorem d2_18 : decode prog_144_method_3_code 18 = .ok (.iload_n 0, 1) := by decide +kernel
theorem d2_19 : decode prog_144_method_3_code 19 = .ok (.bipush 122, 2) := by decide +kernel
theorem d2_21 : decode prog_144_method_3_code 21 = .ok (.if_icmp .le 164, 3) := by decide +kernel
theorem d2_24 : decode prog_144_method_3_code 24 = .ok (.iload_n 0, 1) := by decide +kernel
theorem d2_25 : decode prog_144_method_3_code 25 = .ok (.sipush 192, 3) := by decide +kernel
theorem d2_28 : decode prog_144_method_3_code 28 = .ok (.if_icmp .lt 10, 3) := by decide +kernel
theorem d2_31 : decode prog_144_method_3_code 31 = .ok (.iload_n 0, 1) := by decide +kernel
theorem d2_32 : decode prog_144_method_3_code 32 = .ok (.sipush 214, 3) := by decide +kernel
theorem d2_35 : decode prog_144_method_3_code 35 = .ok (.if_icmp .le 150, 3) := by decide +kernel
theorem d2_38 : decode prog_144_method_3_code 38 = .ok (.iload_n 0, 1) := by decide +kernel
theorem d2_39 : decode prog_144_method_3_code 39 = .ok (.sipush 216, 3) := by decide +kernel
theorem d2_42 : decode prog_144_method_3_code 42 = .ok (.if_icmp .lt 10, 3) := by decide +kernel
theorem d2_45 : decode prog_144_method_3_code 45 = .ok (.iload_n 0, 1) := by decide +kernel
theorem d2_46 : decode prog_144_method_3_code 46 = .ok (.sipush 246, 3) := by decide +kernel
theorem d2_49 : decode prog_144_method_3_code 49 = .ok (.if_icmp .le 136, 3) := by decide +kernel
theorem d2_52 : decode prog_144_method_3_code 52 = .ok (.iload_n 0, 1) := by decide +kernel
theorem d2_53 : decode prog_144_method_3_code 53 = .ok (.sipush 248, 3) := by decide +kernel
theorem d2_56 : decode prog_144_method_3_code 56 = .ok (.if_icmp .lt 10, 3) := by decide +kernel
theorem d2_59 : decode prog_144_method_3_code 59 = .ok (.iload_n 0, 1) := by decide +kernel
theorem d2_60 : decode prog_144_method_3_code 60 = .ok (.sipush 767, 3) := by decide +kernel
theorem d2_63 : decode prog_144_method_3_code 63 = .ok (.if_icmp .le 122, 3) := by decide +kernel
theorem d2_66 : decode prog_144_method_3_code 66 = .ok (.iload_n 0, 1) := by decide +kernel
theorem d2_67 : decode prog_144_method_3_code 67 = .ok (.sipush 880, 3) := by decide +kernel
theorem d2_70 : decode prog_144_method_3_code 70 = .ok (.if_icmp .lt 10, 3) := by decide +kernel
theorem d2_73 : decode prog_144_method_3_code 73 = .ok (.iload_n 0, 1) := by decide +kernel
theorem d2_74 : decode prog_144_method_3_code 74 = .ok (.sipush 893, 3) := by decide +kernel
theorem d2_77 : decode prog_144_method_3_code 77 = .ok (.if_icmp .le 108, 3) := by decide +kernel
theorem d2_80 : decode prog_144_method_3_code 80 = .ok (.iload_n 0, 1) := by decide +kernel
theorem d2_81 : decode prog_144_method_3_code 81 = .ok (.sipush 895, 3) := by decide +kernel
theorem d2_84 : decode prog_144_method_3_code 84 = .ok (.if_icmp .lt 10, 3) := by decide +kernel
theorem d2_87 : decode prog_144_method_3_code 87 = .ok (.iload_n 0, 1) := by decide +kernel
theorem d2_88 : decode prog_144_method_3_code 88 = .ok (.sipush 8191, 3) := by decide +kernel
theorem d2_91 : decode prog_144_method_3_code 91 = .ok (.if_icmp .le 94, 3) := by decide +kernel
theorem d2_94 : decode prog_144_method_3_code 94 = .ok (.iload_n 0, 1) := by decide +kernel
theorem d2_95 : decode prog_144_method_3_code 95 = .ok (.sipush 8204, 3) := by decide +kernel
theorem d2_98 : decode prog_144_method_3_code 98 = .ok (.if_icmp .lt 10, 3) := by decide +kernel
theorem d2_101 : decode prog_144_method_3_code 101 = .ok (.iload_n 0, 1) := by decide +kernel
theorem d2_102 : decode prog_144_method_3_code 102 = .ok (.sipush 8205, 3) := by decide +kernel
theorem d2_105 : decode prog_144_method_3_code 105 = .ok (.if_icmp .le 80, 3) := by decide +kernel
theorem d2_108 : decode prog_144_method_3_code 108 = .ok (.iload_n 0, 1) := by decide +kernel
theorem d2_109 : decode prog_144_method_3_code 109 = .ok (.sipush 8304, 3) := by decide +kernel
theorem d2_112 : decode prog_144_method_3_code 112 = .ok (.if_icmp .lt 10, 3) := by decide +kernel
theorem d2_115 : decode prog_144_method_3_code 115 = .ok (.iload_n 0, 1) := by decide +kernel
theorem d2_116 : decode prog_144_method_3_code 116 = .ok (.sipush 8591, 3) := by decide +kernel
theorem d2_119 : decode prog_144_method_3_code 119 = .ok (.if_icmp .le 66, 3) := by decide +kernel
theorem d2_122 : decode prog_144_method_3_code 122 = .ok (.iload_n 0, 1) := by decide +kernel
theorem d2_123 : decode prog_144_method_3_code 123 = .ok (.sipush 11264, 3) := by decide +kernel
theorem d2_126 : decode prog_144_method_3_code 126 = .ok (.if_icmp .lt 10, 3) := by decide +kernel
theorem d2_129 : decode prog_144_method_3_code 129 = .ok (.iload_n 0, 1) := by decide +kernel
theorem d2_130 : decode prog_144_method_3_code 130 = .ok (.sipush 12271, 3) := by decide +kernel
theorem d2_133 : decode prog_144_method_3_code 133 = .ok (.if_icmp .le 52, 3) := by decide +kernel
theorem d2_136 : decode prog_144_method_3_code 136 = .ok (.iload_n 0, 1) := by decide +kernel
theorem d2_137 : decode prog_144_method_3_code 137 = .ok (.sipush 12289, 3) := by decide +kernel
theorem d2_140 : decode prog_144_method_3_code 140 = .ok (.if_icmp .lt 9, 3) := by decide +kernel
theorem d2_143 : decode prog_144_method_3_code 143 = .ok (.iload_n 0, 1) := by decide +kernel
theorem d2_144 : decode prog_144_method_3_code 144 = .ok (.ldc 33, 2) := by decide +kernel
theorem d2_146 : decode prog_144_method_3_code 146 = .ok (.if_icmp .le 39, 3) := by decide +kernel
theorem d2_149 : decode prog_144_method_3_code 149 = .ok (.iload_n 0, 1) := by decide +kernel
theorem d2_150 : decode prog_144_method_3_code 150 = .ok (.ldc 34, 2) := by decide +kernel
theorem d2_152 : decode prog_144_method_3_code 152 = .ok (.if_icmp .lt 9, 3) := by decide +kernel
theorem d2_155 : decode prog_144_method_3_code 155 = .ok (.iload_n 0, 1) := by decide +kernel
theorem d2_156 : decode prog_144_method_3_code 156 = .ok (.ldc 35, 2) := by decide +kernel
theorem d2_158 : decode prog_144_method_3_code 158 = .ok (.if_icmp .le 27, 3) := by decide +kernel
theorem d2_161 : decode prog_144_method_3_code 161 = .ok (.iload_n 0, 1) := by decide +kernel
theorem d2_162 : decode prog_144_method_3_code 162 = .ok (.ldc 36, 2) := by decide +kernel
theorem d2_164 : decode prog_144_method_3_code 164 = .ok (.if_icmp .lt 9, 3) := by decide +kernel
theorem d2_167 : decode prog_144_method_3_code 167 = .ok (.iload_n 0, 1) := by decide +kernel
theorem d2_168 : decode prog_144_method_3_code 168 = .ok (.ldc 37, 2) := by decide +kernel
theorem d2_170 : decode prog_144_method_3_code 170 = .ok (.if_icmp .le 15, 3) := by decide +kernel
theorem d2_173 : decode prog_144_method_3_code 173 = .ok (.iload_n 0, 1) := by decide +kernel
theorem d2_174 : decode prog_144_method_3_code 174 = .ok (.ldc 38, 2) := by decide +kernel
theorem d2_176 : decode prog_144_method_3_code 176 = .ok (.if_icmp .lt 13, 3) := by decide +kernel
theorem d2_179 : decode prog_144_method_3_code 179 = .ok (.iload_n 0, 1) := by decide +kernel
theorem d2_180 : decode prog_144_method_3_code 180 = .ok (.ldc 39, 2) := by decide +kernel
theorem d2_182 : decode prog_144_method_3_code 182 = .ok (.if_icmp .gt 7, 3) := by decide +kernel
theorem d2_185 : decode prog_144_method_3_code 185 = .ok (.iconst 1, 1) := by decide +kernel
theorem d2_186 : decode prog_144_method_3_code 186 = .ok (.goto 4, 3) := by decide +kernel
theorem d2_189 : decode prog_144_method_3_code 189 = .ok (.iconst 0, 1) := by decide +kernel
theorem d2_190 : decode prog_144_method_3_code 190 = .ok (.ireturn, 1) := by decide +kernel
theorem pnf : plainName "com/example/ragtable/ragtable/rdfio/TermTokens" = true := by first | (simp [plainName, overriddenIn]; done) | decide +kernel
theorem eff (m : MethodId) (z0 : Int32) : entryFrame m #[(.int z0)] 1 = mkF m 0 #[.val (.int z0)] [] := by first | (simp [entryFrame, mkF, argsToLocals, Value.category]; done) | rfl
def Qf (Z : State) (x0 : Int32) (h0 : Heap) (n0 : Nat) (v : Option Value) (h : Heap) (L : List Loc) : Prop := v = some (.int (own_f x0)) ∧ Fr n0 L ∧ h = h0
set_option maxRecDepth 65536 in
set_option maxHeartbeats 40000000 in
theorem rmf (l : Launch) (Z : State) (a0 : Array Value) (hw : ∀ d ∈ tables_1, d.before a0 Z = true) (ws : List Jvm.Cond) (x0 : Int32) (h0 : Heap) (n0 : Nat) (Z0 : n0 ≤ h0.size) :
    MetFree l (⟨"com/example/ragtable/ragtable/rdfio/TermTokens", "isPnCharsBase", "(I)Z"⟩ : MethodName) (head1 (Jvm.Cond.code (⟨"com/example/ragtable/ragtable/rdfio/TermTokens", "isPnCharsBase", "(I)Z"⟩ : MethodName) prog_144_method_3_code 1 (some .boolean) :: ws) ({ frames := 0, cells := 0, slots := 0, locals := 0 } : Room)) (fun a U => a = #[(.int x0)] ∧ Z.Warmed39 U.vm ∧ U.heap = h0) (fun _ _ _ _ _ => True) (fun _ U oc U' => ∃ v L, oc = .returned v ∧ Qf Z x0 h0 n0 v U'.heap L ∧ FrameEnd U oc U' L ({ frames := 0, cells := 0, slots := 0, locals := 0 } : Room).cells ({ frames := 0, cells := 0, slots := 0, locals := 0 } : Room).slots) := by
  refine MetFree.of_bodySF (plainFor_of_name pnf) hisR ?_
  intro p e s m args below meth c s₁ Bd hml0 hP hK
  obtain ⟨rfl, hZ, hh⟩ := hP
  have hx := Bd.exec
  have hby := Bd.bytes
  have hml : c.maxLocals = 1 := hml0
  have hown : s.vm.findClass "com/example/ragtable/ragtable/rdfio/TermTokens" = some m.cls := findClass_of_methodNamed Bd.named
  have hnm := (name_of_methodNamed Bd.named Bd.method).1
  have X0 : Stand p l e ({ frames := 0, cells := 0, slots := 0, locals := 0 } : Room) s m #[(.int x0)] below meth c s₁ [] 0 0 := Stand.of_body Bd
  have e0 : s₁.heap = h0 := by rw [← hh, Bd.state]; rfl
  have N0 := Fr.nil n0
  show own_Go p e below (fun s₂ oc => ∃ v L, oc = .returned v ∧ Qf Z x0 h0 n0 v s₂.heap L ∧ FrameEnd s oc s₂ L ({ frames := 0, cells := 0, slots := 0, locals := 0 } : Room).cells ({ frames := 0, cells := 0, slots := 0, locals := 0 } : Room).slots) s₁ (entryFrame m #[(.int x0)] 1)
  have B173 : ∀ (TB : State) (Lc : List Loc) (XB : Stand p l e ({ frames := 0, cells := 0, slots := 0, locals := 0 } : Room) s m #[(.int x0)] below meth c TB Lc 0 0) (eB : TB.heap = h0) (NB : Fr n0 Lc) , own_f x0 = own_f_173 x0 → own_Go p e below (fun s₂ oc => ∃ v L, oc = .returned v ∧ Qf Z x0 h0 n0 v s₂.heap L ∧ FrameEnd s oc s₂ L ({ frames := 0, cells := 0, slots := 0, locals := 0 } : Room).cells ({ frames := 0, cells := 0, slots := 0, locals := 0 } : Room).slots) TB (mkF m 173 #[.val (.int x0)] []) := by
    intro TB Lc XB eB NB  hv
    refine og_iloadN (pc' := 174) XB hx (hb hby d2_173) rfl rfl ?_
    refine og_ldc (pc' := 176) XB hx (hb hby d2_174) hown (mvT hZ (hw _ (List.mem_of_getElem? (i := 18) rfl))) rfl ?_
    by_cases hc176_1 : x0 < (65536 : Int32)
    · have hv := hv.trans (if_pos hc176_1)
      refine og_icmpYes (pc' := 189) XB hx (hb hby d2_176) (tlt hc176_1).1 (by decide) (by decide) ?_
      refine og_iconst (pc' := 190) (n := 0) XB hx (hb hby d2_189) rfl rfl ?_
      obtain ⟨fs, hr, hrun, hended, hW, hsame⟩ := XB.leave (v := some (.int (0 : Int32))) (fun h => by rw [Bd.returns] at h; cases h) (BodyLoose.notSynchronized Bd)
      refine ⟨_, _, retN XB hx (t := .boolean) Bd.returns (by simp) (hb hby d2_190) hr, hrun, hended, some (.int (0 : Int32)), _, rfl, ?_, ⟨_, rfl⟩, hW, hsame.mono (by decide) (by decide)⟩
      show Qf Z x0 h0 n0 _ TB.heap _
      rw [eB]
      exact ⟨(congrArg (fun z => some (Value.int z)) hv.symm), NB, rfl⟩
    · have hv := hv.trans (if_neg hc176_1)
      refine og_icmpNo (pc' := 179) XB hx (hb hby d2_176) (flt hc176_1).1 rfl ?_
      refine og_iloadN (pc' := 180) XB hx (hb hby d2_179) rfl rfl ?_
      refine og_ldc (pc' := 182) XB hx (hb hby d2_180) hown (mvT hZ (hw _ (List.mem_of_getElem? (i := 31) rfl))) rfl ?_
      by_cases hc182_2 : (983039 : Int32) < x0
      · have hv := hv.trans (if_pos hc182_2)
        refine og_icmpYes (pc' := 189) XB hx (hb hby d2_182) (tlt hc182_2).2.2.1 (by decide) (by decide) ?_
        refine og_iconst (pc' := 190) (n := 0) XB hx (hb hby d2_189) rfl rfl ?_
        obtain ⟨fs, hr, hrun, hended, hW, hsame⟩ := XB.leave (v := some (.int (0 : Int32))) (fun h => by rw [Bd.returns] at h; cases h) (BodyLoose.notSynchronized Bd)
        refine ⟨_, _, retN XB hx (t := .boolean) Bd.returns (by simp) (hb hby d2_190) hr, hrun, hended, some (.int (0 : Int32)), _, rfl, ?_, ⟨_, rfl⟩, hW, hsame.mono (by decide) (by decide)⟩
        show Qf Z x0 h0 n0 _ TB.heap _
        rw [eB]
        exact ⟨(congrArg (fun z => some (Value.int z)) hv.symm), NB, rfl⟩
      · have hv := hv.trans (if_neg hc182_2)
        refine og_icmpNo (pc' := 185) XB hx (hb hby d2_182) (flt hc182_2).2.2.1 rfl ?_
        refine og_iconst (pc' := 186) (n := 1) XB hx (hb hby d2_185) rfl rfl ?_
        refine og_goto (pc' := 190) XB hx (hb hby d2_186) (by decide) (by decide) ?_
        obtain ⟨fs, hr, hrun, hended, hW, hsame⟩ := XB.leave (v := some (.int (1 : Int32))) (fun h => by rw [Bd.returns] at h; cases h) (BodyLoose.notSynchronized Bd)
        refine ⟨_, _, retN XB hx (t := .boolean) Bd.returns (by simp) (hb hby d2_190) hr, hrun, hended, some (.int (1 : Int32)), _, rfl, ?_, ⟨_, rfl⟩, hW, hsame.mono (by decide) (by decide)⟩
        show Qf Z x0 h0 n0 _ TB.heap _
        rw [eB]
        exact ⟨(congrArg (fun z => some (Value.int z)) hv.symm), NB, rfl⟩
  have B161 : ∀ (TB : State) (Lc : List Loc) (XB : Stand p l e ({ frames := 0, cells := 0, slots := 0, locals := 0 } : Room) s m #[(.int x0)] below meth c TB Lc 0 0) (eB : TB.heap = h0) (NB : Fr n0 Lc) , own_f x0 = own_f_161 x0 → own_Go p e below (fun s₂ oc => ∃ v L, oc = .returned v ∧ Qf Z x0 h0 n0 v s₂.heap L ∧ FrameEnd s oc s₂ L ({ frames := 0, cells := 0, slots := 0, locals := 0 } : Room).cells ({ frames := 0, cells := 0, slots := 0, locals := 0 } : Room).slots) TB (mkF m 161 #[.val (.int x0)] []) := by
    intro TB Lc XB eB NB  hv
    refine og_iloadN (pc' := 162) XB hx (hb hby d2_161) rfl rfl ?_
    refine og_ldc (pc' := 164) XB hx (hb hby d2_162) hown (mvT hZ (hw _ (List.mem_of_getElem? (i := 17) rfl))) rfl ?_
    by_cases hc164_3 : x0 < (65008 : Int32)
    · have hv := hv.trans (if_pos hc164_3)
      refine og_icmpYes (pc' := 173) XB hx (hb hby d2_164) (tlt hc164_3).1 (by decide) (by decide) ?_
      exact B173 TB _ XB eB NB  hv
    · have hv := hv.trans (if_neg hc164_3)
      refine og_icmpNo (pc' := 167) XB hx (hb hby d2_164) (flt hc164_3).1 rfl ?_
      refine og_iloadN (pc' := 168) XB hx (hb hby d2_167) rfl rfl ?_
      refine og_ldc (pc' := 170) XB hx (hb hby d2_168) hown (mvT hZ (hw _ (List.mem_of_getElem? (i := 30) rfl))) rfl ?_
      by_cases hc170_4 : (65533 : Int32) < x0
      · have hv := hv.trans (if_pos hc170_4)
        refine og_icmpNo (pc' := 173) XB hx (hb hby d2_170) (tlt hc170_4).2.2.2 rfl ?_
        exact B173 TB _ XB eB NB  hv
      · have hv := hv.trans (if_neg hc170_4)
        refine og_icmpYes (pc' := 185) XB hx (hb hby d2_170) (flt hc170_4).2.2.2 (by decide) (by decide) ?_
        refine og_iconst (pc' := 186) (n := 1) XB hx (hb hby d2_185) rfl rfl ?_
        refine og_goto (pc' := 190) XB hx (hb hby d2_186) (by decide) (by decide) ?_
        obtain ⟨fs, hr, hrun, hended, hW, hsame⟩ := XB.leave (v := some (.int (1 : Int32))) (fun h => by rw [Bd.returns] at h; cases h) (BodyLoose.notSynchronized Bd)
        refine ⟨_, _, retN XB hx (t := .boolean) Bd.returns (by simp) (hb hby d2_190) hr, hrun, hended, some (.int (1 : Int32)), _, rfl, ?_, ⟨_, rfl⟩, hW, hsame.mono (by decide) (by decide)⟩
        show Qf Z x0 h0 n0 _ TB.heap _
        rw [eB]
        exact ⟨(congrArg (fun z => some (Value.int z)) hv.symm), NB, rfl⟩
  have B149 : ∀ (TB : State) (Lc : List Loc) (XB : Stand p l e ({ frames := 0, cells := 0, slots := 0, locals := 0 } : Room) s m #[(.int x0)] below meth c TB Lc 0 0) (eB : TB.heap = h0) (NB : Fr n0 Lc) , own_f x0 = own_f_149 x0 → own_Go p e below (fun s₂ oc => ∃ v L, oc = .returned v ∧ Qf Z x0 h0 n0 v s₂.heap L ∧ FrameEnd s oc s₂ L ({ frames := 0, cells := 0, slots := 0, locals := 0 } : Room).cells ({ frames := 0, cells := 0, slots := 0, locals := 0 } : Room).slots) TB (mkF m 149 #[.val (.int x0)] []) := by
    intro TB Lc XB eB NB  hv
    refine og_iloadN (pc' := 150) XB hx (hb hby d2_149) rfl rfl ?_
    refine og_ldc (pc' := 152) XB hx (hb hby d2_150) hown (mvT hZ (hw _ (List.mem_of_getElem? (i := 16) rfl))) rfl ?_
    by_cases hc152_5 : x0 < (63744 : Int32)
    · have hv := hv.trans (if_pos hc152_5)
      refine og_icmpYes (pc' := 161) XB hx (hb hby d2_152) (tlt hc152_5).1 (by decide) (by decide) ?_
      exact B161 TB _ XB eB NB  hv
    · have hv := hv.trans (if_neg hc152_5)
      refine og_icmpNo (pc' := 155) XB hx (hb hby d2_152) (flt hc152_5).1 rfl ?_
      refine og_iloadN (pc' := 156) XB hx (hb hby d2_155) rfl rfl ?_
      refine og_ldc (pc' := 158) XB hx (hb hby d2_156) hown (mvT hZ (hw _ (List.mem_of_getElem? (i := 27) rfl))) rfl ?_
      by_cases hc158_6 : (64975 : Int32) < x0
      · have hv := hv.trans (if_pos hc158_6)
        refine og_icmpNo (pc' := 161) XB hx (hb hby d2_158) (tlt hc158_6).2.2.2 rfl ?_
        exact B161 TB _ XB eB NB  hv
      · have hv := hv.trans (if_neg hc158_6)
        refine og_icmpYes (pc' := 185) XB hx (hb hby d2_158) (flt hc158_6).2.2.2 (by decide) (by decide) ?_
        refine og_iconst (pc' := 186) (n := 1) XB hx (hb hby d2_185) rfl rfl ?_
        refine og_goto (pc' := 190) XB hx (hb hby d2_186) (by decide) (by decide) ?_
        obtain ⟨fs, hr, hrun, hended, hW, hsame⟩ := XB.leave (v := some (.int (1 : Int32))) (fun h => by rw [Bd.returns] at h; cases h) (BodyLoose.notSynchronized Bd)
        refine ⟨_, _, retN XB hx (t := .boolean) Bd.returns (by simp) (hb hby d2_190) hr, hrun, hended, some (.int (1 : Int32)), _, rfl, ?_, ⟨_, rfl⟩, hW, hsame.mono (by decide) (by decide)⟩
        show Qf Z x0 h0 n0 _ TB.heap _
        rw [eB]
        exact ⟨(congrArg (fun z => some (Value.int z)) hv.symm), NB, rfl⟩
  have B136 : ∀ (TB : State) (Lc : List Loc) (XB : Stand p l e ({ frames := 0, cells := 0, slots := 0, locals := 0 } : Room) s m #[(.int x0)] below meth c TB Lc 0 0) (eB : TB.heap = h0) (NB : Fr n0 Lc) , own_f x0 = own_f_136 x0 → own_Go p e below (fun s₂ oc => ∃ v L, oc = .returned v ∧ Qf Z x0 h0 n0 v s₂.heap L ∧ FrameEnd s oc s₂ L ({ frames := 0, cells := 0, slots := 0, locals := 0 } : Room).cells ({ frames := 0, cells := 0, slots := 0, locals := 0 } : Room).slots) TB (mkF m 136 #[.val (.int x0)] []) := by
    intro TB Lc XB eB NB  hv
    refine og_iloadN (pc' := 137) XB hx (hb hby d2_136) rfl rfl ?_
    refine og_sipush (pc' := 140) (n := 12289) XB hx (hb hby d2_137) rfl rfl ?_
    by_cases hc140_7 : x0 < (12289 : Int32)
    · have hv := hv.trans (if_pos hc140_7)
      refine og_icmpYes (pc' := 149) XB hx (hb hby d2_140) (tlt hc140_7).1 (by decide) (by decide) ?_
      exact B149 TB _ XB eB NB  hv
    · have hv := hv.trans (if_neg hc140_7)
      refine og_icmpNo (pc' := 143) XB hx (hb hby d2_140) (flt hc140_7).1 rfl ?_
      refine og_iloadN (pc' := 144) XB hx (hb hby d2_143) rfl rfl ?_
      refine og_ldc (pc' := 146) XB hx (hb hby d2_144) hown (mvT hZ (hw _ (List.mem_of_getElem? (i := 26) rfl))) rfl ?_
      by_cases hc146_8 : (55295 : Int32) < x0
      · have hv := hv.trans (if_pos hc146_8)
        refine og_icmpNo (pc' := 149) XB hx (hb hby d2_146) (tlt hc146_8).2.2.2 rfl ?_
        exact B149 TB _ XB eB NB  hv
      · have hv := hv.trans (if_neg hc146_8)
        refine og_icmpYes (pc' := 185) XB hx (hb hby d2_146) (flt hc146_8).2.2.2 (by decide) (by decide) ?_
        refine og_iconst (pc' := 186) (n := 1) XB hx (hb hby d2_185) rfl rfl ?_
        refine og_goto (pc' := 190) XB hx (hb hby d2_186) (by decide) (by decide) ?_
        obtain ⟨fs, hr, hrun, hended, hW, hsame⟩ := XB.leave (v := some (.int (1 : Int32))) (fun h => by rw [Bd.returns] at h; cases h) (BodyLoose.notSynchronized Bd)
        refine ⟨_, _, retN XB hx (t := .boolean) Bd.returns (by simp) (hb hby d2_190) hr, hrun, hended, some (.int (1 : Int32)), _, rfl, ?_, ⟨_, rfl⟩, hW, hsame.mono (by decide) (by decide)⟩
        show Qf Z x0 h0 n0 _ TB.heap _
        rw [eB]
        exact ⟨(congrArg (fun z => some (Value.int z)) hv.symm), NB, rfl⟩
  have B122 : ∀ (TB : State) (Lc : List Loc) (XB : Stand p l e ({ frames := 0, cells := 0, slots := 0, locals := 0 } : Room) s m #[(.int x0)] below meth c TB Lc 0 0) (eB : TB.heap = h0) (NB : Fr n0 Lc) , own_f x0 = own_f_122 x0 → own_Go p e below (fun s₂ oc => ∃ v L, oc = .returned v ∧ Qf Z x0 h0 n0 v s₂.heap L ∧ FrameEnd s oc s₂ L ({ frames := 0, cells := 0, slots := 0, locals := 0 } : Room).cells ({ frames := 0, cells := 0, slots := 0, locals := 0 } : Room).slots) TB (mkF m 122 #[.val (.int x0)] []) := by
    intro TB Lc XB eB NB  hv
    refine og_iloadN (pc' := 123) XB hx (hb hby d2_122) rfl rfl ?_
    refine og_sipush (pc' := 126) (n := 11264) XB hx (hb hby d2_123) rfl rfl ?_
    by_cases hc126_9 : x0 < (11264 : Int32)
    · have hv := hv.trans (if_pos hc126_9)
      refine og_icmpYes (pc' := 136) XB hx (hb hby d2_126) (tlt hc126_9).1 (by decide) (by decide) ?_
      exact B136 TB _ XB eB NB  hv
    · have hv := hv.trans (if_neg hc126_9)
      refine og_icmpNo (pc' := 129) XB hx (hb hby d2_126) (flt hc126_9).1 rfl ?_
      refine og_iloadN (pc' := 130) XB hx (hb hby d2_129) rfl rfl ?_
      refine og_sipush (pc' := 133) (n := 12271) XB hx (hb hby d2_130) rfl rfl ?_
      by_cases hc133_10 : (12271 : Int32) < x0
      · have hv := hv.trans (if_pos hc133_10)
        refine og_icmpNo (pc' := 136) XB hx (hb hby d2_133) (tlt hc133_10).2.2.2 rfl ?_
        exact B136 TB _ XB eB NB  hv
      · have hv := hv.trans (if_neg hc133_10)
        refine og_icmpYes (pc' := 185) XB hx (hb hby d2_133) (flt hc133_10).2.2.2 (by decide) (by decide) ?_
        refine og_iconst (pc' := 186) (n := 1) XB hx (hb hby d2_185) rfl rfl ?_
        refine og_goto (pc' := 190) XB hx (hb hby d2_186) (by decide) (by decide) ?_
        obtain ⟨fs, hr, hrun, hended, hW, hsame⟩ := XB.leave (v := some (.int (1 : Int32))) (fun h => by rw [Bd.returns] at h; cases h) (BodyLoose.notSynchronized Bd)
        refine ⟨_, _, retN XB hx (t := .boolean) Bd.returns (by simp) (hb hby d2_190) hr, hrun, hended, some (.int (1 : Int32)), _, rfl, ?_, ⟨_, rfl⟩, hW, hsame.mono (by decide) (by decide)⟩
        show Qf Z x0 h0 n0 _ TB.heap _
        rw [eB]
        exact ⟨(congrArg (fun z => some (Value.int z)) hv.symm), NB, rfl⟩
  have B108 : ∀ (TB : State) (Lc : List Loc) (XB : Stand p l e ({ frames := 0, cells := 0, slots := 0, locals := 0 } : Room) s m #[(.int x0)] below meth c TB Lc 0 0) (eB : TB.heap = h0) (NB : Fr n0 Lc) , own_f x0 = own_f_108 x0 → own_Go p e below (fun s₂ oc => ∃ v L, oc = .returned v ∧ Qf Z x0 h0 n0 v s₂.heap L ∧ FrameEnd s oc s₂ L ({ frames := 0, cells := 0, slots := 0, locals := 0 } : Room).cells ({ frames := 0, cells := 0, slots := 0, locals := 0 } : Room).slots) TB (mkF m 108 #[.val (.int x0)] []) := by
    intro TB Lc XB eB NB  hv
    refine og_iloadN (pc' := 109) XB hx (hb hby d2_108) rfl rfl ?_
    refine og_sipush (pc' := 112) (n := 8304) XB hx (hb hby d2_109) rfl rfl ?_
    by_cases hc112_11 : x0 < (8304 : Int32)
    · have hv := hv.trans (if_pos hc112_11)
      refine og_icmpYes (pc' := 122) XB hx (hb hby d2_112) (tlt hc112_11).1 (by decide) (by decide) ?_
      exact B122 TB _ XB eB NB  hv
    · have hv := hv.trans (if_neg hc112_11)
      refine og_icmpNo (pc' := 115) XB hx (hb hby d2_112) (flt hc112_11).1 rfl ?_
      refine og_iloadN (pc' := 116) XB hx (hb hby d2_115) rfl rfl ?_
      refine og_sipush (pc' := 119) (n := 8591) XB hx (hb hby d2_116) rfl rfl ?_
      by_cases hc119_12 : (8591 : Int32) < x0
      · have hv := hv.trans (if_pos hc119_12)
        refine og_icmpNo (pc' := 122) XB hx (hb hby d2_119) (tlt hc119_12).2.2.2 rfl ?_
        exact B122 TB _ XB eB NB  hv
      · have hv := hv.trans (if_neg hc119_12)
        refine og_icmpYes (pc' := 185) XB hx (hb hby d2_119) (flt hc119_12).2.2.2 (by decide) (by decide) ?_
        refine og_iconst (pc' := 186) (n := 1) XB hx (hb hby d2_185) rfl rfl ?_
        refine og_goto (pc' := 190) XB hx (hb hby d2_186) (by decide) (by decide) ?_
        obtain ⟨fs, hr, hrun, hended, hW, hsame⟩ := XB.leave (v := some (.int (1 : Int32))) (fun h => by rw [Bd.returns] at h; cases h) (BodyLoose.notSynchronized Bd)
        refine ⟨_, _, retN XB hx (t := .boolean) Bd.returns (by simp) (hb hby d2_190) hr, hrun, hended, some (.int (1 : Int32)), _, rfl, ?_, ⟨_, rfl⟩, hW, hsame.mono (by decide) (by decide)⟩
        show Qf Z x0 h0 n0 _ TB.heap _
        rw [eB]
        exact ⟨(congrArg (fun z => some (Value.int z)) hv.symm), NB, rfl⟩
  have B94 : ∀ (TB : State) (Lc : List Loc) (XB : Stand p l e ({ frames := 0, cells := 0, slots := 0, locals := 0 } : Room) s m #[(.int x0)] below meth c TB Lc 0 0) (eB : TB.heap = h0) (NB : Fr n0 Lc) , own_f x0 = own_f_94 x0 → own_Go p e below (fun s₂ oc => ∃ v L, oc = .returned v ∧ Qf Z x0 h0 n0 v s₂.heap L ∧ FrameEnd s oc s₂ L ({ frames := 0, cells := 0, slots := 0, locals := 0 } : Room).cells ({ frames := 0, cells := 0, slots := 0, locals := 0 } : Room).slots) TB (mkF m 94 #[.val (.int x0)] []) := by
    intro TB Lc XB eB NB  hv
    refine og_iloadN (pc' := 95) XB hx (hb hby d2_94) rfl rfl ?_
    refine og_sipush (pc' := 98) (n := 8204) XB hx (hb hby d2_95) rfl rfl ?_
    by_cases hc98_13 : x0 < (8204 : Int32)
    · have hv := hv.trans (if_pos hc98_13)
      refine og_icmpYes (pc' := 108) XB hx (hb hby d2_98) (tlt hc98_13).1 (by decide) (by decide) ?_
      exact B108 TB _ XB eB NB  hv
    · have hv := hv.trans (if_neg hc98_13)
      refine og_icmpNo (pc' := 101) XB hx (hb hby d2_98) (flt hc98_13).1 rfl ?_
      refine og_iloadN (pc' := 102) XB hx (hb hby d2_101) rfl rfl ?_
      refine og_sipush (pc' := 105) (n := 8205) XB hx (hb hby d2_102) rfl rfl ?_
      by_cases hc105_14 : (8205 : Int32) < x0
      · have hv := hv.trans (if_pos hc105_14)
        refine og_icmpNo (pc' := 108) XB hx (hb hby d2_105) (tlt hc105_14).2.2.2 rfl ?_
        exact B108 TB _ XB eB NB  hv
      · have hv := hv.trans (if_neg hc105_14)
        refine og_icmpYes (pc' := 185) XB hx (hb hby d2_105) (flt hc105_14).2.2.2 (by decide) (by decide) ?_
        refine og_iconst (pc' := 186) (n := 1) XB hx (hb hby d2_185) rfl rfl ?_
        refine og_goto (pc' := 190) XB hx (hb hby d2_186) (by decide) (by decide) ?_
        obtain ⟨fs, hr, hrun, hended, hW, hsame⟩ := XB.leave (v := some (.int (1 : Int32))) (fun h => by rw [Bd.returns] at h; cases h) (BodyLoose.notSynchronized Bd)
        refine ⟨_, _, retN XB hx (t := .boolean) Bd.returns (by simp) (hb hby d2_190) hr, hrun, hended, some (.int (1 : Int32)), _, rfl, ?_, ⟨_, rfl⟩, hW, hsame.mono (by decide) (by decide)⟩
        show Qf Z x0 h0 n0 _ TB.heap _
        rw [eB]
        exact ⟨(congrArg (fun z => some (Value.int z)) hv.symm), NB, rfl⟩
  have B80 : ∀ (TB : State) (Lc : List Loc) (XB : Stand p l e ({ frames := 0, cells := 0, slots := 0, locals := 0 } : Room) s m #[(.int x0)] below meth c TB Lc 0 0) (eB : TB.heap = h0) (NB : Fr n0 Lc) , own_f x0 = own_f_80 x0 → own_Go p e below (fun s₂ oc => ∃ v L, oc = .returned v ∧ Qf Z x0 h0 n0 v s₂.heap L ∧ FrameEnd s oc s₂ L ({ frames := 0, cells := 0, slots := 0, locals := 0 } : Room).cells ({ frames := 0, cells := 0, slots := 0, locals := 0 } : Room).slots) TB (mkF m 80 #[.val (.int x0)] []) := by
    intro TB Lc XB eB NB  hv
    refine og_iloadN (pc' := 81) XB hx (hb hby d2_80) rfl rfl ?_
    refine og_sipush (pc' := 84) (n := 895) XB hx (hb hby d2_81) rfl rfl ?_
    by_cases hc84_15 : x0 < (895 : Int32)
    · have hv := hv.trans (if_pos hc84_15)
      refine og_icmpYes (pc' := 94) XB hx (hb hby d2_84) (tlt hc84_15).1 (by decide) (by decide) ?_
      exact B94 TB _ XB eB NB  hv
    · have hv := hv.trans (if_neg hc84_15)
      refine og_icmpNo (pc' := 87) XB hx (hb hby d2_84) (flt hc84_15).1 rfl ?_
      refine og_iloadN (pc' := 88) XB hx (hb hby d2_87) rfl rfl ?_
      refine og_sipush (pc' := 91) (n := 8191) XB hx (hb hby d2_88) rfl rfl ?_
      by_cases hc91_16 : (8191 : Int32) < x0
      · have hv := hv.trans (if_pos hc91_16)
        refine og_icmpNo (pc' := 94) XB hx (hb hby d2_91) (tlt hc91_16).2.2.2 rfl ?_
        exact B94 TB _ XB eB NB  hv
      · have hv := hv.trans (if_neg hc91_16)
        refine og_icmpYes (pc' := 185) XB hx (hb hby d2_91) (flt hc91_16).2.2.2 (by decide) (by decide) ?_
        refine og_iconst (pc' := 186) (n := 1) XB hx (hb hby d2_185) rfl rfl ?_
        refine og_goto (pc' := 190) XB hx (hb hby d2_186) (by decide) (by decide) ?_
        obtain ⟨fs, hr, hrun, hended, hW, hsame⟩ := XB.leave (v := some (.int (1 : Int32))) (fun h => by rw [Bd.returns] at h; cases h) (BodyLoose.notSynchronized Bd)
        refine ⟨_, _, retN XB hx (t := .boolean) Bd.returns (by simp) (hb hby d2_190) hr, hrun, hended, some (.int (1 : Int32)), _, rfl, ?_, ⟨_, rfl⟩, hW, hsame.mono (by decide) (by decide)⟩
        show Qf Z x0 h0 n0 _ TB.heap _
        rw [eB]
        exact ⟨(congrArg (fun z => some (Value.int z)) hv.symm), NB, rfl⟩
  have B66 : ∀ (TB : State) (Lc : List Loc) (XB : Stand p l e ({ frames := 0, cells := 0, slots := 0, locals := 0 } : Room) s m #[(.int x0)] below meth c TB Lc 0 0) (eB : TB.heap = h0) (NB : Fr n0 Lc) , own_f x0 = own_f_66 x0 → own_Go p e below (fun s₂ oc => ∃ v L, oc = .returned v ∧ Qf Z x0 h0 n0 v s₂.heap L ∧ FrameEnd s oc s₂ L ({ frames := 0, cells := 0, slots := 0, locals := 0 } : Room).cells ({ frames := 0, cells := 0, slots := 0, locals := 0 } : Room).slots) TB (mkF m 66 #[.val (.int x0)] []) := by
    intro TB Lc XB eB NB  hv
    refine og_iloadN (pc' := 67) XB hx (hb hby d2_66) rfl rfl ?_
    refine og_sipush (pc' := 70) (n := 880) XB hx (hb hby d2_67) rfl rfl ?_
    by_cases hc70_17 : x0 < (880 : Int32)
    · have hv := hv.trans (if_pos hc70_17)
      refine og_icmpYes (pc' := 80) XB hx (hb hby d2_70) (tlt hc70_17).1 (by decide) (by decide) ?_
      exact B80 TB _ XB eB NB  hv
    · have hv := hv.trans (if_neg hc70_17)
      refine og_icmpNo (pc' := 73) XB hx (hb hby d2_70) (flt hc70_17).1 rfl ?_
      refine og_iloadN (pc' := 74) XB hx (hb hby d2_73) rfl rfl ?_
      refine og_sipush (pc' := 77) (n := 893) XB hx (hb hby d2_74) rfl rfl ?_
      by_cases hc77_18 : (893 : Int32) < x0
      · have hv := hv.trans (if_pos hc77_18)
        refine og_icmpNo (pc' := 80) XB hx (hb hby d2_77) (tlt hc77_18).2.2.2 rfl ?_
        exact B80 TB _ XB eB NB  hv
      · have hv := hv.trans (if_neg hc77_18)
        refine og_icmpYes (pc' := 185) XB hx (hb hby d2_77) (flt hc77_18).2.2.2 (by decide) (by decide) ?_
        refine og_iconst (pc' := 186) (n := 1) XB hx (hb hby d2_185) rfl rfl ?_
        refine og_goto (pc' := 190) XB hx (hb hby d2_186) (by decide) (by decide) ?_
        obtain ⟨fs, hr, hrun, hended, hW, hsame⟩ := XB.leave (v := some (.int (1 : Int32))) (fun h => by rw [Bd.returns] at h; cases h) (BodyLoose.notSynchronized Bd)
        refine ⟨_, _, retN XB hx (t := .boolean) Bd.returns (by simp) (hb hby d2_190) hr, hrun, hended, some (.int (1 : Int32)), _, rfl, ?_, ⟨_, rfl⟩, hW, hsame.mono (by decide) (by decide)⟩
        show Qf Z x0 h0 n0 _ TB.heap _
        rw [eB]
        exact ⟨(congrArg (fun z => some (Value.int z)) hv.symm), NB, rfl⟩
  have B52 : ∀ (TB : State) (Lc : List Loc) (XB : Stand p l e ({ frames := 0, cells := 0, slots := 0, locals := 0 } : Room) s m #[(.int x0)] below meth c TB Lc 0 0) (eB : TB.heap = h0) (NB : Fr n0 Lc) , own_f x0 = own_f_52 x0 → own_Go p e below (fun s₂ oc => ∃ v L, oc = .returned v ∧ Qf Z x0 h0 n0 v s₂.heap L ∧ FrameEnd s oc s₂ L ({ frames := 0, cells := 0, slots := 0, locals := 0 } : Room).cells ({ frames := 0, cells := 0, slots := 0, locals := 0 } : Room).slots) TB (mkF m 52 #[.val (.int x0)] []) := by
    intro TB Lc XB eB NB  hv
    refine og_iloadN (pc' := 53) XB hx (hb hby d2_52) rfl rfl ?_
    refine og_sipush (pc' := 56) (n := 248) XB hx (hb hby d2_53) rfl rfl ?_
    by_cases hc56_19 : x0 < (248 : Int32)
    · have hv := hv.trans (if_pos hc56_19)
      refine og_icmpYes (pc' := 66) XB hx (hb hby d2_56) (tlt hc56_19).1 (by decide) (by decide) ?_
      exact B66 TB _ XB eB NB  hv
    · have hv := hv.trans (if_neg hc56_19)
      refine og_icmpNo (pc' := 59) XB hx (hb hby d2_56) (flt hc56_19).1 rfl ?_
      refine og_iloadN (pc' := 60) XB hx (hb hby d2_59) rfl rfl ?_
      refine og_sipush (pc' := 63) (n := 767) XB hx (hb hby d2_60) rfl rfl ?_
      by_cases hc63_20 : (767 : Int32) < x0
      · have hv := hv.trans (if_pos hc63_20)
        refine og_icmpNo (pc' := 66) XB hx (hb hby d2_63) (tlt hc63_20).2.2.2 rfl ?_
        exact B66 TB _ XB eB NB  hv
      · have hv := hv.trans (if_neg hc63_20)
        refine og_icmpYes (pc' := 185) XB hx (hb hby d2_63) (flt hc63_20).2.2.2 (by decide) (by decide) ?_
        refine og_iconst (pc' := 186) (n := 1) XB hx (hb hby d2_185) rfl rfl ?_
        refine og_goto (pc' := 190) XB hx (hb hby d2_186) (by decide) (by decide) ?_
        obtain ⟨fs, hr, hrun, hended, hW, hsame⟩ := XB.leave (v := some (.int (1 : Int32))) (fun h => by rw [Bd.returns] at h; cases h) (BodyLoose.notSynchronized Bd)
        refine ⟨_, _, retN XB hx (t := .boolean) Bd.returns (by simp) (hb hby d2_190) hr, hrun, hended, some (.int (1 : Int32)), _, rfl, ?_, ⟨_, rfl⟩, hW, hsame.mono (by decide) (by decide)⟩
        show Qf Z x0 h0 n0 _ TB.heap _
        rw [eB]
        exact ⟨(congrArg (fun z => some (Value.int z)) hv.symm), NB, rfl⟩
  have B38 : ∀ (TB : State) (Lc : List Loc) (XB : Stand p l e ({ frames := 0, cells := 0, slots := 0, locals := 0 } : Room) s m #[(.int x0)] below meth c TB Lc 0 0) (eB : TB.heap = h0) (NB : Fr n0 Lc) , own_f x0 = own_f_38 x0 → own_Go p e below (fun s₂ oc => ∃ v L, oc = .returned v ∧ Qf Z x0 h0 n0 v s₂.heap L ∧ FrameEnd s oc s₂ L ({ frames := 0, cells := 0, slots := 0, locals := 0 } : Room).cells ({ frames := 0, cells := 0, slots := 0, locals := 0 } : Room).slots) TB (mkF m 38 #[.val (.int x0)] []) := by
    intro TB Lc XB eB NB  hv
    refine og_iloadN (pc' := 39) XB hx (hb hby d2_38) rfl rfl ?_
    refine og_sipush (pc' := 42) (n := 216) XB hx (hb hby d2_39) rfl rfl ?_
    by_cases hc42_21 : x0 < (216 : Int32)
    · have hv := hv.trans (if_pos hc42_21)
      refine og_icmpYes (pc' := 52) XB hx (hb hby d2_42) (tlt hc42_21).1 (by decide) (by decide) ?_
      exact B52 TB _ XB eB NB  hv
    · have hv := hv.trans (if_neg hc42_21)
      refine og_icmpNo (pc' := 45) XB hx (hb hby d2_42) (flt hc42_21).1 rfl ?_
      refine og_iloadN (pc' := 46) XB hx (hb hby d2_45) rfl rfl ?_
      refine og_sipush (pc' := 49) (n := 246) XB hx (hb hby d2_46) rfl rfl ?_
      by_cases hc49_22 : (246 : Int32) < x0
      · have hv := hv.trans (if_pos hc49_22)
        refine og_icmpNo (pc' := 52) XB hx (hb hby d2_49) (tlt hc49_22).2.2.2 rfl ?_
        exact B52 TB _ XB eB NB  hv
      · have hv := hv.trans (if_neg hc49_22)
        refine og_icmpYes (pc' := 185) XB hx (hb hby d2_49) (flt hc49_22).2.2.2 (by decide) (by decide) ?_
        refine og_iconst (pc' := 186) (n := 1) XB hx (hb hby d2_185) rfl rfl ?_
        refine og_goto (pc' := 190) XB hx (hb hby d2_186) (by decide) (by decide) ?_
        obtain ⟨fs, hr, hrun, hended, hW, hsame⟩ := XB.leave (v := some (.int (1 : Int32))) (fun h => by rw [Bd.returns] at h; cases h) (BodyLoose.notSynchronized Bd)
        refine ⟨_, _, retN XB hx (t := .boolean) Bd.returns (by simp) (hb hby d2_190) hr, hrun, hended, some (.int (1 : Int32)), _, rfl, ?_, ⟨_, rfl⟩, hW, hsame.mono (by decide) (by decide)⟩
        show Qf Z x0 h0 n0 _ TB.heap _
        rw [eB]
        exact ⟨(congrArg (fun z => some (Value.int z)) hv.symm), NB, rfl⟩
  have B24 : ∀ (TB : State) (Lc : List Loc) (XB : Stand p l e ({ frames := 0, cells := 0, slots := 0, locals := 0 } : Room) s m #[(.int x0)] below meth c TB Lc 0 0) (eB : TB.heap = h0) (NB : Fr n0 Lc) , own_f x0 = own_f_24 x0 → own_Go p e below (fun s₂ oc => ∃ v L, oc = .returned v ∧ Qf Z x0 h0 n0 v s₂.heap L ∧ FrameEnd s oc s₂ L ({ frames := 0, cells := 0, slots := 0, locals := 0 } : Room).cells ({ frames := 0, cells := 0, slots := 0, locals := 0 } : Room).slots) TB (mkF m 24 #[.val (.int x0)] []) := by
    intro TB Lc XB eB NB  hv
    refine og_iloadN (pc' := 25) XB hx (hb hby d2_24) rfl rfl ?_
    refine og_sipush (pc' := 28) (n := 192) XB hx (hb hby d2_25) rfl rfl ?_
    by_cases hc28_23 : x0 < (192 : Int32)
    · have hv := hv.trans (if_pos hc28_23)
      refine og_icmpYes (pc' := 38) XB hx (hb hby d2_28) (tlt hc28_23).1 (by decide) (by decide) ?_
      exact B38 TB _ XB eB NB  hv
    · have hv := hv.trans (if_neg hc28_23)
      refine og_icmpNo (pc' := 31) XB hx (hb hby d2_28) (flt hc28_23).1 rfl ?_
      refine og_iloadN (pc' := 32) XB hx (hb hby d2_31) rfl rfl ?_
      refine og_sipush (pc' := 35) (n := 214) XB hx (hb hby d2_32) rfl rfl ?_
      by_cases hc35_24 : (214 : Int32) < x0
      · have hv := hv.trans (if_pos hc35_24)
        refine og_icmpNo (pc' := 38) XB hx (hb hby d2_35) (tlt hc35_24).2.2.2 rfl ?_
        exact B38 TB _ XB eB NB  hv
      · have hv := hv.trans (if_neg hc35_24)
        refine og_icmpYes (pc' := 185) XB hx (hb hby d2_35) (flt hc35_24).2.2.2 (by decide) (by decide) ?_
        refine og_iconst (pc' := 186) (n := 1) XB hx (hb hby d2_185) rfl rfl ?_
        refine og_goto (pc' := 190) XB hx (hb hby d2_186) (by decide) (by decide) ?_
        obtain ⟨fs, hr, hrun, hended, hW, hsame⟩ := XB.leave (v := some (.int (1 : Int32))) (fun h => by rw [Bd.returns] at h; cases h) (BodyLoose.notSynchronized Bd)
        refine ⟨_, _, retN XB hx (t := .boolean) Bd.returns (by simp) (hb hby d2_190) hr, hrun, hended, some (.int (1 : Int32)), _, rfl, ?_, ⟨_, rfl⟩, hW, hsame.mono (by decide) (by decide)⟩
        show Qf Z x0 h0 n0 _ TB.heap _
        rw [eB]
        exact ⟨(congrArg (fun z => some (Value.int z)) hv.symm), NB, rfl⟩
  have B12 : ∀ (TB : State) (Lc : List Loc) (XB : Stand p l e ({ frames := 0, cells := 0, slots := 0, locals := 0 } : Room) s m #[(.int x0)] below meth c TB Lc 0 0) (eB : TB.heap = h0) (NB : Fr n0 Lc) , own_f x0 = own_f_12 x0 → own_Go p e below (fun s₂ oc => ∃ v L, oc = .returned v ∧ Qf Z x0 h0 n0 v s₂.heap L ∧ FrameEnd s oc s₂ L ({ frames := 0, cells := 0, slots := 0, locals := 0 } : Room).cells ({ frames := 0, cells := 0, slots := 0, locals := 0 } : Room).slots) TB (mkF m 12 #[.val (.int x0)] []) := by
    intro TB Lc XB eB NB  hv
    refine og_iloadN (pc' := 13) XB hx (hb hby d2_12) rfl rfl ?_
    refine og_bipush (pc' := 15) (n := 97) XB hx (hb hby d2_13) rfl rfl ?_
    by_cases hc15_25 : x0 < (97 : Int32)
    · have hv := hv.trans (if_pos hc15_25)
      refine og_icmpYes (pc' := 24) XB hx (hb hby d2_15) (tlt hc15_25).1 (by decide) (by decide) ?_
      exact B24 TB _ XB eB NB  hv
    · have hv := hv.trans (if_neg hc15_25)
      refine og_icmpNo (pc' := 18) XB hx (hb hby d2_15) (flt hc15_25).1 rfl ?_
      refine og_iloadN (pc' := 19) XB hx (hb hby d2_18) rfl rfl ?_
      refine og_bipush (pc' := 21) (n := 122) XB hx (hb hby d2_19) rfl rfl ?_
      by_cases hc21_26 : (122 : Int32) < x0
      · have hv := hv.trans (if_pos hc21_26)
        refine og_icmpNo (pc' := 24) XB hx (hb hby d2_21) (tlt hc21_26).2.2.2 rfl ?_
        exact B24 TB _ XB eB NB  hv
      · have hv := hv.trans (if_neg hc21_26)
        refine og_icmpYes (pc' := 185) XB hx (hb hby d2_21) (flt hc21_26).2.2.2 (by decide) (by decide) ?_
        refine og_iconst (pc' := 186) (n := 1) XB hx (hb hby d2_185) rfl rfl ?_
        refine og_goto (pc' := 190) XB hx (hb hby d2_186) (by decide) (by decide) ?_
        obtain ⟨fs, hr, hrun, hended, hW, hsame⟩ := XB.leave (v := some (.int (1 : Int32))) (fun h => by rw [Bd.returns] at h; cases h) (BodyLoose.notSynchronized Bd)
        refine ⟨_, _, retN XB hx (t := .boolean) Bd.returns (by simp) (hb hby d2_190) hr, hrun, hended, some (.int (1 : Int32)), _, rfl, ?_, ⟨_, rfl⟩, hW, hsame.mono (by decide) (by decide)⟩
        show Qf Z x0 h0 n0 _ TB.heap _
        rw [eB]
        exact ⟨(congrArg (fun z => some (Value.int z)) hv.symm), NB, rfl⟩
  refine own_Go.of (g' := mkF m 0 #[.val (.int x0)] []) (fun t k => castTop (eff m x0) k) ?_
  have hv : own_f x0 = own_f x0 := rfl
  refine og_iloadN (pc' := 1) X0 hx (hb hby d2_0) rfl rfl ?_
  refine og_bipush (pc' := 3) (n := 65) X0 hx (hb hby d2_1) rfl rfl ?_
  by_cases hc3_27 : x0 < (65 : Int32)
  · have hv := hv.trans (if_pos hc3_27)
    refine og_icmpYes (pc' := 12) X0 hx (hb hby d2_3) (tlt hc3_27).1 (by decide) (by decide) ?_
    exact B12 s₁ _ X0 e0 N0  hv
  · have hv := hv.trans (if_neg hc3_27)
    refine og_icmpNo (pc' := 6) X0 hx (hb hby d2_3) (flt hc3_27).1 rfl ?_
    refine og_iloadN (pc' := 7) X0 hx (hb hby d2_6) rfl rfl ?_
    refine og_bipush (pc' := 9) (n := 90) X0 hx (hb hby d2_7) rfl rfl ?_
    by_cases hc9_28 : (90 : Int32) < x0
    · have hv := hv.trans (if_pos hc9_28)
      refine og_icmpNo (pc' := 12) X0 hx (hb hby d2_9) (tlt hc9_28).2.2.2 rfl ?_
      exact B12 s₁ _ X0 e0 N0  hv
    · have hv := hv.trans (if_neg hc9_28)
      refine og_icmpYes (pc' := 185) X0 hx (hb hby d2_9) (flt hc9_28).2.2.2 (by decide) (by decide) ?_
      refine og_iconst (pc' := 186) (n := 1) X0 hx (hb hby d2_185) rfl rfl ?_
      refine og_goto (pc' := 190) X0 hx (hb hby d2_186) (by decide) (by decide) ?_
      obtain ⟨fs, hr, hrun, hended, hW, hsame⟩ := X0.leave (v := some (.int (1 : Int32))) (fun h => by rw [Bd.returns] at h; cases h) (BodyLoose.notSynchronized Bd)
      refine ⟨_, _, retN X0 hx (t := .boolean) Bd.returns (by simp) (hb hby d2_190) hr, hrun, hended, some (.int (1 : Int32)), _, rfl, ?_, ⟨_, rfl⟩, hW, hsame.mono (by decide) (by decide)⟩
      show Qf Z x0 h0 n0 _ s₁.heap _
      rw [e0]
      exact ⟨(congrArg (fun z => some (Value.int z)) hv.symm), N0, rfl⟩

def own_u (x0 : Int32) : Int32 := (if x0 = (95 : Int32) then (1 : Int32) else (if (own_f x0) = (0 : Int32) then (0 : Int32) else (1 : Int32)))
theorem d1_0 : decode prog_144_method_4_code 0 = .ok (.iload_n 0, 1) := by decide +kernel
theorem d1_1 : decode prog_144_method_4_code 1 = .ok (.bipush 95, 2) := by decide +kernel
theorem d1_3 : decode prog_144_method_4_code 3 = .ok (.if_icmp .eq 10, 3) := by decide +kernel
theorem d1_6 : decode prog_144_method_4_code 6 = .ok (.iload_n 0, 1) := by decide +kernel
theorem d1_7 : decode prog_144_method_4_code 7 = .ok (.invokestatic 40, 3) := by decide +kernel
theorem d1_10 : decode prog_144_method_4_code 10 = .ok (.ifCond .eq 7, 3) := by decide +kernel
theorem d1_13 : decode prog_144_method_4_code 13 = .ok (.iconst 1, 1) := by decide +kernel
theorem d1_14 : decode prog_144_method_4_code 14 = .ok (.goto 4, 3) := by decide +kernel
theorem d1_17 : decode prog_144_method_4_code 17 = .ok (.iconst 0, 1) := by decide +kernel
theorem d1_18 : decode prog_144_method_4_code 18 = .ok (.ireturn, 1) := by decide +kernel
theorem pnu : plainName "com/example/ragtable/ragtable/rdfio/TermTokens" = true := by first | (simp [plainName, overriddenIn]; done) | decide +kernel
theorem pd_0 : parseMethodDescriptor "(I)Z" = some ⟨[.int], some .boolean⟩ := by decide +kernel
theorem efu (m : MethodId) (z0 : Int32) : entryFrame m #[(.int z0)] 1 = mkF m 0 #[.val (.int z0)] [] := by first | (simp [entryFrame, mkF, argsToLocals, Value.category]; done) | rfl
def Qu (Z : State) (x0 : Int32) (h0 : Heap) (n0 : Nat) (v : Option Value) (h : Heap) (L : List Loc) : Prop := v = some (.int (own_u x0)) ∧ Fr n0 L ∧ h = h0
set_option maxRecDepth 65536 in
set_option maxHeartbeats 40000000 in
theorem rmu (l : Launch) (Z : State) (a0 : Array Value) (hw : ∀ d ∈ tables_1, d.before a0 Z = true) (ws : List Jvm.Cond) (x0 : Int32) (h0 : Heap) (n0 : Nat) (Z0 : n0 ≤ h0.size) :
    MetFree l (⟨"com/example/ragtable/ragtable/rdfio/TermTokens", "isPnCharsU", "(I)Z"⟩ : MethodName) (head1 (Jvm.Cond.code (⟨"com/example/ragtable/ragtable/rdfio/TermTokens", "isPnCharsU", "(I)Z"⟩ : MethodName) prog_144_method_4_code 1 (some .boolean) :: ws) ({ frames := 1, cells := 0, slots := 0, locals := 12 } : Room)) (fun a U => a = #[(.int x0)] ∧ Z.Warmed39 U.vm ∧ U.heap = h0) (fun _ _ _ _ _ => True) (fun _ U oc U' => ∃ v L, oc = .returned v ∧ Qu Z x0 h0 n0 v U'.heap L ∧ FrameEnd U oc U' L ({ frames := 1, cells := 0, slots := 0, locals := 12 } : Room).cells ({ frames := 1, cells := 0, slots := 0, locals := 12 } : Room).slots) := by
  refine MetFree.of_bodySF (plainFor_of_name pnu) hisR ?_
  intro p e s m args below meth c s₁ Bd hml0 hP hK
  obtain ⟨rfl, hZ, hh⟩ := hP
  have hx := Bd.exec
  have hby := Bd.bytes
  have hml : c.maxLocals = 1 := hml0
  have hown : s.vm.findClass "com/example/ragtable/ragtable/rdfio/TermTokens" = some m.cls := findClass_of_methodNamed Bd.named
  have hnm := (name_of_methodNamed Bd.named Bd.method).1
  have X0 : Stand p l e ({ frames := 1, cells := 0, slots := 0, locals := 12 } : Room) s m #[(.int x0)] below meth c s₁ [] 0 0 := Stand.of_body Bd
  have e0 : s₁.heap = h0 := by rw [← hh, Bd.state]; rfl
  have N0 := Fr.nil n0
  show own_Go p e below (fun s₂ oc => ∃ v L, oc = .returned v ∧ Qu Z x0 h0 n0 v s₂.heap L ∧ FrameEnd s oc s₂ L ({ frames := 1, cells := 0, slots := 0, locals := 12 } : Room).cells ({ frames := 1, cells := 0, slots := 0, locals := 12 } : Room).slots) s₁ (entryFrame m #[(.int x0)] 1)
  refine own_Go.of (g' := mkF m 0 #[.val (.int x0)] []) (fun t k => castTop (efu m x0) k) ?_
  have hv : own_u x0 = own_u x0 := rfl
  refine og_iloadN (pc' := 1) X0 hx (hb hby d1_0) rfl rfl ?_
  refine og_bipush (pc' := 3) (n := 95) X0 hx (hb hby d1_1) rfl rfl ?_
  by_cases hc3_1 : x0 = (95 : Int32)
  · have hv := hv.trans (if_pos hc3_1)
    refine og_icmpYes (pc' := 13) X0 hx (hb hby d1_3) (teq hc3_1).1 (by decide) (by decide) ?_
    refine og_iconst (pc' := 14) (n := 1) X0 hx (hb hby d1_13) rfl rfl ?_
    refine og_goto (pc' := 18) X0 hx (hb hby d1_14) (by decide) (by decide) ?_
    obtain ⟨fs, hr, hrun, hended, hW, hsame⟩ := X0.leave (v := some (.int (1 : Int32))) (fun h => by rw [Bd.returns] at h; cases h) (BodyLoose.notSynchronized Bd)
    refine ⟨_, _, retN X0 hx (t := .boolean) Bd.returns (by simp) (hb hby d1_18) hr, hrun, hended, some (.int (1 : Int32)), _, rfl, ?_, ⟨_, rfl⟩, hW, hsame.mono (by decide) (by decide)⟩
    show Qu Z x0 h0 n0 _ s₁.heap _
    rw [e0]
    exact ⟨(congrArg (fun z => some (Value.int z)) hv.symm), N0, rfl⟩
  · have hv := hv.trans (if_neg hc3_1)
    refine og_icmpNo (pc' := 6) X0 hx (hb hby d1_3) (feq hc3_1).1 rfl ?_
    refine og_iloadN (pc' := 7) X0 hx (hb hby d1_6) rfl rfl ?_
    obtain ⟨_, _, ⟨T1, L1, k1, n1⟩, -, X1, ⟨Lc1, hQ1, l1, y1, z1⟩, st1⟩ := Jvm.LawKit.callS X0 hx (y := (⟨"com/example/ragtable/ragtable/rdfio/TermTokens", "isPnCharsBase", "(I)Z"⟩ : MethodName)) hown (mvT hZ (hw _ (List.mem_of_getElem? (i := 13) rfl))) (mvT hZ (hw _ (List.mem_of_getElem? (i := 14) rfl))) (mvT hZ (hw _ (List.mem_of_getElem? (i := 11) rfl))) (mvT hZ (hw _ (List.mem_of_getElem? (i := 15) rfl))) (by decide) (backOf (W := 0) (rmf l Z a0 hw [] x0 h0 n0 Z0 ) hZ (hw _ (List.mem_of_getElem? (i := 15) rfl)) (hw _ (List.mem_of_getElem? (i := 11) rfl)) (by decide) (by decide)) (g := (mkF m 7 #[.val (.int x0)] [(.int x0)])) rfl (by rw [hml]; rfl) (argsL := [(.int x0)]) (rest := []) (lenOf pd_0 rfl) rfl (by show 2 * 0 + _ ≤ _; exact Nat.le_of_eq rfl) (hb hby d1_7) (fun _ _ => ⟨rfl, e0, (by decide : 0 + 0 ≤ _), (by decide : 0 + 0 ≤ _)⟩)
    dsimp only [Pt.U, Pt.locs, Pt.cells, Pt.slots] at X1 l1 y1 z1 st1 hQ1
    subst l1 y1 z1
    obtain ⟨rfl, N1q, e1⟩ := hQ1
    have N1 := Fr.app N0 N1q
    obtain ⟨J1, X1, N1⟩ := own_hide X1 N1
    refine own_Go.of (g' := (mkF m 10 #[.val (.int x0)] [(.int (own_f x0))])) (fun t k => st1 _ k) ?_
    by_cases hc10_2 : (own_f x0) = (0 : Int32)
    · have hv := hv.trans (if_pos hc10_2)
      refine og_ifYes (pc' := 17) X1 hx (hb hby d1_10) ((if0 _ _).trans (teq hc10_2).1) (by decide) (by decide) ?_
      refine og_iconst (pc' := 18) (n := 0) X1 hx (hb hby d1_17) rfl rfl ?_
      obtain ⟨fs, hr, hrun, hended, hW, hsame⟩ := X1.leave (v := some (.int (0 : Int32))) (fun h => by rw [Bd.returns] at h; cases h) (BodyLoose.notSynchronized Bd)
      refine ⟨_, _, retN X1 hx (t := .boolean) Bd.returns (by simp) (hb hby d1_18) hr, hrun, hended, some (.int (0 : Int32)), _, rfl, ?_, ⟨_, rfl⟩, hW, hsame.mono (by decide) (by decide)⟩
      show Qu Z x0 h0 n0 _ T1.heap _
      rw [e1]
      exact ⟨(congrArg (fun z => some (Value.int z)) hv.symm), N1, rfl⟩
    · have hv := hv.trans (if_neg hc10_2)
      refine og_ifNo (pc' := 13) X1 hx (hb hby d1_10) ((if0 _ _).trans (feq hc10_2).1) rfl ?_
      refine og_iconst (pc' := 14) (n := 1) X1 hx (hb hby d1_13) rfl rfl ?_
      refine og_goto (pc' := 18) X1 hx (hb hby d1_14) (by decide) (by decide) ?_
      obtain ⟨fs, hr, hrun, hended, hW, hsame⟩ := X1.leave (v := some (.int (1 : Int32))) (fun h => by rw [Bd.returns] at h; cases h) (BodyLoose.notSynchronized Bd)
      refine ⟨_, _, retN X1 hx (t := .boolean) Bd.returns (by simp) (hb hby d1_18) hr, hrun, hended, some (.int (1 : Int32)), _, rfl, ?_, ⟨_, rfl⟩, hW, hsame.mono (by decide) (by decide)⟩
      show Qu Z x0 h0 n0 _ T1.heap _
      rw [e1]
      exact ⟨(congrArg (fun z => some (Value.int z)) hv.symm), N1, rfl⟩

def own_g_184 (x0 : Int32)  : Int32 := (if x0 < (65534 : Int32) then (1 : Int32) else (if (65535 : Int32) < x0 then (1 : Int32) else (0 : Int32)))
def own_g_170 (x0 : Int32)  : Int32 := (if x0 < (64976 : Int32) then (own_g_184 x0) else (if (65007 : Int32) < x0 then (own_g_184 x0) else (0 : Int32)))
def own_g_156 (x0 : Int32)  : Int32 := (if x0 < (55296 : Int32) then (own_g_170 x0) else (if (63743 : Int32) < x0 then (own_g_170 x0) else (0 : Int32)))
def own_g_140 (x0 : Int32)  : Int32 := (if x0 < (12272 : Int32) then (own_g_156 x0) else (if (12288 : Int32) < x0 then (own_g_156 x0) else (0 : Int32)))
def own_g_124 (x0 : Int32)  : Int32 := (if x0 < (8592 : Int32) then (own_g_140 x0) else (if (11263 : Int32) < x0 then (own_g_140 x0) else (0 : Int32)))
def own_g_108 (x0 : Int32)  : Int32 := (if x0 < (8206 : Int32) then (own_g_124 x0) else (if (8303 : Int32) < x0 then (own_g_124 x0) else (0 : Int32)))
def own_g_83 (x0 : Int32)  : Int32 := (if x0 = (894 : Int32) then (0 : Int32) else (if x0 < (8192 : Int32) then (own_g_108 x0) else (if (8203 : Int32) < x0 then (own_g_108 x0) else (0 : Int32))))
def own_g_51 (x0 : Int32)  : Int32 := (if x0 = (215 : Int32) then (0 : Int32) else (if x0 = (247 : Int32) then (0 : Int32) else (if x0 < (768 : Int32) then (own_g_83 x0) else (if (879 : Int32) < x0 then (own_g_83 x0) else (0 : Int32)))))
def own_g_28 (x0 : Int32)  : Int32 := (if x0 = (96 : Int32) then (0 : Int32) else (if x0 < (123 : Int32) then (own_g_51 x0) else (if (191 : Int32) < x0 then (own_g_51 x0) else (0 : Int32))))
def own_g (x0 : Int32) : Int32 := (if x0 < (65 : Int32) then (0 : Int32) else (if (983039 : Int32) < x0 then (0 : Int32) else (if x0 < (91 : Int32) then (own_g_28 x0) else (if (94 : Int32) < x0 then (own_g_28 x0) else (0 : Int32)))))
theorem d3_0 : decode method_3_code 0 = .ok (.iload_n 0, 1) := by decide +kernel
theorem d3_1 : decode method_3_code 1 = .ok (.bipush 65, 2) := by decide +kernel
theorem d3_3 : decode method_3_code 3 = .ok (.if_icmp .lt 9, 3) := by decide +kernel
theorem d3_6 : decode method_3_code 6 = .ok (.iload_n 0, 1) := by decide +kernel
theorem d3_7 : decode method_3_code 7 = .ok (.ldc 13, 2) := by decide +kernel
theorem d3_9 : decode method_3_code 9 = .ok (.if_icmp .le 5, 3) := by decide +kernel
theorem d3_12 : decode method_3_code 12 = .ok (.iconst 0, 1) := by decide +kernel
theorem d3_13 : decode method_3_code 13 = .ok (.ireturn, 1) := by decide +kernel
theorem d3_14 : decode method_3_code 14 = .ok (.iload_n 0, 1) := by decide +kernel
theorem d3_15 : decode method_3_code 15 = .ok (.bipush 91, 2) := by decide +kernel
theorem d3_17 : decode method_3_code 17 = .ok (.if_icmp .lt 11, 3) := by decide +kernel
theorem d3_20 : decode method_3_code 20 = .ok (.iload_n 0, 1) := by decide +kernel
theorem d3_21 : decode method_3_code 21 = .ok (.bipush 94, 2) := by decide +kernel
theorem d3_23 : decode method_3_code 23 = .ok (.if_icmp .gt 5, 3) := by decide +kernel
theorem d3_26 : decode method_3_code 26 = .ok (.iconst 0, 1) := by decide +kernel
theorem d3_27 : decode method_3_code 27 = .ok (.ireturn, 1) := by decide +kernel
theorem d3_28 : decode method_3_code 28 = .ok (.iload_n 0, 1) := by decide +kernel
theorem d3_29 : decode method_3_code 29 = .ok (.bipush 96, 2) := by decide +kernel
theorem d3_31 : decode method_3_code 31 = .ok (.if_icmp .ne 5, 3) := by decide +kernel
theorem d3_34 : decode method_3_code 34 = .ok (.iconst 0, 1) := by decide +kernel
theorem d3_35 : decode method_3_code 35 = .ok (.ireturn, 1) := by decide +kernel
theorem d3_36 : decode method_3_code 36 = .ok (.iload_n 0, 1) := by decide +kernel
theorem d3_37 : decode method_3_code 37 = .ok (.bipush 123, 2) := by decide +kernel
theorem d3_39 : decode method_3_code 39 = .ok (.if_icmp .lt 12, 3) := by decide +kernel
theorem d3_42 : decode method_3_code 42 = .ok (.iload_n 0, 1) := by decide +kernel
theorem d3_43 : decode method_3_code 43 = .ok (.sipush 191, 3) := by decide +kernel
theorem d3_46 : decode method_3_code 46 = .ok (.if_icmp .gt 5, 3) := by decide +kernel
theorem d3_49 : decode method_3_code 49 = .ok (.iconst 0, 1) := by decide +kernel
theorem d3_50 : decode method_3_code 50 = .ok (.ireturn, 1) := by decide +kernel
theorem d3_51 : decode method_3_code 51 = .ok (.iload_n 0, 1) := by decide +kernel
theorem d3_52 : decode method_3_code 52 = .ok (.sipush 215, 3) := by decide +kernel
theorem d3_55 : decode method_3_code 55 = .ok (.if_icmp .eq 10, 3) := by decide +kernel
theorem d3_58 : decode method_3_code 58 = .ok (.iload_n 0, 1) := by decide +kernel
theorem d3_59 : decode method_3_code 59 = .ok (.sipush 247, 3) := by decide +kernel
theorem d3_62 : decode method_3_code 62 = .ok (.if_icmp .ne 5, 3) := by decide +kernel
theorem d3_65 : decode method_3_code 65 = .ok (.iconst 0, 1) := by decide +kernel
theorem d3_66 : decode method_3_code 66 = .ok (.ireturn, 1) := by decide +kernel
theorem d3_67 : decode method_3_code 67 = .ok (.iload_n 0, 1) := by decide +kernel
theorem d3_68 : decode method_3_code 68 = .ok (.sipush 768, 3) := by decide +kernel
theorem d3_71 : decode method_3_code 71 = .ok (.if_icmp .lt 12, 3) := by decide +kernel
theorem d3_74 : decode method_3_code 74 = .ok (.iload_n 0, 1) := by decide +kernel
theorem d3_75 : decode method_3_code 75 = .ok (.sipush 879, 3) := by decide +kernel
theorem d3_78 : decode method_3_code 78 = .ok (.if_icmp .gt 5, 3) := by decide +kernel
theorem d3_81 : decode method_3_code 81 = .ok (.iconst 0, 1) := by decide +kernel
theorem d3_82 : decode method_3_code 82 = .ok (.ireturn, 1) := by decide +kernel
theorem d3_83 : decode method_3_code 83 = .ok (.iload_n 0, 1) := by decide +kernel
theorem d3_84 : decode method_3_code 84 = .ok (.sipush 894, 3) := by decide +kernel
theorem d3_87 : decode method_3_code 87 = .ok (.if_icmp .ne 5, 3) := by decide +kernel
theorem d3_90 : decode method_3_code 90 = .ok (.iconst 0, 1) := by decide +kernel
theorem d3_91 : decode method_3_code 91 = .ok (.ireturn, 1) := by decide +kernel
theorem d3_92 : decode method_3_code 92 = .ok (.iload_n 0, 1) := by decide +kernel
theorem d3_93 : decode method_3_code 93 = .ok (.sipush 8192, 3) := by decide +kernel
theorem d3_96 : decode method_3_code 96 = .ok (.if_icmp .lt 12, 3) := by decide +kernel
theorem d3_99 : decode method_3_code 99 = .ok (.iload_n 0, 1) := by decide +kernel
theorem d3_100 : decode method_3_code 100 = .ok (.sipush 8203, 3) := by decide +kernel
theorem d3_103 : decode method_3_code 103 = .ok (.if_icmp .gt 5, 3) := by decide +kernel
theorem d3_106 : decode method_3_code 106 = .ok (.iconst 0, 1) := by decide +kernel
theorem d3_107 : decode method_3_code 107 = .ok (.ireturn, 1) := by decide +kernel
theorem d3_108 : decode method_3_code 108 = .ok (.iload_n 0, 1) := by decide +kernel
theorem d3_109 : decode method_3_code 109 = .ok (.sipush 8206, 3) := by decide +kernel
theorem d3_112 : decode method_3_code 112 = .ok (.if_icmp .lt 12, 3) := by decide +kernel
theorem d3_115 : decode method_3_code 115 = .ok (.iload_n 0, 1) := by decide +kernel
theorem d3_116 : decode method_3_code 116 = .ok (.sipush 8303, 3) := by decide +kernel
theorem d3_119 : decode method_3_code 119 = .ok (.if_icmp .gt 5, 3) := by decide +kernel
theorem d3_122 : decode method_3_code 122 = .ok (.iconst 0, 1) := by decide +kernel
theorem d3_123 : decode method_3_code 123 = .ok (.ireturn, 1) := by decide +kernel
theorem d3_124 : decode method_3_code 124 = .ok (.iload_n 0, 1) := by decide +kernel
theorem d3_125 : decode method_3_code 125 = .ok (.sipush 8592, 3) := by decide +kernel
theorem d3_128 : decode method_3_code 128 = .ok (.if_icmp .lt 12, 3) := by decide +kernel
theorem d3_131 : decode method_3_code 131 = .ok (.iload_n 0, 1) := by decide +kernel
theorem d3_132 : decode method_3_code 132 = .ok (.sipush 11263, 3) := by decide +kernel
theorem d3_135 : decode method_3_code 135 = .ok (.if_icmp .gt 5, 3) := by decide +kernel
theorem d3_138 : decode method_3_code 138 = .ok (.iconst 0, 1) := by decide +kernel
theorem d3_139 : decode method_3_code 139 = .ok (.ireturn, 1) := by decide +kernel
theorem d3_140 : decode method_3_code 140 = .ok (.iload_n 0, 1) := by decide +kernel
theorem d3_141 : decode method_3_code 141 = .ok (.sipush 12272, 3) := by decide +kernel
theorem d3_144 : decode method_3_code 144 = .ok (.if_icmp .lt 12, 3) := by decide +kernel
theorem d3_147 : decode method_3_code 147 = .ok (.iload_n 0, 1) := by decide +kernel
theorem d3_148 : decode method_3_code 148 = .ok (.sipush 12288, 3) := by decide +kernel
theorem d3_151 : decode method_3_code 151 = .ok (.if_icmp .gt 5, 3) := by decide +kernel
theorem d3_154 : decode method_3_code 154 = .ok (.iconst 0, 1) := by decide +kernel
theorem d3_155 : decode method_3_code 155 = .ok (.ireturn, 1) := by decide +kernel
theorem d3_156 : decode method_3_code 156 = .ok (.iload_n 0, 1) := by decide +kernel
theorem d3_157 : decode method_3_code 157 = .ok (.ldc 26, 2) := by decide +kernel
theorem d3_159 : decode method_3_code 159 = .ok (.if_icmp .lt 11, 3) := by decide +kernel
theorem d3_162 : decode method_3_code 162 = .ok (.iload_n 0, 1) := by decide +kernel
theorem d3_163 : decode method_3_code 163 = .ok (.ldc 27, 2) := by decide +kernel
theorem d3_165 : decode method_3_code 165 = .ok (.if_icmp .gt 5, 3) := by decide +kernel
theorem d3_168 : decode method_3_code 168 = .ok (.iconst 0, 1) := by decide +kernel
theorem d3_169 : decode method_3_code 169 = .ok (.ireturn, 1) := by decide +kernel
theorem d3_170 : decode method_3_code 170 = .ok (.iload_n 0, 1) := by decide +kernel
theorem d3_171 : decode method_3_code 171 = .ok (.ldc 28, 2) := by decide +kernel
theorem d3_173 : decode method_3_code 173 = .ok (.if_icmp .lt 11, 3) := by decide +kernel
theorem d3_176 : decode method_3_code 176 = .ok (.iload_n 0, 1) := by decide +kernel
theorem d3_177 : decode method_3_code 177 = .ok (.ldc 29, 2) := by decide +kernel
theorem d3_179 : decode method_3_code 179 = .ok (.if_icmp .gt 5, 3) := by decide +kernel
theorem d3_182 : decode method_3_code 182 = .ok (.iconst 0, 1) := by decide +kernel
theorem d3_183 : decode method_3_code 183 = .ok (.ireturn, 1) := by decide +kernel
theorem d3_184 : decode method_3_code 184 = .ok (.iload_n 0, 1) := by decide +kernel
theorem d3_185 : decode method_3_code 185 = .ok (.ldc 30, 2) := by decide +kernel
theorem d3_187 : decode method_3_code 187 = .ok (.if_icmp .lt 11, 3) := by decide +kernel
theorem d3_190 : decode method_3_code 190 = .ok (.iload_n 0, 1) := by decide +kernel
theorem d3_191 : decode method_3_code 191 = .ok (.ldc 31, 2) := by decide +kernel
theorem d3_193 : decode method_3_code 193 = .ok (.if_icmp .gt 5, 3) := by decide +kernel
theorem d3_196 : decode method_3_code 196 = .ok (.iconst 0, 1) := by decide +kernel
theorem d3_197 : decode method_3_code 197 = .ok (.ireturn, 1) := by decide +kernel
theorem d3_198 : decode method_3_code 198 = .ok (.iconst 1, 1) := by decide +kernel
theorem d3_199 : decode method_3_code 199 = .ok (.ireturn, 1) := by decide +kernel
theorem png : plainName "com/example/ragtable/ragtable/rdfio/TermTokensIsPnCharsUPinLaw" = true := by first | (simp [plainName, overriddenIn]; done) | decide +kernel
theorem efg (m : MethodId) (z0 : Int32) : entryFrame m #[(.int z0)] 1 = mkF m 0 #[.val (.int z0)] [] := by first | (simp [entryFrame, mkF, argsToLocals, Value.category]; done) | rfl
def Qg (Z : State) (x0 : Int32) (h0 : Heap) (n0 : Nat) (v : Option Value) (h : Heap) (L : List Loc) : Prop := v = some (.int (own_g x0)) ∧ Fr n0 L ∧ h = h0
set_option maxRecDepth 65536 in
set_option maxHeartbeats 40000000 in
theorem rmg (l : Launch) (Z : State) (a0 : Array Value) (hw : ∀ d ∈ tables_1, d.before a0 Z = true) (ws : List Jvm.Cond) (x0 : Int32) (h0 : Heap) (n0 : Nat) (Z0 : n0 ≤ h0.size) :
    MetFree l (⟨"com/example/ragtable/ragtable/rdfio/TermTokensIsPnCharsUPinLaw", "ref", "(I)Z"⟩ : MethodName) (head1 (Jvm.Cond.code (⟨"com/example/ragtable/ragtable/rdfio/TermTokensIsPnCharsUPinLaw", "ref", "(I)Z"⟩ : MethodName) method_3_code 1 (some .boolean) :: ws) ({ frames := 0, cells := 0, slots := 0, locals := 0 } : Room)) (fun a U => a = #[(.int x0)] ∧ Z.Warmed39 U.vm ∧ U.heap = h0) (fun _ _ _ _ _ => True) (fun _ U oc U' => ∃ v L, oc = .returned v ∧ Qg Z x0 h0 n0 v U'.heap L ∧ FrameEnd U oc U' L ({ frames := 0, cells := 0, slots := 0, locals := 0 } : Room).cells ({ frames := 0, cells := 0, slots := 0, locals := 0 } : Room).slots) := by
  refine MetFree.of_bodySF (plainFor_of_name png) hisR ?_
  intro p e s m args below meth c s₁ Bd hml0 hP hK
  obtain ⟨rfl, hZ, hh⟩ := hP
  have hx := Bd.exec
  have hby := Bd.bytes
  have hml : c.maxLocals = 1 := hml0
  have hown : s.vm.findClass "com/example/ragtable/ragtable/rdfio/TermTokensIsPnCharsUPinLaw" = some m.cls := findClass_of_methodNamed Bd.named
  have hnm := (name_of_methodNamed Bd.named Bd.method).1
  have X0 : Stand p l e ({ frames := 0, cells := 0, slots := 0, locals := 0 } : Room) s m #[(.int x0)] below meth c s₁ [] 0 0 := Stand.of_body Bd
  have e0 : s₁.heap = h0 := by rw [← hh, Bd.state]; rfl
  have N0 := Fr.nil n0
  show own_Go p e below (fun s₂ oc => ∃ v L, oc = .returned v ∧ Qg Z x0 h0 n0 v s₂.heap L ∧ FrameEnd s oc s₂ L ({ frames := 0, cells := 0, slots := 0, locals := 0 } : Room).cells ({ frames := 0, cells := 0, slots := 0, locals := 0 } : Room).slots) s₁ (entryFrame m #[(.int x0)] 1)
  have B184 : ∀ (TB : State) (Lc : List Loc) (XB : Stand p l e ({ frames := 0, cells := 0, slots := 0, locals := 0 } : Room) s m #[(.int x0)] below meth c TB Lc 0 0) (eB : TB.heap = h0) (NB : Fr n0 Lc) , own_g x0 = own_g_184 x0 → own_Go p e below (fun s₂ oc => ∃ v L, oc = .returned v ∧ Qg Z x0 h0 n0 v s₂.heap L ∧ FrameEnd s oc s₂ L ({ frames := 0, cells := 0, slots := 0, locals := 0 } : Room).cells ({ frames := 0, cells := 0, slots := 0, locals := 0 } : Room).slots) TB (mkF m 184 #[.val (.int x0)] []) := by
    intro TB Lc XB eB NB  hv
    refine og_iloadN (pc' := 185) XB hx (hb hby d3_184) rfl rfl ?_
    refine og_ldc (pc' := 187) XB hx (hb hby d3_185) hown (mvT hZ (hw _ (List.mem_of_getElem? (i := 25) rfl))) rfl ?_
    by_cases hc187_1 : x0 < (65534 : Int32)
    · have hv := hv.trans (if_pos hc187_1)
      refine og_icmpYes (pc' := 198) XB hx (hb hby d3_187) (tlt hc187_1).1 (by decide) (by decide) ?_
      refine og_iconst (pc' := 199) (n := 1) XB hx (hb hby d3_198) rfl rfl ?_
      obtain ⟨fs, hr, hrun, hended, hW, hsame⟩ := XB.leave (v := some (.int (1 : Int32))) (fun h => by rw [Bd.returns] at h; cases h) (BodyLoose.notSynchronized Bd)
      refine ⟨_, _, retN XB hx (t := .boolean) Bd.returns (by simp) (hb hby d3_199) hr, hrun, hended, some (.int (1 : Int32)), _, rfl, ?_, ⟨_, rfl⟩, hW, hsame.mono (by decide) (by decide)⟩
      show Qg Z x0 h0 n0 _ TB.heap _
      rw [eB]
      exact ⟨(congrArg (fun z => some (Value.int z)) hv.symm), NB, rfl⟩
    · have hv := hv.trans (if_neg hc187_1)
      refine og_icmpNo (pc' := 190) XB hx (hb hby d3_187) (flt hc187_1).1 rfl ?_
      refine og_iloadN (pc' := 191) XB hx (hb hby d3_190) rfl rfl ?_
      refine og_ldc (pc' := 193) XB hx (hb hby d3_191) hown (mvT hZ (hw _ (List.mem_of_getElem? (i := 32) rfl))) rfl ?_
      by_cases hc193_2 : (65535 : Int32) < x0
      · have hv := hv.trans (if_pos hc193_2)
        refine og_icmpYes (pc' := 198) XB hx (hb hby d3_193) (tlt hc193_2).2.2.1 (by decide) (by decide) ?_
        refine og_iconst (pc' := 199) (n := 1) XB hx (hb hby d3_198) rfl rfl ?_
        obtain ⟨fs, hr, hrun, hended, hW, hsame⟩ := XB.leave (v := some (.int (1 : Int32))) (fun h => by rw [Bd.returns] at h; cases h) (BodyLoose.notSynchronized Bd)
        refine ⟨_, _, retN XB hx (t := .boolean) Bd.returns (by simp) (hb hby d3_199) hr, hrun, hended, some (.int (1 : Int32)), _, rfl, ?_, ⟨_, rfl⟩, hW, hsame.mono (by decide) (by decide)⟩
        show Qg Z x0 h0 n0 _ TB.heap _
        rw [eB]
        exact ⟨(congrArg (fun z => some (Value.int z)) hv.symm), NB, rfl⟩
      · have hv := hv.trans (if_neg hc193_2)
        refine og_icmpNo (pc' := 196) XB hx (hb hby d3_193) (flt hc193_2).2.2.1 rfl ?_
        refine og_iconst (pc' := 197) (n := 0) XB hx (hb hby d3_196) rfl rfl ?_
        obtain ⟨fs, hr, hrun, hended, hW, hsame⟩ := XB.leave (v := some (.int (0 : Int32))) (fun h => by rw [Bd.returns] at h; cases h) (BodyLoose.notSynchronized Bd)
        refine ⟨_, _, retN XB hx (t := .boolean) Bd.returns (by simp) (hb hby d3_197) hr, hrun, hended, some (.int (0 : Int32)), _, rfl, ?_, ⟨_, rfl⟩, hW, hsame.mono (by decide) (by decide)⟩
        show Qg Z x0 h0 n0 _ TB.heap _
        rw [eB]
        exact ⟨(congrArg (fun z => some (Value.int z)) hv.symm), NB, rfl⟩
  have B170 : ∀ (TB : State) (Lc : List Loc) (XB : Stand p l e ({ frames := 0, cells := 0, slots := 0, locals := 0 } : Room) s m #[(.int x0)] below meth c TB Lc 0 0) (eB : TB.heap = h0) (NB : Fr n0 Lc) , own_g x0 = own_g_170 x0 → own_Go p e below (fun s₂ oc => ∃ v L, oc = .returned v ∧ Qg Z x0 h0 n0 v s₂.heap L ∧ FrameEnd s oc s₂ L ({ frames := 0, cells := 0, slots := 0, locals := 0 } : Room).cells ({ frames := 0, cells := 0, slots := 0, locals := 0 } : Room).slots) TB (mkF m 170 #[.val (.int x0)] []) := by
    intro TB Lc XB eB NB  hv
    refine og_iloadN (pc' := 171) XB hx (hb hby d3_170) rfl rfl ?_
    refine og_ldc (pc' := 173) XB hx (hb hby d3_171) hown (mvT hZ (hw _ (List.mem_of_getElem? (i := 24) rfl))) rfl ?_
    by_cases hc173_3 : x0 < (64976 : Int32)
    · have hv := hv.trans (if_pos hc173_3)
      refine og_icmpYes (pc' := 184) XB hx (hb hby d3_173) (tlt hc173_3).1 (by decide) (by decide) ?_
      exact B184 TB _ XB eB NB  hv
    · have hv := hv.trans (if_neg hc173_3)
      refine og_icmpNo (pc' := 176) XB hx (hb hby d3_173) (flt hc173_3).1 rfl ?_
      refine og_iloadN (pc' := 177) XB hx (hb hby d3_176) rfl rfl ?_
      refine og_ldc (pc' := 179) XB hx (hb hby d3_177) hown (mvT hZ (hw _ (List.mem_of_getElem? (i := 29) rfl))) rfl ?_
      by_cases hc179_4 : (65007 : Int32) < x0
      · have hv := hv.trans (if_pos hc179_4)
        refine og_icmpYes (pc' := 184) XB hx (hb hby d3_179) (tlt hc179_4).2.2.1 (by decide) (by decide) ?_
        exact B184 TB _ XB eB NB  hv
      · have hv := hv.trans (if_neg hc179_4)
        refine og_icmpNo (pc' := 182) XB hx (hb hby d3_179) (flt hc179_4).2.2.1 rfl ?_
        refine og_iconst (pc' := 183) (n := 0) XB hx (hb hby d3_182) rfl rfl ?_
        obtain ⟨fs, hr, hrun, hended, hW, hsame⟩ := XB.leave (v := some (.int (0 : Int32))) (fun h => by rw [Bd.returns] at h; cases h) (BodyLoose.notSynchronized Bd)
        refine ⟨_, _, retN XB hx (t := .boolean) Bd.returns (by simp) (hb hby d3_183) hr, hrun, hended, some (.int (0 : Int32)), _, rfl, ?_, ⟨_, rfl⟩, hW, hsame.mono (by decide) (by decide)⟩
        show Qg Z x0 h0 n0 _ TB.heap _
        rw [eB]
        exact ⟨(congrArg (fun z => some (Value.int z)) hv.symm), NB, rfl⟩
  have B156 : ∀ (TB : State) (Lc : List Loc) (XB : Stand p l e ({ frames := 0, cells := 0, slots := 0, locals := 0 } : Room) s m #[(.int x0)] below meth c TB Lc 0 0) (eB : TB.heap = h0) (NB : Fr n0 Lc) , own_g x0 = own_g_156 x0 → own_Go p e below (fun s₂ oc => ∃ v L, oc = .returned v ∧ Qg Z x0 h0 n0 v s₂.heap L ∧ FrameEnd s oc s₂ L ({ frames := 0, cells := 0, slots := 0, locals := 0 } : Room).cells ({ frames := 0, cells := 0, slots := 0, locals := 0 } : Room).slots) TB (mkF m 156 #[.val (.int x0)] []) := by
    intro TB Lc XB eB NB  hv
    refine og_iloadN (pc' := 157) XB hx (hb hby d3_156) rfl rfl ?_
    refine og_ldc (pc' := 159) XB hx (hb hby d3_157) hown (mvT hZ (hw _ (List.mem_of_getElem? (i := 23) rfl))) rfl ?_
    by_cases hc159_5 : x0 < (55296 : Int32)
    · have hv := hv.trans (if_pos hc159_5)
      refine og_icmpYes (pc' := 170) XB hx (hb hby d3_159) (tlt hc159_5).1 (by decide) (by decide) ?_
      exact B170 TB _ XB eB NB  hv
    · have hv := hv.trans (if_neg hc159_5)
      refine og_icmpNo (pc' := 162) XB hx (hb hby d3_159) (flt hc159_5).1 rfl ?_
      refine og_iloadN (pc' := 163) XB hx (hb hby d3_162) rfl rfl ?_
      refine og_ldc (pc' := 165) XB hx (hb hby d3_163) hown (mvT hZ (hw _ (List.mem_of_getElem? (i := 28) rfl))) rfl ?_
      by_cases hc165_6 : (63743 : Int32) < x0
      · have hv := hv.trans (if_pos hc165_6)
        refine og_icmpYes (pc' := 170) XB hx (hb hby d3_165) (tlt hc165_6).2.2.1 (by decide) (by decide) ?_
        exact B170 TB _ XB eB NB  hv
      · have hv := hv.trans (if_neg hc165_6)
        refine og_icmpNo (pc' := 168) XB hx (hb hby d3_165) (flt hc165_6).2.2.1 rfl ?_
        refine og_iconst (pc' := 169) (n := 0) XB hx (hb hby d3_168) rfl rfl ?_
        obtain ⟨fs, hr, hrun, hended, hW, hsame⟩ := XB.leave (v := some (.int (0 : Int32))) (fun h => by rw [Bd.returns] at h; cases h) (BodyLoose.notSynchronized Bd)
        refine ⟨_, _, retN XB hx (t := .boolean) Bd.returns (by simp) (hb hby d3_169) hr, hrun, hended, some (.int (0 : Int32)), _, rfl, ?_, ⟨_, rfl⟩, hW, hsame.mono (by decide) (by decide)⟩
        show Qg Z x0 h0 n0 _ TB.heap _
        rw [eB]
        exact ⟨(congrArg (fun z => some (Value.int z)) hv.symm), NB, rfl⟩
  have B140 : ∀ (TB : State) (Lc : List Loc) (XB : Stand p l e ({ frames := 0, cells := 0, slots := 0, locals := 0 } : Room) s m #[(.int x0)] below meth c TB Lc 0 0) (eB : TB.heap = h0) (NB : Fr n0 Lc) , own_g x0 = own_g_140 x0 → own_Go p e below (fun s₂ oc => ∃ v L, oc = .returned v ∧ Qg Z x0 h0 n0 v s₂.heap L ∧ FrameEnd s oc s₂ L ({ frames := 0, cells := 0, slots := 0, locals := 0 } : Room).cells ({ frames := 0, cells := 0, slots := 0, locals := 0 } : Room).slots) TB (mkF m 140 #[.val (.int x0)] []) := by
    intro TB Lc XB eB NB  hv
    refine og_iloadN (pc' := 141) XB hx (hb hby d3_140) rfl rfl ?_
    refine og_sipush (pc' := 144) (n := 12272) XB hx (hb hby d3_141) rfl rfl ?_
    by_cases hc144_7 : x0 < (12272 : Int32)
    · have hv := hv.trans (if_pos hc144_7)
      refine og_icmpYes (pc' := 156) XB hx (hb hby d3_144) (tlt hc144_7).1 (by decide) (by decide) ?_
      exact B156 TB _ XB eB NB  hv
    · have hv := hv.trans (if_neg hc144_7)
      refine og_icmpNo (pc' := 147) XB hx (hb hby d3_144) (flt hc144_7).1 rfl ?_
      refine og_iloadN (pc' := 148) XB hx (hb hby d3_147) rfl rfl ?_
      refine og_sipush (pc' := 151) (n := 12288) XB hx (hb hby d3_148) rfl rfl ?_
      by_cases hc151_8 : (12288 : Int32) < x0
      · have hv := hv.trans (if_pos hc151_8)
        refine og_icmpYes (pc' := 156) XB hx (hb hby d3_151) (tlt hc151_8).2.2.1 (by decide) (by decide) ?_
        exact B156 TB _ XB eB NB  hv
      · have hv := hv.trans (if_neg hc151_8)
        refine og_icmpNo (pc' := 154) XB hx (hb hby d3_151) (flt hc151_8).2.2.1 rfl ?_
        refine og_iconst (pc' := 155) (n := 0) XB hx (hb hby d3_154) rfl rfl ?_
        obtain ⟨fs, hr, hrun, hended, hW, hsame⟩ := XB.leave (v := some (.int (0 : Int32))) (fun h => by rw [Bd.returns] at h; cases h) (BodyLoose.notSynchronized Bd)
        refine ⟨_, _, retN XB hx (t := .boolean) Bd.returns (by simp) (hb hby d3_155) hr, hrun, hended, some (.int (0 : Int32)), _, rfl, ?_, ⟨_, rfl⟩, hW, hsame.mono (by decide) (by decide)⟩
        show Qg Z x0 h0 n0 _ TB.heap _
        rw [eB]
        exact ⟨(congrArg (fun z => some (Value.int z)) hv.symm), NB, rfl⟩
  have B124 : ∀ (TB : State) (Lc : List Loc) (XB : Stand p l e ({ frames := 0, cells := 0, slots := 0, locals := 0 } : Room) s m #[(.int x0)] below meth c TB Lc 0 0) (eB : TB.heap = h0) (NB : Fr n0 Lc) , own_g x0 = own_g_124 x0 → own_Go p e below (fun s₂ oc => ∃ v L, oc = .returned v ∧ Qg Z x0 h0 n0 v s₂.heap L ∧ FrameEnd s oc s₂ L ({ frames := 0, cells := 0, slots := 0, locals := 0 } : Room).cells ({ frames := 0, cells := 0, slots := 0, locals := 0 } : Room).slots) TB (mkF m 124 #[.val (.int x0)] []) := by
    intro TB Lc XB eB NB  hv
    refine og_iloadN (pc' := 125) XB hx (hb hby d3_124) rfl rfl ?_
    refine og_sipush (pc' := 128) (n := 8592) XB hx (hb hby d3_125) rfl rfl ?_
    by_cases hc128_9 : x0 < (8592 : Int32)
    · have hv := hv.trans (if_pos hc128_9)
      refine og_icmpYes (pc' := 140) XB hx (hb hby d3_128) (tlt hc128_9).1 (by decide) (by decide) ?_
      exact B140 TB _ XB eB NB  hv
    · have hv := hv.trans (if_neg hc128_9)
      refine og_icmpNo (pc' := 131) XB hx (hb hby d3_128) (flt hc128_9).1 rfl ?_
      refine og_iloadN (pc' := 132) XB hx (hb hby d3_131) rfl rfl ?_
      refine og_sipush (pc' := 135) (n := 11263) XB hx (hb hby d3_132) rfl rfl ?_
      by_cases hc135_10 : (11263 : Int32) < x0
      · have hv := hv.trans (if_pos hc135_10)
        refine og_icmpYes (pc' := 140) XB hx (hb hby d3_135) (tlt hc135_10).2.2.1 (by decide) (by decide) ?_
        exact B140 TB _ XB eB NB  hv
      · have hv := hv.trans (if_neg hc135_10)
        refine og_icmpNo (pc' := 138) XB hx (hb hby d3_135) (flt hc135_10).2.2.1 rfl ?_
        refine og_iconst (pc' := 139) (n := 0) XB hx (hb hby d3_138) rfl rfl ?_
        obtain ⟨fs, hr, hrun, hended, hW, hsame⟩ := XB.leave (v := some (.int (0 : Int32))) (fun h => by rw [Bd.returns] at h; cases h) (BodyLoose.notSynchronized Bd)
        refine ⟨_, _, retN XB hx (t := .boolean) Bd.returns (by simp) (hb hby d3_139) hr, hrun, hended, some (.int (0 : Int32)), _, rfl, ?_, ⟨_, rfl⟩, hW, hsame.mono (by decide) (by decide)⟩
        show Qg Z x0 h0 n0 _ TB.heap _
        rw [eB]
        exact ⟨(congrArg (fun z => some (Value.int z)) hv.symm), NB, rfl⟩
  have B108 : ∀ (TB : State) (Lc : List Loc) (XB : Stand p l e ({ frames := 0, cells := 0, slots := 0, locals := 0 } : Room) s m #[(.int x0)] below meth c TB Lc 0 0) (eB : TB.heap = h0) (NB : Fr n0 Lc) , own_g x0 = own_g_108 x0 → own_Go p e below (fun s₂ oc => ∃ v L, oc = .returned v ∧ Qg Z x0 h0 n0 v s₂.heap L ∧ FrameEnd s oc s₂ L ({ frames := 0, cells := 0, slots := 0, locals := 0 } : Room).cells ({ frames := 0, cells := 0, slots := 0, locals := 0 } : Room).slots) TB (mkF m 108 #[.val (.int x0)] []) := by
    intro TB Lc XB eB NB  hv
    refine og_iloadN (pc' := 109) XB hx (hb hby d3_108) rfl rfl ?_
    refine og_sipush (pc' := 112) (n := 8206) XB hx (hb hby d3_109) rfl rfl ?_
    by_cases hc112_11 : x0 < (8206 : Int32)
    · have hv := hv.trans (if_pos hc112_11)
      refine og_icmpYes (pc' := 124) XB hx (hb hby d3_112) (tlt hc112_11).1 (by decide) (by decide) ?_
      exact B124 TB _ XB eB NB  hv
    · have hv := hv.trans (if_neg hc112_11)
      refine og_icmpNo (pc' := 115) XB hx (hb hby d3_112) (flt hc112_11).1 rfl ?_
      refine og_iloadN (pc' := 116) XB hx (hb hby d3_115) rfl rfl ?_
      refine og_sipush (pc' := 119) (n := 8303) XB hx (hb hby d3_116) rfl rfl ?_
      by_cases hc119_12 : (8303 : Int32) < x0
      · have hv := hv.trans (if_pos hc119_12)
        refine og_icmpYes (pc' := 124) XB hx (hb hby d3_119) (tlt hc119_12).2.2.1 (by decide) (by decide) ?_
        exact B124 TB _ XB eB NB  hv
      · have hv := hv.trans (if_neg hc119_12)
        refine og_icmpNo (pc' := 122) XB hx (hb hby d3_119) (flt hc119_12).2.2.1 rfl ?_
        refine og_iconst (pc' := 123) (n := 0) XB hx (hb hby d3_122) rfl rfl ?_
        obtain ⟨fs, hr, hrun, hended, hW, hsame⟩ := XB.leave (v := some (.int (0 : Int32))) (fun h => by rw [Bd.returns] at h; cases h) (BodyLoose.notSynchronized Bd)
        refine ⟨_, _, retN XB hx (t := .boolean) Bd.returns (by simp) (hb hby d3_123) hr, hrun, hended, some (.int (0 : Int32)), _, rfl, ?_, ⟨_, rfl⟩, hW, hsame.mono (by decide) (by decide)⟩
        show Qg Z x0 h0 n0 _ TB.heap _
        rw [eB]
        exact ⟨(congrArg (fun z => some (Value.int z)) hv.symm), NB, rfl⟩
  have B83 : ∀ (TB : State) (Lc : List Loc) (XB : Stand p l e ({ frames := 0, cells := 0, slots := 0, locals := 0 } : Room) s m #[(.int x0)] below meth c TB Lc 0 0) (eB : TB.heap = h0) (NB : Fr n0 Lc) , own_g x0 = own_g_83 x0 → own_Go p e below (fun s₂ oc => ∃ v L, oc = .returned v ∧ Qg Z x0 h0 n0 v s₂.heap L ∧ FrameEnd s oc s₂ L ({ frames := 0, cells := 0, slots := 0, locals := 0 } : Room).cells ({ frames := 0, cells := 0, slots := 0, locals := 0 } : Room).slots) TB (mkF m 83 #[.val (.int x0)] []) := by
    intro TB Lc XB eB NB  hv
    refine og_iloadN (pc' := 84) XB hx (hb hby d3_83) rfl rfl ?_
    refine og_sipush (pc' := 87) (n := 894) XB hx (hb hby d3_84) rfl rfl ?_
    by_cases hc87_13 : x0 = (894 : Int32)
    · have hv := hv.trans (if_pos hc87_13)
      refine og_icmpNo (pc' := 90) XB hx (hb hby d3_87) (teq hc87_13).2 rfl ?_
      refine og_iconst (pc' := 91) (n := 0) XB hx (hb hby d3_90) rfl rfl ?_
      obtain ⟨fs, hr, hrun, hended, hW, hsame⟩ := XB.leave (v := some (.int (0 : Int32))) (fun h => by rw [Bd.returns] at h; cases h) (BodyLoose.notSynchronized Bd)
      refine ⟨_, _, retN XB hx (t := .boolean) Bd.returns (by simp) (hb hby d3_91) hr, hrun, hended, some (.int (0 : Int32)), _, rfl, ?_, ⟨_, rfl⟩, hW, hsame.mono (by decide) (by decide)⟩
      show Qg Z x0 h0 n0 _ TB.heap _
      rw [eB]
      exact ⟨(congrArg (fun z => some (Value.int z)) hv.symm), NB, rfl⟩
    · have hv := hv.trans (if_neg hc87_13)
      refine og_icmpYes (pc' := 92) XB hx (hb hby d3_87) (feq hc87_13).2 (by decide) (by decide) ?_
      refine og_iloadN (pc' := 93) XB hx (hb hby d3_92) rfl rfl ?_
      refine og_sipush (pc' := 96) (n := 8192) XB hx (hb hby d3_93) rfl rfl ?_
      by_cases hc96_14 : x0 < (8192 : Int32)
      · have hv := hv.trans (if_pos hc96_14)
        refine og_icmpYes (pc' := 108) XB hx (hb hby d3_96) (tlt hc96_14).1 (by decide) (by decide) ?_
        exact B108 TB _ XB eB NB  hv
      · have hv := hv.trans (if_neg hc96_14)
        refine og_icmpNo (pc' := 99) XB hx (hb hby d3_96) (flt hc96_14).1 rfl ?_
        refine og_iloadN (pc' := 100) XB hx (hb hby d3_99) rfl rfl ?_
        refine og_sipush (pc' := 103) (n := 8203) XB hx (hb hby d3_100) rfl rfl ?_
        by_cases hc103_15 : (8203 : Int32) < x0
        · have hv := hv.trans (if_pos hc103_15)
          refine og_icmpYes (pc' := 108) XB hx (hb hby d3_103) (tlt hc103_15).2.2.1 (by decide) (by decide) ?_
          exact B108 TB _ XB eB NB  hv
        · have hv := hv.trans (if_neg hc103_15)
          refine og_icmpNo (pc' := 106) XB hx (hb hby d3_103) (flt hc103_15).2.2.1 rfl ?_
          refine og_iconst (pc' := 107) (n := 0) XB hx (hb hby d3_106) rfl rfl ?_
          obtain ⟨fs, hr, hrun, hended, hW, hsame⟩ := XB.leave (v := some (.int (0 : Int32))) (fun h => by rw [Bd.returns] at h; cases h) (BodyLoose.notSynchronized Bd)
          refine ⟨_, _, retN XB hx (t := .boolean) Bd.returns (by simp) (hb hby d3_107) hr, hrun, hended, some (.int (0 : Int32)), _, rfl, ?_, ⟨_, rfl⟩, hW, hsame.mono (by decide) (by decide)⟩
          show Qg Z x0 h0 n0 _ TB.heap _
          rw [eB]
          exact ⟨(congrArg (fun z => some (Value.int z)) hv.symm), NB, rfl⟩
  have B51 : ∀ (TB : State) (Lc : List Loc) (XB : Stand p l e ({ frames := 0, cells := 0, slots := 0, locals := 0 } : Room) s m #[(.int x0)] below meth c TB Lc 0 0) (eB : TB.heap = h0) (NB : Fr n0 Lc) , own_g x0 = own_g_51 x0 → own_Go p e below (fun s₂ oc => ∃ v L, oc = .returned v ∧ Qg Z x0 h0 n0 v s₂.heap L ∧ FrameEnd s oc s₂ L ({ frames := 0, cells := 0, slots := 0, locals := 0 } : Room).cells ({ frames := 0, cells := 0, slots := 0, locals := 0 } : Room).slots) TB (mkF m 51 #[.val (.int x0)] []) := by
    intro TB Lc XB eB NB  hv
    refine og_iloadN (pc' := 52) XB hx (hb hby d3_51) rfl rfl ?_
    refine og_sipush (pc' := 55) (n := 215) XB hx (hb hby d3_52) rfl rfl ?_
    by_cases hc55_16 : x0 = (215 : Int32)
    · have hv := hv.trans (if_pos hc55_16)
      refine og_icmpYes (pc' := 65) XB hx (hb hby d3_55) (teq hc55_16).1 (by decide) (by decide) ?_
      refine og_iconst (pc' := 66) (n := 0) XB hx (hb hby d3_65) rfl rfl ?_
      obtain ⟨fs, hr, hrun, hended, hW, hsame⟩ := XB.leave (v := some (.int (0 : Int32))) (fun h => by rw [Bd.returns] at h; cases h) (BodyLoose.notSynchronized Bd)
      refine ⟨_, _, retN XB hx (t := .boolean) Bd.returns (by simp) (hb hby d3_66) hr, hrun, hended, some (.int (0 : Int32)), _, rfl, ?_, ⟨_, rfl⟩, hW, hsame.mono (by decide) (by decide)⟩
      show Qg Z x0 h0 n0 _ TB.heap _
      rw [eB]
      exact ⟨(congrArg (fun z => some (Value.int z)) hv.symm), NB, rfl⟩
    · have hv := hv.trans (if_neg hc55_16)
      refine og_icmpNo (pc' := 58) XB hx (hb hby d3_55) (feq hc55_16).1 rfl ?_
      refine og_iloadN (pc' := 59) XB hx (hb hby d3_58) rfl rfl ?_
      refine og_sipush (pc' := 62) (n := 247) XB hx (hb hby d3_59) rfl rfl ?_
      by_cases hc62_17 : x0 = (247 : Int32)
      · have hv := hv.trans (if_pos hc62_17)
        refine og_icmpNo (pc' := 65) XB hx (hb hby d3_62) (teq hc62_17).2 rfl ?_
        refine og_iconst (pc' := 66) (n := 0) XB hx (hb hby d3_65) rfl rfl ?_
        obtain ⟨fs, hr, hrun, hended, hW, hsame⟩ := XB.leave (v := some (.int (0 : Int32))) (fun h => by rw [Bd.returns] at h; cases h) (BodyLoose.notSynchronized Bd)
        refine ⟨_, _, retN XB hx (t := .boolean) Bd.returns (by simp) (hb hby d3_66) hr, hrun, hended, some (.int (0 : Int32)), _, rfl, ?_, ⟨_, rfl⟩, hW, hsame.mono (by decide) (by decide)⟩
        show Qg Z x0 h0 n0 _ TB.heap _
        rw [eB]
        exact ⟨(congrArg (fun z => some (Value.int z)) hv.symm), NB, rfl⟩
      · have hv := hv.trans (if_neg hc62_17)
        refine og_icmpYes (pc' := 67) XB hx (hb hby d3_62) (feq hc62_17).2 (by decide) (by decide) ?_
        refine og_iloadN (pc' := 68) XB hx (hb hby d3_67) rfl rfl ?_
        refine og_sipush (pc' := 71) (n := 768) XB hx (hb hby d3_68) rfl rfl ?_
        by_cases hc71_18 : x0 < (768 : Int32)
        · have hv := hv.trans (if_pos hc71_18)
          refine og_icmpYes (pc' := 83) XB hx (hb hby d3_71) (tlt hc71_18).1 (by decide) (by decide) ?_
          exact B83 TB _ XB eB NB  hv
        · have hv := hv.trans (if_neg hc71_18)
          refine og_icmpNo (pc' := 74) XB hx (hb hby d3_71) (flt hc71_18).1 rfl ?_
          refine og_iloadN (pc' := 75) XB hx (hb hby d3_74) rfl rfl ?_
          refine og_sipush (pc' := 78) (n := 879) XB hx (hb hby d3_75) rfl rfl ?_
          by_cases hc78_19 : (879 : Int32) < x0
          · have hv := hv.trans (if_pos hc78_19)
            refine og_icmpYes (pc' := 83) XB hx (hb hby d3_78) (tlt hc78_19).2.2.1 (by decide) (by decide) ?_
            exact B83 TB _ XB eB NB  hv
          · have hv := hv.trans (if_neg hc78_19)
            refine og_icmpNo (pc' := 81) XB hx (hb hby d3_78) (flt hc78_19).2.2.1 rfl ?_
            refine og_iconst (pc' := 82) (n := 0) XB hx (hb hby d3_81) rfl rfl ?_
            obtain ⟨fs, hr, hrun, hended, hW, hsame⟩ := XB.leave (v := some (.int (0 : Int32))) (fun h => by rw [Bd.returns] at h; cases h) (BodyLoose.notSynchronized Bd)
            refine ⟨_, _, retN XB hx (t := .boolean) Bd.returns (by simp) (hb hby d3_82) hr, hrun, hended, some (.int (0 : Int32)), _, rfl, ?_, ⟨_, rfl⟩, hW, hsame.mono (by decide) (by decide)⟩
            show Qg Z x0 h0 n0 _ TB.heap _
            rw [eB]
            exact ⟨(congrArg (fun z => some (Value.int z)) hv.symm), NB, rfl⟩
  have B28 : ∀ (TB : State) (Lc : List Loc) (XB : Stand p l e ({ frames := 0, cells := 0, slots := 0, locals := 0 } : Room) s m #[(.int x0)] below meth c TB Lc 0 0) (eB : TB.heap = h0) (NB : Fr n0 Lc) , own_g x0 = own_g_28 x0 → own_Go p e below (fun s₂ oc => ∃ v L, oc = .returned v ∧ Qg Z x0 h0 n0 v s₂.heap L ∧ FrameEnd s oc s₂ L ({ frames := 0, cells := 0, slots := 0, locals := 0 } : Room).cells ({ frames := 0, cells := 0, slots := 0, locals := 0 } : Room).slots) TB (mkF m 28 #[.val (.int x0)] []) := by
    intro TB Lc XB eB NB  hv
    refine og_iloadN (pc' := 29) XB hx (hb hby d3_28) rfl rfl ?_
    refine og_bipush (pc' := 31) (n := 96) XB hx (hb hby d3_29) rfl rfl ?_
    by_cases hc31_20 : x0 = (96 : Int32)
    · have hv := hv.trans (if_pos hc31_20)
      refine og_icmpNo (pc' := 34) XB hx (hb hby d3_31) (teq hc31_20).2 rfl ?_
      refine og_iconst (pc' := 35) (n := 0) XB hx (hb hby d3_34) rfl rfl ?_
      obtain ⟨fs, hr, hrun, hended, hW, hsame⟩ := XB.leave (v := some (.int (0 : Int32))) (fun h => by rw [Bd.returns] at h; cases h) (BodyLoose.notSynchronized Bd)
      refine ⟨_, _, retN XB hx (t := .boolean) Bd.returns (by simp) (hb hby d3_35) hr, hrun, hended, some (.int (0 : Int32)), _, rfl, ?_, ⟨_, rfl⟩, hW, hsame.mono (by decide) (by decide)⟩
      show Qg Z x0 h0 n0 _ TB.heap _
      rw [eB]
      exact ⟨(congrArg (fun z => some (Value.int z)) hv.symm), NB, rfl⟩
    · have hv := hv.trans (if_neg hc31_20)
      refine og_icmpYes (pc' := 36) XB hx (hb hby d3_31) (feq hc31_20).2 (by decide) (by decide) ?_
      refine og_iloadN (pc' := 37) XB hx (hb hby d3_36) rfl rfl ?_
      refine og_bipush (pc' := 39) (n := 123) XB hx (hb hby d3_37) rfl rfl ?_
      by_cases hc39_21 : x0 < (123 : Int32)
      · have hv := hv.trans (if_pos hc39_21)
        refine og_icmpYes (pc' := 51) XB hx (hb hby d3_39) (tlt hc39_21).1 (by decide) (by decide) ?_
        exact B51 TB _ XB eB NB  hv
      · have hv := hv.trans (if_neg hc39_21)
        refine og_icmpNo (pc' := 42) XB hx (hb hby d3_39) (flt hc39_21).1 rfl ?_
        refine og_iloadN (pc' := 43) XB hx (hb hby d3_42) rfl rfl ?_
        refine og_sipush (pc' := 46) (n := 191) XB hx (hb hby d3_43) rfl rfl ?_
        by_cases hc46_22 : (191 : Int32) < x0
        · have hv := hv.trans (if_pos hc46_22)
          refine og_icmpYes (pc' := 51) XB hx (hb hby d3_46) (tlt hc46_22).2.2.1 (by decide) (by decide) ?_
          exact B51 TB _ XB eB NB  hv
        · have hv := hv.trans (if_neg hc46_22)
          refine og_icmpNo (pc' := 49) XB hx (hb hby d3_46) (flt hc46_22).2.2.1 rfl ?_
          refine og_iconst (pc' := 50) (n := 0) XB hx (hb hby d3_49) rfl rfl ?_
          obtain ⟨fs, hr, hrun, hended, hW, hsame⟩ := XB.leave (v := some (.int (0 : Int32))) (fun h => by rw [Bd.returns] at h; cases h) (BodyLoose.notSynchronized Bd)
          refine ⟨_, _, retN XB hx (t := .boolean) Bd.returns (by simp) (hb hby d3_50) hr, hrun, hended, some (.int (0 : Int32)), _, rfl, ?_, ⟨_, rfl⟩, hW, hsame.mono (by decide) (by decide)⟩
          show Qg Z x0 h0 n0 _ TB.heap _
          rw [eB]
          exact ⟨(congrArg (fun z => some (Value.int z)) hv.symm), NB, rfl⟩
  refine own_Go.of (g' := mkF m 0 #[.val (.int x0)] []) (fun t k => castTop (efg m x0) k) ?_
  have hv : own_g x0 = own_g x0 := rfl
  refine og_iloadN (pc' := 1) X0 hx (hb hby d3_0) rfl rfl ?_
  refine og_bipush (pc' := 3) (n := 65) X0 hx (hb hby d3_1) rfl rfl ?_
  by_cases hc3_23 : x0 < (65 : Int32)
  · have hv := hv.trans (if_pos hc3_23)
    refine og_icmpYes (pc' := 12) X0 hx (hb hby d3_3) (tlt hc3_23).1 (by decide) (by decide) ?_
    refine og_iconst (pc' := 13) (n := 0) X0 hx (hb hby d3_12) rfl rfl ?_
    obtain ⟨fs, hr, hrun, hended, hW, hsame⟩ := X0.leave (v := some (.int (0 : Int32))) (fun h => by rw [Bd.returns] at h; cases h) (BodyLoose.notSynchronized Bd)
    refine ⟨_, _, retN X0 hx (t := .boolean) Bd.returns (by simp) (hb hby d3_13) hr, hrun, hended, some (.int (0 : Int32)), _, rfl, ?_, ⟨_, rfl⟩, hW, hsame.mono (by decide) (by decide)⟩
    show Qg Z x0 h0 n0 _ s₁.heap _
    rw [e0]
    exact ⟨(congrArg (fun z => some (Value.int z)) hv.symm), N0, rfl⟩
  · have hv := hv.trans (if_neg hc3_23)
    refine og_icmpNo (pc' := 6) X0 hx (hb hby d3_3) (flt hc3_23).1 rfl ?_
    refine og_iloadN (pc' := 7) X0 hx (hb hby d3_6) rfl rfl ?_
    refine og_ldc (pc' := 9) X0 hx (hb hby d3_7) hown (mvT hZ (hw _ (List.mem_of_getElem? (i := 7) rfl))) rfl ?_
    by_cases hc9_24 : (983039 : Int32) < x0
    · have hv := hv.trans (if_pos hc9_24)
      refine og_icmpNo (pc' := 12) X0 hx (hb hby d3_9) (tlt hc9_24).2.2.2 rfl ?_
      refine og_iconst (pc' := 13) (n := 0) X0 hx (hb hby d3_12) rfl rfl ?_
      obtain ⟨fs, hr, hrun, hended, hW, hsame⟩ := X0.leave (v := some (.int (0 : Int32))) (fun h => by rw [Bd.returns] at h; cases h) (BodyLoose.notSynchronized Bd)
      refine ⟨_, _, retN X0 hx (t := .boolean) Bd.returns (by simp) (hb hby d3_13) hr, hrun, hended, some (.int (0 : Int32)), _, rfl, ?_, ⟨_, rfl⟩, hW, hsame.mono (by decide) (by decide)⟩
      show Qg Z x0 h0 n0 _ s₁.heap _
      rw [e0]
      exact ⟨(congrArg (fun z => some (Value.int z)) hv.symm), N0, rfl⟩
    · have hv := hv.trans (if_neg hc9_24)
      refine og_icmpYes (pc' := 14) X0 hx (hb hby d3_9) (flt hc9_24).2.2.2 (by decide) (by decide) ?_
      refine og_iloadN (pc' := 15) X0 hx (hb hby d3_14) rfl rfl ?_
      refine og_bipush (pc' := 17) (n := 91) X0 hx (hb hby d3_15) rfl rfl ?_
      by_cases hc17_25 : x0 < (91 : Int32)
      · have hv := hv.trans (if_pos hc17_25)
        refine og_icmpYes (pc' := 28) X0 hx (hb hby d3_17) (tlt hc17_25).1 (by decide) (by decide) ?_
        exact B28 s₁ _ X0 e0 N0  hv
      · have hv := hv.trans (if_neg hc17_25)
        refine og_icmpNo (pc' := 20) X0 hx (hb hby d3_17) (flt hc17_25).1 rfl ?_
        refine og_iloadN (pc' := 21) X0 hx (hb hby d3_20) rfl rfl ?_
        refine og_bipush (pc' := 23) (n := 94) X0 hx (hb hby d3_21) rfl rfl ?_
        by_cases hc23_26 : (94 : Int32) < x0
        · have hv := hv.trans (if_pos hc23_26)
          refine og_icmpYes (pc' := 28) X0 hx (hb hby d3_23) (tlt hc23_26).2.2.1 (by decide) (by decide) ?_
          exact B28 s₁ _ X0 e0 N0  hv
        · have hv := hv.trans (if_neg hc23_26)
          refine og_icmpNo (pc' := 26) X0 hx (hb hby d3_23) (flt hc23_26).2.2.1 rfl ?_
          refine og_iconst (pc' := 27) (n := 0) X0 hx (hb hby d3_26) rfl rfl ?_
          obtain ⟨fs, hr, hrun, hended, hW, hsame⟩ := X0.leave (v := some (.int (0 : Int32))) (fun h => by rw [Bd.returns] at h; cases h) (BodyLoose.notSynchronized Bd)
          refine ⟨_, _, retN X0 hx (t := .boolean) Bd.returns (by simp) (hb hby d3_27) hr, hrun, hended, some (.int (0 : Int32)), _, rfl, ?_, ⟨_, rfl⟩, hW, hsame.mono (by decide) (by decide)⟩
          show Qg Z x0 h0 n0 _ s₁.heap _
          rw [e0]
          exact ⟨(congrArg (fun z => some (Value.int z)) hv.symm), N0, rfl⟩

theorem own_T1 {x : Int32} (n : Nat) (h : x.toInt < (n : Int)) (hn : n < 2147483648 := by decide) : x < Int32.ofNat n := by rw [Int32.lt_iff_toInt_lt, Int32.toInt_ofNat_small (by omega)]; exact h
theorem own_F1 {x : Int32} (n : Nat) (h : (n : Int) ≤ x.toInt) (hn : n < 2147483648 := by decide) : ¬ x < Int32.ofNat n := by rw [Int32.lt_iff_toInt_lt, Int32.toInt_ofNat_small (by omega)]; omega
theorem own_T2 {x : Int32} (n : Nat) (h : (n : Int) < x.toInt) (hn : n < 2147483648 := by decide) : Int32.ofNat n < x := by rw [Int32.lt_iff_toInt_lt, Int32.toInt_ofNat_small (by omega)]; exact h
theorem own_F2 {x : Int32} (n : Nat) (h : x.toInt ≤ (n : Int)) (hn : n < 2147483648 := by decide) : ¬ Int32.ofNat n < x := by rw [Int32.lt_iff_toInt_lt, Int32.toInt_ofNat_small (by omega)]; omega
theorem own_T3 {x : Int32} (n : Nat) (h : x.toInt = (n : Int)) (hn : n < 2147483648 := by decide) : x = Int32.ofNat n := by rw [← Int32.toInt_inj, Int32.toInt_ofNat_small (by omega)]; exact h
theorem own_F3 {x : Int32} (n : Nat) (h : x.toInt ≠ (n : Int)) (hn : n < 2147483648 := by decide) : ¬ x = Int32.ofNat n := by rw [← Int32.toInt_inj, Int32.toInt_ofNat_small (by omega)]; exact h
theorem own_v_0 (x : Int32) (h1 : (-2147483648 : Int) ≤ x.toInt) (h2 : x.toInt ≤ (64 : Int)) : own_u x = 0 ∧ own_g x = 0 := ⟨(if_neg (own_F3 95 (by omega))).trans ((if_pos (show own_f x = 0 from (if_pos (own_T1 65 (by omega))).trans ((if_pos (own_T1 97 (by omega))).trans ((if_pos (own_T1 192 (by omega))).trans ((if_pos (own_T1 216 (by omega))).trans ((if_pos (own_T1 248 (by omega))).trans ((if_pos (own_T1 880 (by omega))).trans ((if_pos (own_T1 895 (by omega))).trans ((if_pos (own_T1 8204 (by omega))).trans ((if_pos (own_T1 8304 (by omega))).trans ((if_pos (own_T1 11264 (by omega))).trans ((if_pos (own_T1 12289 (by omega))).trans ((if_pos (own_T1 63744 (by omega))).trans ((if_pos (own_T1 65008 (by omega))).trans ((if_pos (own_T1 65536 (by omega))).trans rfl))))))))))))))).trans rfl), (if_pos (own_T1 65 (by omega))).trans rfl⟩
theorem own_v_1 (x : Int32) (h1 : (65 : Int) ≤ x.toInt) (h2 : x.toInt ≤ (90 : Int)) : own_u x = 1 ∧ own_g x = 1 := ⟨(if_neg (own_F3 95 (by omega))).trans ((if_neg (fun q => absurd ((show own_f x = 1 from (if_neg (own_F1 65 (by omega))).trans ((if_neg (own_F2 90 (by omega))).trans rfl)).symm.trans q) (by decide))).trans rfl), (if_neg (own_F1 65 (by omega))).trans ((if_neg (own_F2 983039 (by omega))).trans ((if_pos (own_T1 91 (by omega))).trans ((if_neg (own_F3 96 (by omega))).trans ((if_pos (own_T1 123 (by omega))).trans ((if_neg (own_F3 215 (by omega))).trans ((if_neg (own_F3 247 (by omega))).trans ((if_pos (own_T1 768 (by omega))).trans ((if_neg (own_F3 894 (by omega))).trans ((if_pos (own_T1 8192 (by omega))).trans ((if_pos (own_T1 8206 (by omega))).trans ((if_pos (own_T1 8592 (by omega))).trans ((if_pos (own_T1 12272 (by omega))).trans ((if_pos (own_T1 55296 (by omega))).trans ((if_pos (own_T1 64976 (by omega))).trans ((if_pos (own_T1 65534 (by omega))).trans rfl)))))))))))))))⟩
theorem own_v_2 (x : Int32) (h1 : (91 : Int) ≤ x.toInt) (h2 : x.toInt ≤ (94 : Int)) : own_u x = 0 ∧ own_g x = 0 := ⟨(if_neg (own_F3 95 (by omega))).trans ((if_pos (show own_f x = 0 from (if_neg (own_F1 65 (by omega))).trans ((if_pos (own_T2 90 (by omega))).trans ((if_pos (own_T1 97 (by omega))).trans ((if_pos (own_T1 192 (by omega))).trans ((if_pos (own_T1 216 (by omega))).trans ((if_pos (own_T1 248 (by omega))).trans ((if_pos (own_T1 880 (by omega))).trans ((if_pos (own_T1 895 (by omega))).trans ((if_pos (own_T1 8204 (by omega))).trans ((if_pos (own_T1 8304 (by omega))).trans ((if_pos (own_T1 11264 (by omega))).trans ((if_pos (own_T1 12289 (by omega))).trans ((if_pos (own_T1 63744 (by omega))).trans ((if_pos (own_T1 65008 (by omega))).trans ((if_pos (own_T1 65536 (by omega))).trans rfl)))))))))))))))).trans rfl), (if_neg (own_F1 65 (by omega))).trans ((if_neg (own_F2 983039 (by omega))).trans ((if_neg (own_F1 91 (by omega))).trans ((if_neg (own_F2 94 (by omega))).trans rfl)))⟩
theorem own_v_3 (x : Int32) (h1 : (95 : Int) ≤ x.toInt) (h2 : x.toInt ≤ (95 : Int)) : own_u x = 1 ∧ own_g x = 1 := ⟨(if_pos (own_T3 95 (by omega))).trans rfl, (if_neg (own_F1 65 (by omega))).trans ((if_neg (own_F2 983039 (by omega))).trans ((if_neg (own_F1 91 (by omega))).trans ((if_pos (own_T2 94 (by omega))).trans ((if_neg (own_F3 96 (by omega))).trans ((if_pos (own_T1 123 (by omega))).trans ((if_neg (own_F3 215 (by omega))).trans ((if_neg (own_F3 247 (by omega))).trans ((if_pos (own_T1 768 (by omega))).trans ((if_neg (own_F3 894 (by omega))).trans ((if_pos (own_T1 8192 (by omega))).trans ((if_pos (own_T1 8206 (by omega))).trans ((if_pos (own_T1 8592 (by omega))).trans ((if_pos (own_T1 12272 (by omega))).trans ((if_pos (own_T1 55296 (by omega))).trans ((if_pos (own_T1 64976 (by omega))).trans ((if_pos (own_T1 65534 (by omega))).trans rfl))))))))))))))))⟩
theorem own_v_4 (x : Int32) (h1 : (96 : Int) ≤ x.toInt) (h2 : x.toInt ≤ (96 : Int)) : own_u x = 0 ∧ own_g x = 0 := ⟨(if_neg (own_F3 95 (by omega))).trans ((if_pos (show own_f x = 0 from (if_neg (own_F1 65 (by omega))).trans ((if_pos (own_T2 90 (by omega))).trans ((if_pos (own_T1 97 (by omega))).trans ((if_pos (own_T1 192 (by omega))).trans ((if_pos (own_T1 216 (by omega))).trans ((if_pos (own_T1 248 (by omega))).trans ((if_pos (own_T1 880 (by omega))).trans ((if_pos (own_T1 895 (by omega))).trans ((if_pos (own_T1 8204 (by omega))).trans ((if_pos (own_T1 8304 (by omega))).trans ((if_pos (own_T1 11264 (by omega))).trans ((if_pos (own_T1 12289 (by omega))).trans ((if_pos (own_T1 63744 (by omega))).trans ((if_pos (own_T1 65008 (by omega))).trans ((if_pos (own_T1 65536 (by omega))).trans rfl)))))))))))))))).trans rfl), (if_neg (own_F1 65 (by omega))).trans ((if_neg (own_F2 983039 (by omega))).trans ((if_neg (own_F1 91 (by omega))).trans ((if_pos (own_T2 94 (by omega))).trans ((if_pos (own_T3 96 (by omega))).trans rfl))))⟩
theorem own_v_5 (x : Int32) (h1 : (97 : Int) ≤ x.toInt) (h2 : x.toInt ≤ (122 : Int)) : own_u x = 1 ∧ own_g x = 1 := ⟨(if_neg (own_F3 95 (by omega))).trans ((if_neg (fun q => absurd ((show own_f x = 1 from (if_neg (own_F1 65 (by omega))).trans ((if_pos (own_T2 90 (by omega))).trans ((if_neg (own_F1 97 (by omega))).trans ((if_neg (own_F2 122 (by omega))).trans rfl)))).symm.trans q) (by decide))).trans rfl), (if_neg (own_F1 65 (by omega))).trans ((if_neg (own_F2 983039 (by omega))).trans ((if_neg (own_F1 91 (by omega))).trans ((if_pos (own_T2 94 (by omega))).trans ((if_neg (own_F3 96 (by omega))).trans ((if_pos (own_T1 123 (by omega))).trans ((if_neg (own_F3 215 (by omega))).trans ((if_neg (own_F3 247 (by omega))).trans ((if_pos (own_T1 768 (by omega))).trans ((if_neg (own_F3 894 (by omega))).trans ((if_pos (own_T1 8192 (by omega))).trans ((if_pos (own_T1 8206 (by omega))).trans ((if_pos (own_T1 8592 (by omega))).trans ((if_pos (own_T1 12272 (by omega))).trans ((if_pos (own_T1 55296 (by omega))).trans ((if_pos (own_T1 64976 (by omega))).trans ((if_pos (own_T1 65534 (by omega))).trans rfl))))))))))))))))⟩
theorem own_v_6 (x : Int32) (h1 : (123 : Int) ≤ x.toInt) (h2 : x.toInt ≤ (191 : Int)) : own_u x = 0 ∧ own_g x = 0 := ⟨(if_neg (own_F3 95 (by omega))).trans ((if_pos (show own_f x = 0 from (if_neg (own_F1 65 (by omega))).trans ((if_pos (own_T2 90 (by omega))).trans ((if_neg (own_F1 97 (by omega))).trans ((if_pos (own_T2 122 (by omega))).trans ((if_pos (own_T1 192 (by omega))).trans ((if_pos (own_T1 216 (by omega))).trans ((if_pos (own_T1 248 (by omega))).trans ((if_pos (own_T1 880 (by omega))).trans ((if_pos (own_T1 895 (by omega))).trans ((if_pos (own_T1 8204 (by omega))).trans ((if_pos (own_T1 8304 (by omega))).trans ((if_pos (own_T1 11264 (by omega))).trans ((if_pos (own_T1 12289 (by omega))).trans ((if_pos (own_T1 63744 (by omega))).trans ((if_pos (own_T1 65008 (by omega))).trans ((if_pos (own_T1 65536 (by omega))).trans rfl))))))))))))))))).trans rfl), (if_neg (own_F1 65 (by omega))).trans ((if_neg (own_F2 983039 (by omega))).trans ((if_neg (own_F1 91 (by omega))).trans ((if_pos (own_T2 94 (by omega))).trans ((if_neg (own_F3 96 (by omega))).trans ((if_neg (own_F1 123 (by omega))).trans ((if_neg (own_F2 191 (by omega))).trans rfl))))))⟩
theorem own_v_7 (x : Int32) (h1 : (192 : Int) ≤ x.toInt) (h2 : x.toInt ≤ (214 : Int)) : own_u x = 1 ∧ own_g x = 1 := ⟨(if_neg (own_F3 95 (by omega))).trans ((if_neg (fun q => absurd ((show own_f x = 1 from (if_neg (own_F1 65 (by omega))).trans ((if_pos (own_T2 90 (by omega))).trans ((if_neg (own_F1 97 (by omega))).trans ((if_pos (own_T2 122 (by omega))).trans ((if_neg (own_F1 192 (by omega))).trans ((if_neg (own_F2 214 (by omega))).trans rfl)))))).symm.trans q) (by decide))).trans rfl), (if_neg (own_F1 65 (by omega))).trans ((if_neg (own_F2 983039 (by omega))).trans ((if_neg (own_F1 91 (by omega))).trans ((if_pos (own_T2 94 (by omega))).trans ((if_neg (own_F3 96 (by omega))).trans ((if_neg (own_F1 123 (by omega))).trans ((if_pos (own_T2 191 (by omega))).trans ((if_neg (own_F3 215 (by omega))).trans ((if_neg (own_F3 247 (by omega))).trans ((if_pos (own_T1 768 (by omega))).trans ((if_neg (own_F3 894 (by omega))).trans ((if_pos (own_T1 8192 (by omega))).trans ((if_pos (own_T1 8206 (by omega))).trans ((if_pos (own_T1 8592 (by omega))).trans ((if_pos (own_T1 12272 (by omega))).trans ((if_pos (own_T1 55296 (by omega))).trans ((if_pos (own_T1 64976 (by omega))).trans ((if_pos (own_T1 65534 (by omega))).trans rfl)))))))))))))))))⟩
theorem own_v_8 (x : Int32) (h1 : (215 : Int) ≤ x.toInt) (h2 : x.toInt ≤ (215 : Int)) : own_u x = 0 ∧ own_g x = 0 := ⟨(if_neg (own_F3 95 (by omega))).trans ((if_pos (show own_f x = 0 from (if_neg (own_F1 65 (by omega))).trans ((if_pos (own_T2 90 (by omega))).trans ((if_neg (own_F1 97 (by omega))).trans ((if_pos (own_T2 122 (by omega))).trans ((if_neg (own_F1 192 (by omega))).trans ((if_pos (own_T2 214 (by omega))).trans ((if_pos (own_T1 216 (by omega))).trans ((if_pos (own_T1 248 (by omega))).trans ((if_pos (own_T1 880 (by omega))).trans ((if_pos (own_T1 895 (by omega))).trans ((if_pos (own_T1 8204 (by omega))).trans ((if_pos (own_T1 8304 (by omega))).trans ((if_pos (own_T1 11264 (by omega))).trans ((if_pos (own_T1 12289 (by omega))).trans ((if_pos (own_T1 63744 (by omega))).trans ((if_pos (own_T1 65008 (by omega))).trans ((if_pos (own_T1 65536 (by omega))).trans rfl)))))))))))))))))).trans rfl), (if_neg (own_F1 65 (by omega))).trans ((if_neg (own_F2 983039 (by omega))).trans ((if_neg (own_F1 91 (by omega))).trans ((if_pos (own_T2 94 (by omega))).trans ((if_neg (own_F3 96 (by omega))).trans ((if_neg (own_F1 123 (by omega))).trans ((if_pos (own_T2 191 (by omega))).trans ((if_pos (own_T3 215 (by omega))).trans rfl)))))))⟩
theorem own_v_9 (x : Int32) (h1 : (216 : Int) ≤ x.toInt) (h2 : x.toInt ≤ (246 : Int)) : own_u x = 1 ∧ own_g x = 1 := ⟨(if_neg (own_F3 95 (by omega))).trans ((if_neg (fun q => absurd ((show own_f x = 1 from (if_neg (own_F1 65 (by omega))).trans ((if_pos (own_T2 90 (by omega))).trans ((if_neg (own_F1 97 (by omega))).trans ((if_pos (own_T2 122 (by omega))).trans ((if_neg (own_F1 192 (by omega))).trans ((if_pos (own_T2 214 (by omega))).trans ((if_neg (own_F1 216 (by omega))).trans ((if_neg (own_F2 246 (by omega))).trans rfl)))))))).symm.trans q) (by decide))).trans rfl), (if_neg (own_F1 65 (by omega))).trans ((if_neg (own_F2 983039 (by omega))).trans ((if_neg (own_F1 91 (by omega))).trans ((if_pos (own_T2 94 (by omega))).trans ((if_neg (own_F3 96 (by omega))).trans ((if_neg (own_F1 123 (by omega))).trans ((if_pos (own_T2 191 (by omega))).trans ((if_neg (own_F3 215 (by omega))).trans ((if_neg (own_F3 247 (by omega))).trans ((if_pos (own_T1 768 (by omega))).trans ((if_neg (own_F3 894 (by omega))).trans ((if_pos (own_T1 8192 (by omega))).trans ((if_pos (own_T1 8206 (by omega))).trans ((if_pos (own_T1 8592 (by omega))).trans ((if_pos (own_T1 12272 (by omega))).trans ((if_pos (own_T1 55296 (by omega))).trans ((if_pos (own_T1 64976 (by omega))).trans ((if_pos (own_T1 65534 (by omega))).trans rfl)))))))))))))))))⟩
theorem own_v_10 (x : Int32) (h1 : (247 : Int) ≤ x.toInt) (h2 : x.toInt ≤ (247 : Int)) : own_u x = 0 ∧ own_g x = 0 := ⟨(if_neg (own_F3 95 (by omega))).trans ((if_pos (show own_f x = 0 from (if_neg (own_F1 65 (by omega))).trans ((if_pos (own_T2 90 (by omega))).trans ((if_neg (own_F1 97 (by omega))).trans ((if_pos (own_T2 122 (by omega))).trans ((if_neg (own_F1 192 (by omega))).trans ((if_pos (own_T2 214 (by omega))).trans ((if_neg (own_F1 216 (by omega))).trans ((if_pos (own_T2 246 (by omega))).trans ((if_pos (own_T1 248 (by omega))).trans ((if_pos (own_T1 880 (by omega))).trans ((if_pos (own_T1 895 (by omega))).trans ((if_pos (own_T1 8204 (by omega))).trans ((if_pos (own_T1 8304 (by omega))).trans ((if_pos (own_T1 11264 (by omega))).trans ((if_pos (own_T1 12289 (by omega))).trans ((if_pos (own_T1 63744 (by omega))).trans ((if_pos (own_T1 65008 (by omega))).trans ((if_pos (own_T1 65536 (by omega))).trans rfl))))))))))))))))))).trans rfl), (if_neg (own_F1 65 (by omega))).trans ((if_neg (own_F2 983039 (by omega))).trans ((if_neg (own_F1 91 (by omega))).trans ((if_pos (own_T2 94 (by omega))).trans ((if_neg (own_F3 96 (by omega))).trans ((if_neg (own_F1 123 (by omega))).trans ((if_pos (own_T2 191 (by omega))).trans ((if_neg (own_F3 215 (by omega))).trans ((if_pos (own_T3 247 (by omega))).trans rfl))))))))⟩
theorem own_v_11 (x : Int32) (h1 : (248 : Int) ≤ x.toInt) (h2 : x.toInt ≤ (767 : Int)) : own_u x = 1 ∧ own_g x = 1 := ⟨(if_neg (own_F3 95 (by omega))).trans ((if_neg (fun q => absurd ((show own_f x = 1 from (if_neg (own_F1 65 (by omega))).trans ((if_pos (own_T2 90 (by omega))).trans ((if_neg (own_F1 97 (by omega))).trans ((if_pos (own_T2 122 (by omega))).trans ((if_neg (own_F1 192 (by omega))).trans ((if_pos (own_T2 214 (by omega))).trans ((if_neg (own_F1 216 (by omega))).trans ((if_pos (own_T2 246 (by omega))).trans ((if_neg (own_F1 248 (by omega))).trans ((if_neg (own_F2 767 (by omega))).trans rfl)))))))))).symm.trans q) (by decide))).trans rfl), (if_neg (own_F1 65 (by omega))).trans ((if_neg (own_F2 983039 (by omega))).trans ((if_neg (own_F1 91 (by omega))).trans ((if_pos (own_T2 94 (by omega))).trans ((if_neg (own_F3 96 (by omega))).trans ((if_neg (own_F1 123 (by omega))).trans ((if_pos (own_T2 191 (by omega))).trans ((if_neg (own_F3 215 (by omega))).trans ((if_neg (own_F3 247 (by omega))).trans ((if_pos (own_T1 768 (by omega))).trans ((if_neg (own_F3 894 (by omega))).trans ((if_pos (own_T1 8192 (by omega))).trans ((if_pos (own_T1 8206 (by omega))).trans ((if_pos (own_T1 8592 (by omega))).trans ((if_pos (own_T1 12272 (by omega))).trans ((if_pos (own_T1 55296 (by omega))).trans ((if_pos (own_T1 64976 (by omega))).trans ((if_pos (own_T1 65534 (by omega))).trans rfl)))))))))))))))))⟩
theorem own_v_12 (x : Int32) (h1 : (768 : Int) ≤ x.toInt) (h2 : x.toInt ≤ (879 : Int)) : own_u x = 0 ∧ own_g x = 0 := ⟨(if_neg (own_F3 95 (by omega))).trans ((if_pos (show own_f x = 0 from (if_neg (own_F1 65 (by omega))).trans ((if_pos (own_T2 90 (by omega))).trans ((if_neg (own_F1 97 (by omega))).trans ((if_pos (own_T2 122 (by omega))).trans ((if_neg (own_F1 192 (by omega))).trans ((if_pos (own_T2 214 (by omega))).trans ((if_neg (own_F1 216 (by omega))).trans ((if_pos (own_T2 246 (by omega))).trans ((if_neg (own_F1 248 (by omega))).trans ((if_pos (own_T2 767 (by omega))).trans ((if_pos (own_T1 880 (by omega))).trans ((if_pos (own_T1 895 (by omega))).trans ((if_pos (own_T1 8204 (by omega))).trans ((if_pos (own_T1 8304 (by omega))).trans ((if_pos (own_T1 11264 (by omega))).trans ((if_pos (own_T1 12289 (by omega))).trans ((if_pos (own_T1 63744 (by omega))).trans ((if_pos (own_T1 65008 (by omega))).trans ((if_pos (own_T1 65536 (by omega))).trans rfl)))))))))))))))))))).trans rfl), (if_neg (own_F1 65 (by omega))).trans ((if_neg (own_F2 983039 (by omega))).trans ((if_neg (own_F1 91 (by omega))).trans ((if_pos (own_T2 94 (by omega))).trans ((if_neg (own_F3 96 (by omega))).trans ((if_neg (own_F1 123 (by omega))).trans ((if_pos (own_T2 191 (by omega))).trans ((if_neg (own_F3 215 (by omega))).trans ((if_neg (own_F3 247 (by omega))).trans ((if_neg (own_F1 768 (by omega))).trans ((if_neg (own_F2 879 (by omega))).trans rfl))))))))))⟩
theorem own_v_13 (x : Int32) (h1 : (880 : Int) ≤ x.toInt) (h2 : x.toInt ≤ (893 : Int)) : own_u x = 1 ∧ own_g x = 1 := ⟨(if_neg (own_F3 95 (by omega))).trans ((if_neg (fun q => absurd ((show own_f x = 1 from (if_neg (own_F1 65 (by omega))).trans ((if_pos (own_T2 90 (by omega))).trans ((if_neg (own_F1 97 (by omega))).trans ((if_pos (own_T2 122 (by omega))).trans ((if_neg (own_F1 192 (by omega))).trans ((if_pos (own_T2 214 (by omega))).trans ((if_neg (own_F1 216 (by omega))).trans ((if_pos (own_T2 246 (by omega))).trans ((if_neg (own_F1 248 (by omega))).trans ((if_pos (own_T2 767 (by omega))).trans ((if_neg (own_F1 880 (by omega))).trans ((if_neg (own_F2 893 (by omega))).trans rfl)))))))))))).symm.trans q) (by decide))).trans rfl), (if_neg (own_F1 65 (by omega))).trans ((if_neg (own_F2 983039 (by omega))).trans ((if_neg (own_F1 91 (by omega))).trans ((if_pos (own_T2 94 (by omega))).trans ((if_neg (own_F3 96 (by omega))).trans ((if_neg (own_F1 123 (by omega))).trans ((if_pos (own_T2 191 (by omega))).trans ((if_neg (own_F3 215 (by omega))).trans ((if_neg (own_F3 247 (by omega))).trans ((if_neg (own_F1 768 (by omega))).trans ((if_pos (own_T2 879 (by omega))).trans ((if_neg (own_F3 894 (by omega))).trans ((if_pos (own_T1 8192 (by omega))).trans ((if_pos (own_T1 8206 (by omega))).trans ((if_pos (own_T1 8592 (by omega))).trans ((if_pos (own_T1 12272 (by omega))).trans ((if_pos (own_T1 55296 (by omega))).trans ((if_pos (own_T1 64976 (by omega))).trans ((if_pos (own_T1 65534 (by omega))).trans rfl))))))))))))))))))⟩
theorem own_v_14 (x : Int32) (h1 : (894 : Int) ≤ x.toInt) (h2 : x.toInt ≤ (894 : Int)) : own_u x = 0 ∧ own_g x = 0 := ⟨(if_neg (own_F3 95 (by omega))).trans ((if_pos (show own_f x = 0 from (if_neg (own_F1 65 (by omega))).trans ((if_pos (own_T2 90 (by omega))).trans ((if_neg (own_F1 97 (by omega))).trans ((if_pos (own_T2 122 (by omega))).trans ((if_neg (own_F1 192 (by omega))).trans ((if_pos (own_T2 214 (by omega))).trans ((if_neg (own_F1 216 (by omega))).trans ((if_pos (own_T2 246 (by omega))).trans ((if_neg (own_F1 248 (by omega))).trans ((if_pos (own_T2 767 (by omega))).trans ((if_neg (own_F1 880 (by omega))).trans ((if_pos (own_T2 893 (by omega))).trans ((if_pos (own_T1 895 (by omega))).trans ((if_pos (own_T1 8204 (by omega))).trans ((if_pos (own_T1 8304 (by omega))).trans ((if_pos (own_T1 11264 (by omega))).trans ((if_pos (own_T1 12289 (by omega))).trans ((if_pos (own_T1 63744 (by omega))).trans ((if_pos (own_T1 65008 (by omega))).trans ((if_pos (own_T1 65536 (by omega))).trans rfl))))))))))))))))))))).trans rfl), (if_neg (own_F1 65 (by omega))).trans ((if_neg (own_F2 983039 (by omega))).trans ((if_neg (own_F1 91 (by omega))).trans ((if_pos (own_T2 94 (by omega))).trans ((if_neg (own_F3 96 (by omega))).trans ((if_neg (own_F1 123 (by omega))).trans ((if_pos (own_T2 191 (by omega))).trans ((if_neg (own_F3 215 (by omega))).trans ((if_neg (own_F3 247 (by omega))).trans ((if_neg (own_F1 768 (by omega))).trans ((if_pos (own_T2 879 (by omega))).trans ((if_pos (own_T3 894 (by omega))).trans rfl)))))))))))⟩
theorem own_v_15 (x : Int32) (h1 : (895 : Int) ≤ x.toInt) (h2 : x.toInt ≤ (8191 : Int)) : own_u x = 1 ∧ own_g x = 1 := ⟨(if_neg (own_F3 95 (by omega))).trans ((if_neg (fun q => absurd ((show own_f x = 1 from (if_neg (own_F1 65 (by omega))).trans ((if_pos (own_T2 90 (by omega))).trans ((if_neg (own_F1 97 (by omega))).trans ((if_pos (own_T2 122 (by omega))).trans ((if_neg (own_F1 192 (by omega))).trans ((if_pos (own_T2 214 (by omega))).trans ((if_neg (own_F1 216 (by omega))).trans ((if_pos (own_T2 246 (by omega))).trans ((if_neg (own_F1 248 (by omega))).trans ((if_pos (own_T2 767 (by omega))).trans ((if_neg (own_F1 880 (by omega))).trans ((if_pos (own_T2 893 (by omega))).trans ((if_neg (own_F1 895 (by omega))).trans ((if_neg (own_F2 8191 (by omega))).trans rfl)))))))))))))).symm.trans q) (by decide))).trans rfl), (if_neg (own_F1 65 (by omega))).trans ((if_neg (own_F2 983039 (by omega))).trans ((if_neg (own_F1 91 (by omega))).trans ((if_pos (own_T2 94 (by omega))).trans ((if_neg (own_F3 96 (by omega))).trans ((if_neg (own_F1 123 (by omega))).trans ((if_pos (own_T2 191 (by omega))).trans ((if_neg (own_F3 215 (by omega))).trans ((if_neg (own_F3 247 (by omega))).trans ((if_neg (own_F1 768 (by omega))).trans ((if_pos (own_T2 879 (by omega))).trans ((if_neg (own_F3 894 (by omega))).trans ((if_pos (own_T1 8192 (by omega))).trans ((if_pos (own_T1 8206 (by omega))).trans ((if_pos (own_T1 8592 (by omega))).trans ((if_pos (own_T1 12272 (by omega))).trans ((if_pos (own_T1 55296 (by omega))).trans ((if_pos (own_T1 64976 (by omega))).trans ((if_pos (own_T1 65534 (by omega))).trans rfl))))))))))))))))))⟩
theorem own_v_16 (x : Int32) (h1 : (8192 : Int) ≤ x.toInt) (h2 : x.toInt ≤ (8203 : Int)) : own_u x = 0 ∧ own_g x = 0 := ⟨(if_neg (own_F3 95 (by omega))).trans ((if_pos (show own_f x = 0 from (if_neg (own_F1 65 (by omega))).trans ((if_pos (own_T2 90 (by omega))).trans ((if_neg (own_F1 97 (by omega))).trans ((if_pos (own_T2 122 (by omega))).trans ((if_neg (own_F1 192 (by omega))).trans ((if_pos (own_T2 214 (by omega))).trans ((if_neg (own_F1 216 (by omega))).trans ((if_pos (own_T2 246 (by omega))).trans ((if_neg (own_F1 248 (by omega))).trans ((if_pos (own_T2 767 (by omega))).trans ((if_neg (own_F1 880 (by omega))).trans ((if_pos (own_T2 893 (by omega))).trans ((if_neg (own_F1 895 (by omega))).trans ((if_pos (own_T2 8191 (by omega))).trans ((if_pos (own_T1 8204 (by omega))).trans ((if_pos (own_T1 8304 (by omega))).trans ((if_pos (own_T1 11264 (by omega))).trans ((if_pos (own_T1 12289 (by omega))).trans ((if_pos (own_T1 63744 (by omega))).trans ((if_pos (own_T1 65008 (by omega))).trans ((if_pos (own_T1 65536 (by omega))).trans rfl)))))))))))))))))))))).trans rfl), (if_neg (own_F1 65 (by omega))).trans ((if_neg (own_F2 983039 (by omega))).trans ((if_neg (own_F1 91 (by omega))).trans ((if_pos (own_T2 94 (by omega))).trans ((if_neg (own_F3 96 (by omega))).trans ((if_neg (own_F1 123 (by omega))).trans ((if_pos (own_T2 191 (by omega))).trans ((if_neg (own_F3 215 (by omega))).trans ((if_neg (own_F3 247 (by omega))).trans ((if_neg (own_F1 768 (by omega))).trans ((if_pos (own_T2 879 (by omega))).trans ((if_neg (own_F3 894 (by omega))).trans ((if_neg (own_F1 8192 (by omega))).trans ((if_neg (own_F2 8203 (by omega))).trans rfl)))))))))))))⟩
theorem own_v_17 (x : Int32) (h1 : (8204 : Int) ≤ x.toInt) (h2 : x.toInt ≤ (8205 : Int)) : own_u x = 1 ∧ own_g x = 1 := ⟨(if_neg (own_F3 95 (by omega))).trans ((if_neg (fun q => absurd ((show own_f x = 1 from (if_neg (own_F1 65 (by omega))).trans ((if_pos (own_T2 90 (by omega))).trans ((if_neg (own_F1 97 (by omega))).trans ((if_pos (own_T2 122 (by omega))).trans ((if_neg (own_F1 192 (by omega))).trans ((if_pos (own_T2 214 (by omega))).trans ((if_neg (own_F1 216 (by omega))).trans ((if_pos (own_T2 246 (by omega))).trans ((if_neg (own_F1 248 (by omega))).trans ((if_pos (own_T2 767 (by omega))).trans ((if_neg (own_F1 880 (by omega))).trans ((if_pos (own_T2 893 (by omega))).trans ((if_neg (own_F1 895 (by omega))).trans ((if_pos (own_T2 8191 (by omega))).trans ((if_neg (own_F1 8204 (by omega))).trans ((if_neg (own_F2 8205 (by omega))).trans rfl)))))))))))))))).symm.trans q) (by decide))).trans rfl), (if_neg (own_F1 65 (by omega))).trans ((if_neg (own_F2 983039 (by omega))).trans ((if_neg (own_F1 91 (by omega))).trans ((if_pos (own_T2 94 (by omega))).trans ((if_neg (own_F3 96 (by omega))).trans ((if_neg (own_F1 123 (by omega))).trans ((if_pos (own_T2 191 (by omega))).trans ((if_neg (own_F3 215 (by omega))).trans ((if_neg (own_F3 247 (by omega))).trans ((if_neg (own_F1 768 (by omega))).trans ((if_pos (own_T2 879 (by omega))).trans ((if_neg (own_F3 894 (by omega))).trans ((if_neg (own_F1 8192 (by omega))).trans ((if_pos (own_T2 8203 (by omega))).trans ((if_pos (own_T1 8206 (by omega))).trans ((if_pos (own_T1 8592 (by omega))).trans ((if_pos (own_T1 12272 (by omega))).trans ((if_pos (own_T1 55296 (by omega))).trans ((if_pos (own_T1 64976 (by omega))).trans ((if_pos (own_T1 65534 (by omega))).trans rfl)))))))))))))))))))⟩
theorem own_v_18 (x : Int32) (h1 : (8206 : Int) ≤ x.toInt) (h2 : x.toInt ≤ (8303 : Int)) : own_u x = 0 ∧ own_g x = 0 := ⟨(if_neg (own_F3 95 (by omega))).trans ((if_pos (show own_f x = 0 from (if_neg (own_F1 65 (by omega))).trans ((if_pos (own_T2 90 (by omega))).trans ((if_neg (own_F1 97 (by omega))).trans ((if_pos (own_T2 122 (by omega))).trans ((if_neg (own_F1 192 (by omega))).trans ((if_pos (own_T2 214 (by omega))).trans ((if_neg (own_F1 216 (by omega))).trans ((if_pos (own_T2 246 (by omega))).trans ((if_neg (own_F1 248 (by omega))).trans ((if_pos (own_T2 767 (by omega))).trans ((if_neg (own_F1 880 (by omega))).trans ((if_pos (own_T2 893 (by omega))).trans ((if_neg (own_F1 895 (by omega))).trans ((if_pos (own_T2 8191 (by omega))).trans ((if_neg (own_F1 8204 (by omega))).trans ((if_pos (own_T2 8205 (by omega))).trans ((if_pos (own_T1 8304 (by omega))).trans ((if_pos (own_T1 11264 (by omega))).trans ((if_pos (own_T1 12289 (by omega))).trans ((if_pos (own_T1 63744 (by omega))).trans ((if_pos (own_T1 65008 (by omega))).trans ((if_pos (own_T1 65536 (by omega))).trans rfl))))))))))))))))))))))).trans rfl), (if_neg (own_F1 65 (by omega))).trans ((if_neg (own_F2 983039 (by omega))).trans ((if_neg (own_F1 91 (by omega))).trans ((if_pos (own_T2 94 (by omega))).trans ((if_neg (own_F3 96 (by omega))).trans ((if_neg (own_F1 123 (by omega))).trans ((if_pos (own_T2 191 (by omega))).trans ((if_neg (own_F3 215 (by omega))).trans ((if_neg (own_F3 247 (by omega))).trans ((if_neg (own_F1 768 (by omega))).trans ((if_pos (own_T2 879 (by omega))).trans ((if_neg (own_F3 894 (by omega))).trans ((if_neg (own_F1 8192 (by omega))).trans ((if_pos (own_T2 8203 (by omega))).trans ((if_neg (own_F1 8206 (by omega))).trans ((if_neg (own_F2 8303 (by omega))).trans rfl)))))))))))))))⟩
theorem own_v_19 (x : Int32) (h1 : (8304 : Int) ≤ x.toInt) (h2 : x.toInt ≤ (8591 : Int)) : own_u x = 1 ∧ own_g x = 1 := ⟨(if_neg (own_F3 95 (by omega))).trans ((if_neg (fun q => absurd ((show own_f x = 1 from (if_neg (own_F1 65 (by omega))).trans ((if_pos (own_T2 90 (by omega))).trans ((if_neg (own_F1 97 (by omega))).trans ((if_pos (own_T2 122 (by omega))).trans ((if_neg (own_F1 192 (by omega))).trans ((if_pos (own_T2 214 (by omega))).trans ((if_neg (own_F1 216 (by omega))).trans ((if_pos (own_T2 246 (by omega))).trans ((if_neg (own_F1 248 (by omega))).trans ((if_pos (own_T2 767 (by omega))).trans ((if_neg (own_F1 880 (by omega))).trans ((if_pos (own_T2 893 (by omega))).trans ((if_neg (own_F1 895 (by omega))).trans ((if_pos (own_T2 8191 (by omega))).trans ((if_neg (own_F1 8204 (by omega))).trans ((if_pos (own_T2 8205 (by omega))).trans ((if_neg (own_F1 8304 (by omega))).trans ((if_neg (own_F2 8591 (by omega))).trans rfl)))))))))))))))))).symm.trans q) (by decide))).trans rfl), (if_neg (own_F1 65 (by omega))).trans ((if_neg (own_F2 983039 (by omega))).trans ((if_neg (own_F1 91 (by omega))).trans ((if_pos (own_T2 94 (by omega))).trans ((if_neg (own_F3 96 (by omega))).trans ((if_neg (own_F1 123 (by omega))).trans ((if_pos (own_T2 191 (by omega))).trans ((if_neg (own_F3 215 (by omega))).trans ((if_neg (own_F3 247 (by omega))).trans ((if_neg (own_F1 768 (by omega))).trans ((if_pos (own_T2 879 (by omega))).trans ((if_neg (own_F3 894 (by omega))).trans ((if_neg (own_F1 8192 (by omega))).trans ((if_pos (own_T2 8203 (by omega))).trans ((if_neg (own_F1 8206 (by omega))).trans ((if_pos (own_T2 8303 (by omega))).trans ((if_pos (own_T1 8592 (by omega))).trans ((if_pos (own_T1 12272 (by omega))).trans ((if_pos (own_T1 55296 (by omega))).trans ((if_pos (own_T1 64976 (by omega))).trans ((if_pos (own_T1 65534 (by omega))).trans rfl))))))))))))))))))))⟩
theorem own_v_20 (x : Int32) (h1 : (8592 : Int) ≤ x.toInt) (h2 : x.toInt ≤ (11263 : Int)) : own_u x = 0 ∧ own_g x = 0 := ⟨(if_neg (own_F3 95 (by omega))).trans ((if_pos (show own_f x = 0 from (if_neg (own_F1 65 (by omega))).trans ((if_pos (own_T2 90 (by omega))).trans ((if_neg (own_F1 97 (by omega))).trans ((if_pos (own_T2 122 (by omega))).trans ((if_neg (own_F1 192 (by omega))).trans ((if_pos (own_T2 214 (by omega))).trans ((if_neg (own_F1 216 (by omega))).trans ((if_pos (own_T2 246 (by omega))).trans ((if_neg (own_F1 248 (by omega))).trans ((if_pos (own_T2 767 (by omega))).trans ((if_neg (own_F1 880 (by omega))).trans ((if_pos (own_T2 893 (by omega))).trans ((if_neg (own_F1 895 (by omega))).trans ((if_pos (own_T2 8191 (by omega))).trans ((if_neg (own_F1 8204 (by omega))).trans ((if_pos (own_T2 8205 (by omega))).trans ((if_neg (own_F1 8304 (by omega))).trans ((if_pos (own_T2 8591 (by omega))).trans ((if_pos (own_T1 11264 (by omega))).trans ((if_pos (own_T1 12289 (by omega))).trans ((if_pos (own_T1 63744 (by omega))).trans ((if_pos (own_T1 65008 (by omega))).trans ((if_pos (own_T1 65536 (by omega))).trans rfl)))))))))))))))))))))))).trans rfl), (if_neg (own_F1 65 (by omega))).trans ((if_neg (own_F2 983039 (by omega))).trans ((if_neg (own_F1 91 (by omega))).trans ((if_pos (own_T2 94 (by omega))).trans ((if_neg (own_F3 96 (by omega))).trans ((if_neg (own_F1 123 (by omega))).trans ((if_pos (own_T2 191 (by omega))).trans ((if_neg (own_F3 215 (by omega))).trans ((if_neg (own_F3 247 (by omega))).trans ((if_neg (own_F1 768 (by omega))).trans ((if_pos (own_T2 879 (by omega))).trans ((if_neg (own_F3 894 (by omega))).trans ((if_neg (own_F1 8192 (by omega))).trans ((if_pos (own_T2 8203 (by omega))).trans ((if_neg (own_F1 8206 (by omega))).trans ((if_pos (own_T2 8303 (by omega))).trans ((if_neg (own_F1 8592 (by omega))).trans ((if_neg (own_F2 11263 (by omega))).trans rfl)))))))))))))))))⟩
theorem own_v_21 (x : Int32) (h1 : (11264 : Int) ≤ x.toInt) (h2 : x.toInt ≤ (12271 : Int)) : own_u x = 1 ∧ own_g x = 1 := ⟨(if_neg (own_F3 95 (by omega))).trans ((if_neg (fun q => absurd ((show own_f x = 1 from (if_neg (own_F1 65 (by omega))).trans ((if_pos (own_T2 90 (by omega))).trans ((if_neg (own_F1 97 (by omega))).trans ((if_pos (own_T2 122 (by omega))).trans ((if_neg (own_F1 192 (by omega))).trans ((if_pos (own_T2 214 (by omega))).trans ((if_neg (own_F1 216 (by omega))).trans ((if_pos (own_T2 246 (by omega))).trans ((if_neg (own_F1 248 (by omega))).trans ((if_pos (own_T2 767 (by omega))).trans ((if_neg (own_F1 880 (by omega))).trans ((if_pos (own_T2 893 (by omega))).trans ((if_neg (own_F1 895 (by omega))).trans ((if_pos (own_T2 8191 (by omega))).trans ((if_neg (own_F1 8204 (by omega))).trans ((if_pos (own_T2 8205 (by omega))).trans ((if_neg (own_F1 8304 (by omega))).trans ((if_pos (own_T2 8591 (by omega))).trans ((if_neg (own_F1 11264 (by omega))).trans ((if_neg (own_F2 12271 (by omega))).trans rfl)))))))))))))))))))).symm.trans q) (by decide))).trans rfl), (if_neg (own_F1 65 (by omega))).trans ((if_neg (own_F2 983039 (by omega))).trans ((if_neg (own_F1 91 (by omega))).trans ((if_pos (own_T2 94 (by omega))).trans ((if_neg (own_F3 96 (by omega))).trans ((if_neg (own_F1 123 (by omega))).trans ((if_pos (own_T2 191 (by omega))).trans ((if_neg (own_F3 215 (by omega))).trans ((if_neg (own_F3 247 (by omega))).trans ((if_neg (own_F1 768 (by omega))).trans ((if_pos (own_T2 879 (by omega))).trans ((if_neg (own_F3 894 (by omega))).trans ((if_neg (own_F1 8192 (by omega))).trans ((if_pos (own_T2 8203 (by omega))).trans ((if_neg (own_F1 8206 (by omega))).trans ((if_pos (own_T2 8303 (by omega))).trans ((if_neg (own_F1 8592 (by omega))).trans ((if_pos (own_T2 11263 (by omega))).trans ((if_pos (own_T1 12272 (by omega))).trans ((if_pos (own_T1 55296 (by omega))).trans ((if_pos (own_T1 64976 (by omega))).trans ((if_pos (own_T1 65534 (by omega))).trans rfl)))))))))))))))))))))⟩
theorem own_v_22 (x : Int32) (h1 : (12272 : Int) ≤ x.toInt) (h2 : x.toInt ≤ (12288 : Int)) : own_u x = 0 ∧ own_g x = 0 := ⟨(if_neg (own_F3 95 (by omega))).trans ((if_pos (show own_f x = 0 from (if_neg (own_F1 65 (by omega))).trans ((if_pos (own_T2 90 (by omega))).trans ((if_neg (own_F1 97 (by omega))).trans ((if_pos (own_T2 122 (by omega))).trans ((if_neg (own_F1 192 (by omega))).trans ((if_pos (own_T2 214 (by omega))).trans ((if_neg (own_F1 216 (by omega))).trans ((if_pos (own_T2 246 (by omega))).trans ((if_neg (own_F1 248 (by omega))).trans ((if_pos (own_T2 767 (by omega))).trans ((if_neg (own_F1 880 (by omega))).trans ((if_pos (own_T2 893 (by omega))).trans ((if_neg (own_F1 895 (by omega))).trans ((if_pos (own_T2 8191 (by omega))).trans ((if_neg (own_F1 8204 (by omega))).trans ((if_pos (own_T2 8205 (by omega))).trans ((if_neg (own_F1 8304 (by omega))).trans ((if_pos (own_T2 8591 (by omega))).trans ((if_neg (own_F1 11264 (by omega))).trans ((if_pos (own_T2 12271 (by omega))).trans ((if_pos (own_T1 12289 (by omega))).trans ((if_pos (own_T1 63744 (by omega))).trans ((if_pos (own_T1 65008 (by omega))).trans ((if_pos (own_T1 65536 (by omega))).trans rfl))))))))))))))))))))))))).trans rfl), (if_neg (own_F1 65 (by omega))).trans ((if_neg (own_F2 983039 (by omega))).trans ((if_neg (own_F1 91 (by omega))).trans ((if_pos (own_T2 94 (by omega))).trans ((if_neg (own_F3 96 (by omega))).trans ((if_neg (own_F1 123 (by omega))).trans ((if_pos (own_T2 191 (by omega))).trans ((if_neg (own_F3 215 (by omega))).trans ((if_neg (own_F3 247 (by omega))).trans ((if_neg (own_F1 768 (by omega))).trans ((if_pos (own_T2 879 (by omega))).trans ((if_neg (own_F3 894 (by omega))).trans ((if_neg (own_F1 8192 (by omega))).trans ((if_pos (own_T2 8203 (by omega))).trans ((if_neg (own_F1 8206 (by omega))).trans ((if_pos (own_T2 8303 (by omega))).trans ((if_neg (own_F1 8592 (by omega))).trans ((if_pos (own_T2 11263 (by omega))).trans ((if_neg (own_F1 12272 (by omega))).trans ((if_neg (own_F2 12288 (by omega))).trans rfl)))))))))))))))))))⟩
theorem own_v_23 (x : Int32) (h1 : (12289 : Int) ≤ x.toInt) (h2 : x.toInt ≤ (55295 : Int)) : own_u x = 1 ∧ own_g x = 1 := ⟨(if_neg (own_F3 95 (by omega))).trans ((if_neg (fun q => absurd ((show own_f x = 1 from (if_neg (own_F1 65 (by omega))).trans ((if_pos (own_T2 90 (by omega))).trans ((if_neg (own_F1 97 (by omega))).trans ((if_pos (own_T2 122 (by omega))).trans ((if_neg (own_F1 192 (by omega))).trans ((if_pos (own_T2 214 (by omega))).trans ((if_neg (own_F1 216 (by omega))).trans ((if_pos (own_T2 246 (by omega))).trans ((if_neg (own_F1 248 (by omega))).trans ((if_pos (own_T2 767 (by omega))).trans ((if_neg (own_F1 880 (by omega))).trans ((if_pos (own_T2 893 (by omega))).trans ((if_neg (own_F1 895 (by omega))).trans ((if_pos (own_T2 8191 (by omega))).trans ((if_neg (own_F1 8204 (by omega))).trans ((if_pos (own_T2 8205 (by omega))).trans ((if_neg (own_F1 8304 (by omega))).trans ((if_pos (own_T2 8591 (by omega))).trans ((if_neg (own_F1 11264 (by omega))).trans ((if_pos (own_T2 12271 (by omega))).trans ((if_neg (own_F1 12289 (by omega))).trans ((if_neg (own_F2 55295 (by omega))).trans rfl)))))))))))))))))))))).symm.trans q) (by decide))).trans rfl), (if_neg (own_F1 65 (by omega))).trans ((if_neg (own_F2 983039 (by omega))).trans ((if_neg (own_F1 91 (by omega))).trans ((if_pos (own_T2 94 (by omega))).trans ((if_neg (own_F3 96 (by omega))).trans ((if_neg (own_F1 123 (by omega))).trans ((if_pos (own_T2 191 (by omega))).trans ((if_neg (own_F3 215 (by omega))).trans ((if_neg (own_F3 247 (by omega))).trans ((if_neg (own_F1 768 (by omega))).trans ((if_pos (own_T2 879 (by omega))).trans ((if_neg (own_F3 894 (by omega))).trans ((if_neg (own_F1 8192 (by omega))).trans ((if_pos (own_T2 8203 (by omega))).trans ((if_neg (own_F1 8206 (by omega))).trans ((if_pos (own_T2 8303 (by omega))).trans ((if_neg (own_F1 8592 (by omega))).trans ((if_pos (own_T2 11263 (by omega))).trans ((if_neg (own_F1 12272 (by omega))).trans ((if_pos (own_T2 12288 (by omega))).trans ((if_pos (own_T1 55296 (by omega))).trans ((if_pos (own_T1 64976 (by omega))).trans ((if_pos (own_T1 65534 (by omega))).trans rfl))))))))))))))))))))))⟩
theorem own_v_24 (x : Int32) (h1 : (55296 : Int) ≤ x.toInt) (h2 : x.toInt ≤ (63743 : Int)) : own_u x = 0 ∧ own_g x = 0 := ⟨(if_neg (own_F3 95 (by omega))).trans ((if_pos (show own_f x = 0 from (if_neg (own_F1 65 (by omega))).trans ((if_pos (own_T2 90 (by omega))).trans ((if_neg (own_F1 97 (by omega))).trans ((if_pos (own_T2 122 (by omega))).trans ((if_neg (own_F1 192 (by omega))).trans ((if_pos (own_T2 214 (by omega))).trans ((if_neg (own_F1 216 (by omega))).trans ((if_pos (own_T2 246 (by omega))).trans ((if_neg (own_F1 248 (by omega))).trans ((if_pos (own_T2 767 (by omega))).trans ((if_neg (own_F1 880 (by omega))).trans ((if_pos (own_T2 893 (by omega))).trans ((if_neg (own_F1 895 (by omega))).trans ((if_pos (own_T2 8191 (by omega))).trans ((if_neg (own_F1 8204 (by omega))).trans ((if_pos (own_T2 8205 (by omega))).trans ((if_neg (own_F1 8304 (by omega))).trans ((if_pos (own_T2 8591 (by omega))).trans ((if_neg (own_F1 11264 (by omega))).trans ((if_pos (own_T2 12271 (by omega))).trans ((if_neg (own_F1 12289 (by omega))).trans ((if_pos (own_T2 55295 (by omega))).trans ((if_pos (own_T1 63744 (by omega))).trans ((if_pos (own_T1 65008 (by omega))).trans ((if_pos (own_T1 65536 (by omega))).trans rfl)))))))))))))))))))))))))).trans rfl), (if_neg (own_F1 65 (by omega))).trans ((if_neg (own_F2 983039 (by omega))).trans ((if_neg (own_F1 91 (by omega))).trans ((if_pos (own_T2 94 (by omega))).trans ((if_neg (own_F3 96 (by omega))).trans ((if_neg (own_F1 123 (by omega))).trans ((if_pos (own_T2 191 (by omega))).trans ((if_neg (own_F3 215 (by omega))).trans ((if_neg (own_F3 247 (by omega))).trans ((if_neg (own_F1 768 (by omega))).trans ((if_pos (own_T2 879 (by omega))).trans ((if_neg (own_F3 894 (by omega))).trans ((if_neg (own_F1 8192 (by omega))).trans ((if_pos (own_T2 8203 (by omega))).trans ((if_neg (own_F1 8206 (by omega))).trans ((if_pos (own_T2 8303 (by omega))).trans ((if_neg (own_F1 8592 (by omega))).trans ((if_pos (own_T2 11263 (by omega))).trans ((if_neg (own_F1 12272 (by omega))).trans ((if_pos (own_T2 12288 (by omega))).trans ((if_neg (own_F1 55296 (by omega))).trans ((if_neg (own_F2 63743 (by omega))).trans rfl)))))))))))))))))))))⟩
theorem own_v_25 (x : Int32) (h1 : (63744 : Int) ≤ x.toInt) (h2 : x.toInt ≤ (64975 : Int)) : own_u x = 1 ∧ own_g x = 1 := ⟨(if_neg (own_F3 95 (by omega))).trans ((if_neg (fun q => absurd ((show own_f x = 1 from (if_neg (own_F1 65 (by omega))).trans ((if_pos (own_T2 90 (by omega))).trans ((if_neg (own_F1 97 (by omega))).trans ((if_pos (own_T2 122 (by omega))).trans ((if_neg (own_F1 192 (by omega))).trans ((if_pos (own_T2 214 (by omega))).trans ((if_neg (own_F1 216 (by omega))).trans ((if_pos (own_T2 246 (by omega))).trans ((if_neg (own_F1 248 (by omega))).trans ((if_pos (own_T2 767 (by omega))).trans ((if_neg (own_F1 880 (by omega))).trans ((if_pos (own_T2 893 (by omega))).trans ((if_neg (own_F1 895 (by omega))).trans ((if_pos (own_T2 8191 (by omega))).trans ((if_neg (own_F1 8204 (by omega))).trans ((if_pos (own_T2 8205 (by omega))).trans ((if_neg (own_F1 8304 (by omega))).trans ((if_pos (own_T2 8591 (by omega))).trans ((if_neg (own_F1 11264 (by omega))).trans ((if_pos (own_T2 12271 (by omega))).trans ((if_neg (own_F1 12289 (by omega))).trans ((if_pos (own_T2 55295 (by omega))).trans ((if_neg (own_F1 63744 (by omega))).trans ((if_neg (own_F2 64975 (by omega))).trans rfl)))))))))))))))))))))))).symm.trans q) (by decide))).trans rfl), (if_neg (own_F1 65 (by omega))).trans ((if_neg (own_F2 983039 (by omega))).trans ((if_neg (own_F1 91 (by omega))).trans ((if_pos (own_T2 94 (by omega))).trans ((if_neg (own_F3 96 (by omega))).trans ((if_neg (own_F1 123 (by omega))).trans ((if_pos (own_T2 191 (by omega))).trans ((if_neg (own_F3 215 (by omega))).trans ((if_neg (own_F3 247 (by omega))).trans ((if_neg (own_F1 768 (by omega))).trans ((if_pos (own_T2 879 (by omega))).trans ((if_neg (own_F3 894 (by omega))).trans ((if_neg (own_F1 8192 (by omega))).trans ((if_pos (own_T2 8203 (by omega))).trans ((if_neg (own_F1 8206 (by omega))).trans ((if_pos (own_T2 8303 (by omega))).trans ((if_neg (own_F1 8592 (by omega))).trans ((if_pos (own_T2 11263 (by omega))).trans ((if_neg (own_F1 12272 (by omega))).trans ((if_pos (own_T2 12288 (by omega))).trans ((if_neg (own_F1 55296 (by omega))).trans ((if_pos (own_T2 63743 (by omega))).trans ((if_pos (own_T1 64976 (by omega))).trans ((if_pos (own_T1 65534 (by omega))).trans rfl)))))))))))))))))))))))⟩
theorem own_v_26 (x : Int32) (h1 : (64976 : Int) ≤ x.toInt) (h2 : x.toInt ≤ (65007 : Int)) : own_u x = 0 ∧ own_g x = 0 := ⟨(if_neg (own_F3 95 (by omega))).trans ((if_pos (show own_f x = 0 from (if_neg (own_F1 65 (by omega))).trans ((if_pos (own_T2 90 (by omega))).trans ((if_neg (own_F1 97 (by omega))).trans ((if_pos (own_T2 122 (by omega))).trans ((if_neg (own_F1 192 (by omega))).trans ((if_pos (own_T2 214 (by omega))).trans ((if_neg (own_F1 216 (by omega))).trans ((if_pos (own_T2 246 (by omega))).trans ((if_neg (own_F1 248 (by omega))).trans ((if_pos (own_T2 767 (by omega))).trans ((if_neg (own_F1 880 (by omega))).trans ((if_pos (own_T2 893 (by omega))).trans ((if_neg (own_F1 895 (by omega))).trans ((if_pos (own_T2 8191 (by omega))).trans ((if_neg (own_F1 8204 (by omega))).trans ((if_pos (own_T2 8205 (by omega))).trans ((if_neg (own_F1 8304 (by omega))).trans ((if_pos (own_T2 8591 (by omega))).trans ((if_neg (own_F1 11264 (by omega))).trans ((if_pos (own_T2 12271 (by omega))).trans ((if_neg (own_F1 12289 (by omega))).trans ((if_pos (own_T2 55295 (by omega))).trans ((if_neg (own_F1 63744 (by omega))).trans ((if_pos (own_T2 64975 (by omega))).trans ((if_pos (own_T1 65008 (by omega))).trans ((if_pos (own_T1 65536 (by omega))).trans rfl))))))))))))))))))))))))))).trans rfl), (if_neg (own_F1 65 (by omega))).trans ((if_neg (own_F2 983039 (by omega))).trans ((if_neg (own_F1 91 (by omega))).trans ((if_pos (own_T2 94 (by omega))).trans ((if_neg (own_F3 96 (by omega))).trans ((if_neg (own_F1 123 (by omega))).trans ((if_pos (own_T2 191 (by omega))).trans ((if_neg (own_F3 215 (by omega))).trans ((if_neg (own_F3 247 (by omega))).trans ((if_neg (own_F1 768 (by omega))).trans ((if_pos (own_T2 879 (by omega))).trans ((if_neg (own_F3 894 (by omega))).trans ((if_neg (own_F1 8192 (by omega))).trans ((if_pos (own_T2 8203 (by omega))).trans ((if_neg (own_F1 8206 (by omega))).trans ((if_pos (own_T2 8303 (by omega))).trans ((if_neg (own_F1 8592 (by omega))).trans ((if_pos (own_T2 11263 (by omega))).trans ((if_neg (own_F1 12272 (by omega))).trans ((if_pos (own_T2 12288 (by omega))).trans ((if_neg (own_F1 55296 (by omega))).trans ((if_pos (own_T2 63743 (by omega))).trans ((if_neg (own_F1 64976 (by omega))).trans ((if_neg (own_F2 65007 (by omega))).trans rfl)))))))))))))))))))))))⟩
theorem own_v_27 (x : Int32) (h1 : (65008 : Int) ≤ x.toInt) (h2 : x.toInt ≤ (65533 : Int)) : own_u x = 1 ∧ own_g x = 1 := ⟨(if_neg (own_F3 95 (by omega))).trans ((if_neg (fun q => absurd ((show own_f x = 1 from (if_neg (own_F1 65 (by omega))).trans ((if_pos (own_T2 90 (by omega))).trans ((if_neg (own_F1 97 (by omega))).trans ((if_pos (own_T2 122 (by omega))).trans ((if_neg (own_F1 192 (by omega))).trans ((if_pos (own_T2 214 (by omega))).trans ((if_neg (own_F1 216 (by omega))).trans ((if_pos (own_T2 246 (by omega))).trans ((if_neg (own_F1 248 (by omega))).trans ((if_pos (own_T2 767 (by omega))).trans ((if_neg (own_F1 880 (by omega))).trans ((if_pos (own_T2 893 (by omega))).trans ((if_neg (own_F1 895 (by omega))).trans ((if_pos (own_T2 8191 (by omega))).trans ((if_neg (own_F1 8204 (by omega))).trans ((if_pos (own_T2 8205 (by omega))).trans ((if_neg (own_F1 8304 (by omega))).trans ((if_pos (own_T2 8591 (by omega))).trans ((if_neg (own_F1 11264 (by omega))).trans ((if_pos (own_T2 12271 (by omega))).trans ((if_neg (own_F1 12289 (by omega))).trans ((if_pos (own_T2 55295 (by omega))).trans ((if_neg (own_F1 63744 (by omega))).trans ((if_pos (own_T2 64975 (by omega))).trans ((if_neg (own_F1 65008 (by omega))).trans ((if_neg (own_F2 65533 (by omega))).trans rfl)))))))))))))))))))))))))).symm.trans q) (by decide))).trans rfl), (if_neg (own_F1 65 (by omega))).trans ((if_neg (own_F2 983039 (by omega))).trans ((if_neg (own_F1 91 (by omega))).trans ((if_pos (own_T2 94 (by omega))).trans ((if_neg (own_F3 96 (by omega))).trans ((if_neg (own_F1 123 (by omega))).trans ((if_pos (own_T2 191 (by omega))).trans ((if_neg (own_F3 215 (by omega))).trans ((if_neg (own_F3 247 (by omega))).trans ((if_neg (own_F1 768 (by omega))).trans ((if_pos (own_T2 879 (by omega))).trans ((if_neg (own_F3 894 (by omega))).trans ((if_neg (own_F1 8192 (by omega))).trans ((if_pos (own_T2 8203 (by omega))).trans ((if_neg (own_F1 8206 (by omega))).trans ((if_pos (own_T2 8303 (by omega))).trans ((if_neg (own_F1 8592 (by omega))).trans ((if_pos (own_T2 11263 (by omega))).trans ((if_neg (own_F1 12272 (by omega))).trans ((if_pos (own_T2 12288 (by omega))).trans ((if_neg (own_F1 55296 (by omega))).trans ((if_pos (own_T2 63743 (by omega))).trans ((if_neg (own_F1 64976 (by omega))).trans ((if_pos (own_T2 65007 (by omega))).trans ((if_pos (own_T1 65534 (by omega))).trans rfl))))))))))))))))))))))))⟩
theorem own_v_28 (x : Int32) (h1 : (65534 : Int) ≤ x.toInt) (h2 : x.toInt ≤ (65535 : Int)) : own_u x = 0 ∧ own_g x = 0 := ⟨(if_neg (own_F3 95 (by omega))).trans ((if_pos (show own_f x = 0 from (if_neg (own_F1 65 (by omega))).trans ((if_pos (own_T2 90 (by omega))).trans ((if_neg (own_F1 97 (by omega))).trans ((if_pos (own_T2 122 (by omega))).trans ((if_neg (own_F1 192 (by omega))).trans ((if_pos (own_T2 214 (by omega))).trans ((if_neg (own_F1 216 (by omega))).trans ((if_pos (own_T2 246 (by omega))).trans ((if_neg (own_F1 248 (by omega))).trans ((if_pos (own_T2 767 (by omega))).trans ((if_neg (own_F1 880 (by omega))).trans ((if_pos (own_T2 893 (by omega))).trans ((if_neg (own_F1 895 (by omega))).trans ((if_pos (own_T2 8191 (by omega))).trans ((if_neg (own_F1 8204 (by omega))).trans ((if_pos (own_T2 8205 (by omega))).trans ((if_neg (own_F1 8304 (by omega))).trans ((if_pos (own_T2 8591 (by omega))).trans ((if_neg (own_F1 11264 (by omega))).trans ((if_pos (own_T2 12271 (by omega))).trans ((if_neg (own_F1 12289 (by omega))).trans ((if_pos (own_T2 55295 (by omega))).trans ((if_neg (own_F1 63744 (by omega))).trans ((if_pos (own_T2 64975 (by omega))).trans ((if_neg (own_F1 65008 (by omega))).trans ((if_pos (own_T2 65533 (by omega))).trans ((if_pos (own_T1 65536 (by omega))).trans rfl)))))))))))))))))))))))))))).trans rfl), (if_neg (own_F1 65 (by omega))).trans ((if_neg (own_F2 983039 (by omega))).trans ((if_neg (own_F1 91 (by omega))).trans ((if_pos (own_T2 94 (by omega))).trans ((if_neg (own_F3 96 (by omega))).trans ((if_neg (own_F1 123 (by omega))).trans ((if_pos (own_T2 191 (by omega))).trans ((if_neg (own_F3 215 (by omega))).trans ((if_neg (own_F3 247 (by omega))).trans ((if_neg (own_F1 768 (by omega))).trans ((if_pos (own_T2 879 (by omega))).trans ((if_neg (own_F3 894 (by omega))).trans ((if_neg (own_F1 8192 (by omega))).trans ((if_pos (own_T2 8203 (by omega))).trans ((if_neg (own_F1 8206 (by omega))).trans ((if_pos (own_T2 8303 (by omega))).trans ((if_neg (own_F1 8592 (by omega))).trans ((if_pos (own_T2 11263 (by omega))).trans ((if_neg (own_F1 12272 (by omega))).trans ((if_pos (own_T2 12288 (by omega))).trans ((if_neg (own_F1 55296 (by omega))).trans ((if_pos (own_T2 63743 (by omega))).trans ((if_neg (own_F1 64976 (by omega))).trans ((if_pos (own_T2 65007 (by omega))).trans ((if_neg (own_F1 65534 (by omega))).trans ((if_neg (own_F2 65535 (by omega))).trans rfl)))))))))))))))))))))))))⟩
theorem own_v_29 (x : Int32) (h1 : (65536 : Int) ≤ x.toInt) (h2 : x.toInt ≤ (983039 : Int)) : own_u x = 1 ∧ own_g x = 1 := ⟨(if_neg (own_F3 95 (by omega))).trans ((if_neg (fun q => absurd ((show own_f x = 1 from (if_neg (own_F1 65 (by omega))).trans ((if_pos (own_T2 90 (by omega))).trans ((if_neg (own_F1 97 (by omega))).trans ((if_pos (own_T2 122 (by omega))).trans ((if_neg (own_F1 192 (by omega))).trans ((if_pos (own_T2 214 (by omega))).trans ((if_neg (own_F1 216 (by omega))).trans ((if_pos (own_T2 246 (by omega))).trans ((if_neg (own_F1 248 (by omega))).trans ((if_pos (own_T2 767 (by omega))).trans ((if_neg (own_F1 880 (by omega))).trans ((if_pos (own_T2 893 (by omega))).trans ((if_neg (own_F1 895 (by omega))).trans ((if_pos (own_T2 8191 (by omega))).trans ((if_neg (own_F1 8204 (by omega))).trans ((if_pos (own_T2 8205 (by omega))).trans ((if_neg (own_F1 8304 (by omega))).trans ((if_pos (own_T2 8591 (by omega))).trans ((if_neg (own_F1 11264 (by omega))).trans ((if_pos (own_T2 12271 (by omega))).trans ((if_neg (own_F1 12289 (by omega))).trans ((if_pos (own_T2 55295 (by omega))).trans ((if_neg (own_F1 63744 (by omega))).trans ((if_pos (own_T2 64975 (by omega))).trans ((if_neg (own_F1 65008 (by omega))).trans ((if_pos (own_T2 65533 (by omega))).trans ((if_neg (own_F1 65536 (by omega))).trans ((if_neg (own_F2 983039 (by omega))).trans rfl)))))))))))))))))))))))))))).symm.trans q) (by decide))).trans rfl), (if_neg (own_F1 65 (by omega))).trans ((if_neg (own_F2 983039 (by omega))).trans ((if_neg (own_F1 91 (by omega))).trans ((if_pos (own_T2 94 (by omega))).trans ((if_neg (own_F3 96 (by omega))).trans ((if_neg (own_F1 123 (by omega))).trans ((if_pos (own_T2 191 (by omega))).trans ((if_neg (own_F3 215 (by omega))).trans ((if_neg (own_F3 247 (by omega))).trans ((if_neg (own_F1 768 (by omega))).trans ((if_pos (own_T2 879 (by omega))).trans ((if_neg (own_F3 894 (by omega))).trans ((if_neg (own_F1 8192 (by omega))).trans ((if_pos (own_T2 8203 (by omega))).trans ((if_neg (own_F1 8206 (by omega))).trans ((if_pos (own_T2 8303 (by omega))).trans ((if_neg (own_F1 8592 (by omega))).trans ((if_pos (own_T2 11263 (by omega))).trans ((if_neg (own_F1 12272 (by omega))).trans ((if_pos (own_T2 12288 (by omega))).trans ((if_neg (own_F1 55296 (by omega))).trans ((if_pos (own_T2 63743 (by omega))).trans ((if_neg (own_F1 64976 (by omega))).trans ((if_pos (own_T2 65007 (by omega))).trans ((if_neg (own_F1 65534 (by omega))).trans ((if_pos (own_T2 65535 (by omega))).trans rfl)))))))))))))))))))))))))⟩
theorem own_v_30 (x : Int32) (h1 : (983040 : Int) ≤ x.toInt) (h2 : x.toInt ≤ (2147483647 : Int)) : own_u x = 0 ∧ own_g x = 0 := ⟨(if_neg (own_F3 95 (by omega))).trans ((if_pos (show own_f x = 0 from (if_neg (own_F1 65 (by omega))).trans ((if_pos (own_T2 90 (by omega))).trans ((if_neg (own_F1 97 (by omega))).trans ((if_pos (own_T2 122 (by omega))).trans ((if_neg (own_F1 192 (by omega))).trans ((if_pos (own_T2 214 (by omega))).trans ((if_neg (own_F1 216 (by omega))).trans ((if_pos (own_T2 246 (by omega))).trans ((if_neg (own_F1 248 (by omega))).trans ((if_pos (own_T2 767 (by omega))).trans ((if_neg (own_F1 880 (by omega))).trans ((if_pos (own_T2 893 (by omega))).trans ((if_neg (own_F1 895 (by omega))).trans ((if_pos (own_T2 8191 (by omega))).trans ((if_neg (own_F1 8204 (by omega))).trans ((if_pos (own_T2 8205 (by omega))).trans ((if_neg (own_F1 8304 (by omega))).trans ((if_pos (own_T2 8591 (by omega))).trans ((if_neg (own_F1 11264 (by omega))).trans ((if_pos (own_T2 12271 (by omega))).trans ((if_neg (own_F1 12289 (by omega))).trans ((if_pos (own_T2 55295 (by omega))).trans ((if_neg (own_F1 63744 (by omega))).trans ((if_pos (own_T2 64975 (by omega))).trans ((if_neg (own_F1 65008 (by omega))).trans ((if_pos (own_T2 65533 (by omega))).trans ((if_neg (own_F1 65536 (by omega))).trans ((if_pos (own_T2 983039 (by omega))).trans rfl))))))))))))))))))))))))))))).trans rfl), (if_neg (own_F1 65 (by omega))).trans ((if_pos (own_T2 983039 (by omega))).trans rfl)⟩

theorem own_ug (x : Int32) : own_u x = own_g x := by
  have rr := rng32 x
  by_cases c0 : x.toInt ≤ (64 : Int)
  · have v := own_v_0 x (by omega) (by omega)
    exact v.1.trans v.2.symm
  by_cases c1 : x.toInt ≤ (90 : Int)
  · have v := own_v_1 x (by omega) (by omega)
    exact v.1.trans v.2.symm
  by_cases c2 : x.toInt ≤ (94 : Int)
  · have v := own_v_2 x (by omega) (by omega)
    exact v.1.trans v.2.symm
  by_cases c3 : x.toInt ≤ (95 : Int)
  · have v := own_v_3 x (by omega) (by omega)
    exact v.1.trans v.2.symm
  by_cases c4 : x.toInt ≤ (96 : Int)
  · have v := own_v_4 x (by omega) (by omega)
    exact v.1.trans v.2.symm
  by_cases c5 : x.toInt ≤ (122 : Int)
  · have v := own_v_5 x (by omega) (by omega)
    exact v.1.trans v.2.symm
  by_cases c6 : x.toInt ≤ (191 : Int)
  · have v := own_v_6 x (by omega) (by omega)
    exact v.1.trans v.2.symm
  by_cases c7 : x.toInt ≤ (214 : Int)
  · have v := own_v_7 x (by omega) (by omega)
    exact v.1.trans v.2.symm
  by_cases c8 : x.toInt ≤ (215 : Int)
  · have v := own_v_8 x (by omega) (by omega)
    exact v.1.trans v.2.symm
  by_cases c9 : x.toInt ≤ (246 : Int)
  · have v := own_v_9 x (by omega) (by omega)
    exact v.1.trans v.2.symm
  by_cases c10 : x.toInt ≤ (247 : Int)
  · have v := own_v_10 x (by omega) (by omega)
    exact v.1.trans v.2.symm
  by_cases c11 : x.toInt ≤ (767 : Int)
  · have v := own_v_11 x (by omega) (by omega)
    exact v.1.trans v.2.symm
  by_cases c12 : x.toInt ≤ (879 : Int)
  · have v := own_v_12 x (by omega) (by omega)
    exact v.1.trans v.2.symm
  by_cases c13 : x.toInt ≤ (893 : Int)
  · have v := own_v_13 x (by omega) (by omega)
    exact v.1.trans v.2.symm
  by_cases c14 : x.toInt ≤ (894 : Int)
  · have v := own_v_14 x (by omega) (by omega)
    exact v.1.trans v.2.symm
  by_cases c15 : x.toInt ≤ (8191 : Int)
  · have v := own_v_15 x (by omega) (by omega)
    exact v.1.trans v.2.symm
  by_cases c16 : x.toInt ≤ (8203 : Int)
  · have v := own_v_16 x (by omega) (by omega)
    exact v.1.trans v.2.symm
  by_cases c17 : x.toInt ≤ (8205 : Int)
  · have v := own_v_17 x (by omega) (by omega)
    exact v.1.trans v.2.symm
  by_cases c18 : x.toInt ≤ (8303 : Int)
  · have v := own_v_18 x (by omega) (by omega)
    exact v.1.trans v.2.symm
  by_cases c19 : x.toInt ≤ (8591 : Int)
  · have v := own_v_19 x (by omega) (by omega)
    exact v.1.trans v.2.symm
  by_cases c20 : x.toInt ≤ (11263 : Int)
  · have v := own_v_20 x (by omega) (by omega)
    exact v.1.trans v.2.symm
  by_cases c21 : x.toInt ≤ (12271 : Int)
  · have v := own_v_21 x (by omega) (by omega)
    exact v.1.trans v.2.symm
  by_cases c22 : x.toInt ≤ (12288 : Int)
  · have v := own_v_22 x (by omega) (by omega)
    exact v.1.trans v.2.symm
  by_cases c23 : x.toInt ≤ (55295 : Int)
  · have v := own_v_23 x (by omega) (by omega)
    exact v.1.trans v.2.symm
  by_cases c24 : x.toInt ≤ (63743 : Int)
  · have v := own_v_24 x (by omega) (by omega)
    exact v.1.trans v.2.symm
  by_cases c25 : x.toInt ≤ (64975 : Int)
  · have v := own_v_25 x (by omega) (by omega)
    exact v.1.trans v.2.symm
  by_cases c26 : x.toInt ≤ (65007 : Int)
  · have v := own_v_26 x (by omega) (by omega)
    exact v.1.trans v.2.symm
  by_cases c27 : x.toInt ≤ (65533 : Int)
  · have v := own_v_27 x (by omega) (by omega)
    exact v.1.trans v.2.symm
  by_cases c28 : x.toInt ≤ (65535 : Int)
  · have v := own_v_28 x (by omega) (by omega)
    exact v.1.trans v.2.symm
  by_cases c29 : x.toInt ≤ (983039 : Int)
  · have v := own_v_29 x (by omega) (by omega)
    exact v.1.trans v.2.symm
  have v := own_v_30 x (by omega) (by omega)
  exact v.1.trans v.2.symm
theorem own_k (s : Int32) : ¬ (((s &&& (2147483647 : Int32)) % (29 : Int32)) < 0) ∧ ((s &&& (2147483647 : Int32)) % (29 : Int32)) < (29 : Int32) := by
  have q := c_mask s (2147483647 : Int32) 31 (by decide) (by decide)
  have e : ((2 ^ 31 : Nat) : Int) = 2147483648 := by decide
  rw [e] at q
  have q1 := (c_irem (s &&& (2147483647 : Int32)) (29 : Int32) 29 (by decide)).1 (by omega)
  have e0 : (0 : Int32).toInt = 0 := by decide
  have e1 : (29 : Int32).toInt = 29 := by decide
  rw [Int32.lt_iff_toInt_lt, Int32.lt_iff_toInt_lt, e0, e1]
  omega

theorem pn0 : plainName "com/example/ragtable/ragtable/rdfio/TermTokensIsPnCharsUPinLaw" = true := by first | (simp [plainName, overriddenIn]; done) | decide +kernel
theorem ef0 (m : MethodId) (z0 : Int32) (z1 : Int32) (z2 : Int32) : entryFrame m #[(.int z0), (.int z1), (.int z2)] maxLocals = mkF m 0 #[.val (.int z0), .val (.int z1), .val (.int z2), .unset, .unset, .unset] [] := by first | (simp [entryFrame, mkF, argsToLocals, Value.category, maxLocals]; done) | rfl
def Q0 (Z : State) (x0 : Int32) (x1 : Int32) (x2 : Int32) (h0 : Heap) (n0 : Nat) (v : Option Value) (h : Heap) (L : List Loc) : Prop := v = some (.int 1) ∧ Fr n0 L
set_option maxRecDepth 65536 in
set_option maxHeartbeats 40000000 in
theorem rm0 (l : Launch) (Z : State) (a0 : Array Value) (hw : ∀ d ∈ tables_1, d.before a0 Z = true) (ws : List Jvm.Cond) (x0 : Int32) (x1 : Int32) (x2 : Int32) (h0 : Heap) (n0 : Nat) (Z0 : n0 ≤ h0.size) :
    MetFree l x (head1 (Jvm.Cond.code x code maxLocals ret :: ws) room_1) (fun a U => a = #[(.int x0), (.int x1), (.int x2)] ∧ Z.Warmed39 U.vm ∧ U.heap = h0) (fun _ _ _ _ _ => True) (fun _ U oc U' => ∃ v L, oc = .returned v ∧ Q0 Z x0 x1 x2 h0 n0 v U'.heap L ∧ FrameEnd U oc U' L room_1.cells room_1.slots) := by
  refine MetFree.of_bodySF (plainFor_of_name pn0) hisR ?_
  intro p e s m args below meth c s₁ Bd hml0 hP hK
  obtain ⟨rfl, hZ, hh⟩ := hP
  have hx := Bd.exec
  have hby := Bd.bytes
  have hml : c.maxLocals = 6 := hml0
  have hown : s.vm.findClass "com/example/ragtable/ragtable/rdfio/TermTokensIsPnCharsUPinLaw" = some m.cls := findClass_of_methodNamed Bd.named
  have hnm := (name_of_methodNamed Bd.named Bd.method).1
  have X0 : Stand p l e room_1 s m #[(.int x0), (.int x1), (.int x2)] below meth c s₁ [] 0 0 := Stand.of_body Bd
  have e0 : s₁.heap = h0 := by rw [← hh, Bd.state]; rfl
  have N0 := Fr.nil n0
  show own_Go p e below (fun s₂ oc => ∃ v L, oc = .returned v ∧ Q0 Z x0 x1 x2 h0 n0 v s₂.heap L ∧ FrameEnd s oc s₂ L room_1.cells room_1.slots) s₁ (entryFrame m #[(.int x0), (.int x1), (.int x2)] maxLocals)
  refine own_Go.of (g' := mkF m 0 #[.val (.int x0), .val (.int x1), .val (.int x2), .unset, .unset, .unset] []) (fun t k => castTop (ef0 m x0 x1 x2) k) ?_
  refine og_bipush (pc' := 2) (n := 29) X0 hx (hb hby at_0) rfl rfl ?_
  obtain ⟨T1, h1, k1, X1, e1, E1, A1, st1⟩ := newP X0 hx hZ (hw _ (List.mem_of_getElem? (i := 0) rfl)) e0 (g := (mkF m 2 #[.val (.int x0), .val (.int x1), .val (.int x2), .unset, .unset, .unset] [(.int (29 : Int32))])) rfl (hb hby at_2) rfl (by decide) (cap := 29) (by decide) (by decide) (by decide) (by decide)
  obtain ⟨b1, g1⟩ : ∃ z, z = h0.size := ⟨_, rfl⟩
  rw [← g1] at A1 st1
  have g_b1 : n0 ≤ b1 := Nat.le_trans Z0 (Nat.le_of_eq g1.symm)
  have sz_b1 : h0.size ≤ b1 := Nat.le_trans (Keep.refl h0 []).1 (Nat.le_of_eq g1.symm)
  have V1 : Arv Z h1 b1 k1 .int (29 : Int32) [(.int (0 : Int32)), (.int (0 : Int32)), (.int (0 : Int32)), (.int (0 : Int32)), (.int (0 : Int32)), (.int (0 : Int32)), (.int (0 : Int32)), (.int (0 : Int32)), (.int (0 : Int32)), (.int (0 : Int32)), (.int (0 : Int32)), (.int (0 : Int32)), (.int (0 : Int32)), (.int (0 : Int32)), (.int (0 : Int32)), (.int (0 : Int32)), (.int (0 : Int32)), (.int (0 : Int32)), (.int (0 : Int32)), (.int (0 : Int32)), (.int (0 : Int32)), (.int (0 : Int32)), (.int (0 : Int32)), (.int (0 : Int32)), (.int (0 : Int32)), (.int (0 : Int32)), (.int (0 : Int32)), (.int (0 : Int32)), (.int (0 : Int32))] (.int (0 : Int32)) := (Arv.new A1 (by decide)).pad (pad_rep [] (.int (0 : Int32)) 29)
  have K1 : Keep h0 h1 [] := (Keep.refl h0 []).ext E1
  have Z1 : n0 ≤ h1.size := Nat.le_trans Z0 K1.1
  refine own_Go.of (g' := (mkF m 4 #[.val (.int x0), .val (.int x1), .val (.int x2), .unset, .unset, .unset] [(.ref b1)])) (fun t k => st1 _ k) ?_
  refine og_dup (pc' := 5) X1 hx (hb hby at_4) rfl rfl ?_
  refine og_iconst (pc' := 6) (n := 0) X1 hx (hb hby at_5) rfl rfl ?_
  refine og_bipush (pc' := 8) (n := 65) X1 hx (hb hby at_6) rfl rfl ?_
  obtain ⟨cl2, Ar2, q2, S2, M2, H2, G2⟩ := id V1
  have hin2 : ¬ ((0 : Int32) < 0 ∨ cl2.slots.size ≤ ((0 : Int32)).toNatClampNeg) := inb_of S2 ⟨by decide, by decide⟩
  obtain ⟨T2, h2, X2, e2, W2, st2⟩ := stI X1 hx hZ e1 Ar2 (j := (0 : Int32)) hin2 (g := (mkF m 8 #[.val (.int x0), .val (.int x1), .val (.int x2), .unset, .unset, .unset] [(.int (65 : Int32)), (.int (0 : Int32)), (.ref b1), (.ref b1)])) rfl rfl (hb hby at_8)
  have V2 : Arv Z h2 b1 k1 .int (29 : Int32) [(.int (65 : Int32)), (.int (0 : Int32)), (.int (0 : Int32)), (.int (0 : Int32)), (.int (0 : Int32)), (.int (0 : Int32)), (.int (0 : Int32)), (.int (0 : Int32)), (.int (0 : Int32)), (.int (0 : Int32)), (.int (0 : Int32)), (.int (0 : Int32)), (.int (0 : Int32)), (.int (0 : Int32)), (.int (0 : Int32)), (.int (0 : Int32)), (.int (0 : Int32)), (.int (0 : Int32)), (.int (0 : Int32)), (.int (0 : Int32)), (.int (0 : Int32)), (.int (0 : Int32)), (.int (0 : Int32)), (.int (0 : Int32)), (.int (0 : Int32)), (.int (0 : Int32)), (.int (0 : Int32)), (.int (0 : Int32)), (.int (0 : Int32))] (.int (0 : Int32)) := Arv.set Ar2 q2 S2 M2 H2 G2 rfl W2 0 rfl (Nat.le_of_ble_eq_true rfl)
  have K2 : Keep h0 h2 [] := K1.wr W2 (Or.inr sz_b1)
  have Z2 : n0 ≤ h2.size := Nat.le_trans Z0 K2.1
  have N2 := Fr.snoc X2 N0 g_b1
  obtain ⟨J2, X2, N2⟩ := own_hide X2 N2
  refine own_Go.of (g' := (mkF m 9 #[.val (.int x0), .val (.int x1), .val (.int x2), .unset, .unset, .unset] [(.ref b1)])) (fun t k => st2 _ k) ?_
  refine og_dup (pc' := 10) X2 hx (hb hby at_9) rfl rfl ?_
  refine og_iconst (pc' := 11) (n := 1) X2 hx (hb hby at_10) rfl rfl ?_
  refine og_bipush (pc' := 13) (n := 90) X2 hx (hb hby at_11) rfl rfl ?_
  obtain ⟨cl3, Ar3, q3, S3, M3, H3, G3⟩ := id V2
  have hin3 : ¬ ((1 : Int32) < 0 ∨ cl3.slots.size ≤ ((1 : Int32)).toNatClampNeg) := inb_of S3 ⟨by decide, by decide⟩
  obtain ⟨T3, h3, X3, e3, W3, st3⟩ := stI X2 hx hZ e2 Ar3 (j := (1 : Int32)) hin3 (g := (mkF m 13 #[.val (.int x0), .val (.int x1), .val (.int x2), .unset, .unset, .unset] [(.int (90 : Int32)), (.int (1 : Int32)), (.ref b1), (.ref b1)])) rfl rfl (hb hby at_13)
  have V3 : Arv Z h3 b1 k1 .int (29 : Int32) [(.int (65 : Int32)), (.int (90 : Int32)), (.int (0 : Int32)), (.int (0 : Int32)), (.int (0 : Int32)), (.int (0 : Int32)), (.int (0 : Int32)), (.int (0 : Int32)), (.int (0 : Int32)), (.int (0 : Int32)), (.int (0 : Int32)), (.int (0 : Int32)), (.int (0 : Int32)), (.int (0 : Int32)), (.int (0 : Int32)), (.int (0 : Int32)), (.int (0 : Int32)), (.int (0 : Int32)), (.int (0 : Int32)), (.int (0 : Int32)), (.int (0 : Int32)), (.int (0 : Int32)), (.int (0 : Int32)), (.int (0 : Int32)), (.int (0 : Int32)), (.int (0 : Int32)), (.int (0 : Int32)), (.int (0 : Int32)), (.int (0 : Int32))] (.int (0 : Int32)) := Arv.set Ar3 q3 S3 M3 H3 G3 rfl W3 1 rfl (Nat.le_of_ble_eq_true rfl)
  have K3 : Keep h0 h3 [] := K2.wr W3 (Or.inr sz_b1)
  have Z3 : n0 ≤ h3.size := Nat.le_trans Z0 K3.1
  have N3 := Fr.snoc X3 N2 g_b1
  obtain ⟨J3, X3, N3⟩ := own_hide X3 N3
  refine own_Go.of (g' := (mkF m 14 #[.val (.int x0), .val (.int x1), .val (.int x2), .unset, .unset, .unset] [(.ref b1)])) (fun t k => st3 _ k) ?_
  refine og_dup (pc' := 15) X3 hx (hb hby at_14) rfl rfl ?_
  refine og_iconst (pc' := 16) (n := 2) X3 hx (hb hby at_15) rfl rfl ?_
  refine og_bipush (pc' := 18) (n := 95) X3 hx (hb hby at_16) rfl rfl ?_
  obtain ⟨cl4, Ar4, q4, S4, M4, H4, G4⟩ := id V3
  have hin4 : ¬ ((2 : Int32) < 0 ∨ cl4.slots.size ≤ ((2 : Int32)).toNatClampNeg) := inb_of S4 ⟨by decide, by decide⟩
  obtain ⟨T4, h4, X4, e4, W4, st4⟩ := stI X3 hx hZ e3 Ar4 (j := (2 : Int32)) hin4 (g := (mkF m 18 #[.val (.int x0), .val (.int x1), .val (.int x2), .unset, .unset, .unset] [(.int (95 : Int32)), (.int (2 : Int32)), (.ref b1), (.ref b1)])) rfl rfl (hb hby at_18)
  have V4 : Arv Z h4 b1 k1 .int (29 : Int32) [(.int (65 : Int32)), (.int (90 : Int32)), (.int (95 : Int32)), (.int (0 : Int32)), (.int (0 : Int32)), (.int (0 : Int32)), (.int (0 : Int32)), (.int (0 : Int32)), (.int (0 : Int32)), (.int (0 : Int32)), (.int (0 : Int32)), (.int (0 : Int32)), (.int (0 : Int32)), (.int (0 : Int32)), (.int (0 : Int32)), (.int (0 : Int32)), (.int (0 : Int32)), (.int (0 : Int32)), (.int (0 : Int32)), (.int (0 : Int32)), (.int (0 : Int32)), (.int (0 : Int32)), (.int (0 : Int32)), (.int (0 : Int32)), (.int (0 : Int32)), (.int (0 : Int32)), (.int (0 : Int32)), (.int (0 : Int32)), (.int (0 : Int32))] (.int (0 : Int32)) := Arv.set Ar4 q4 S4 M4 H4 G4 rfl W4 2 rfl (Nat.le_of_ble_eq_true rfl)
  have K4 : Keep h0 h4 [] := K3.wr W4 (Or.inr sz_b1)
  have Z4 : n0 ≤ h4.size := Nat.le_trans Z0 K4.1
  have N4 := Fr.snoc X4 N3 g_b1
  obtain ⟨J4, X4, N4⟩ := own_hide X4 N4
  refine own_Go.of (g' := (mkF m 19 #[.val (.int x0), .val (.int x1), .val (.int x2), .unset, .unset, .unset] [(.ref b1)])) (fun t k => st4 _ k) ?_
  refine og_dup (pc' := 20) X4 hx (hb hby at_19) rfl rfl ?_
  refine og_iconst (pc' := 21) (n := 3) X4 hx (hb hby at_20) rfl rfl ?_
  refine og_bipush (pc' := 23) (n := 97) X4 hx (hb hby at_21) rfl rfl ?_
  obtain ⟨cl5, Ar5, q5, S5, M5, H5, G5⟩ := id V4
  have hin5 : ¬ ((3 : Int32) < 0 ∨ cl5.slots.size ≤ ((3 : Int32)).toNatClampNeg) := inb_of S5 ⟨by decide, by decide⟩
  obtain ⟨T5, h5, X5, e5, W5, st5⟩ := stI X4 hx hZ e4 Ar5 (j := (3 : Int32)) hin5 (g := (mkF m 23 #[.val (.int x0), .val (.int x1), .val (.int x2), .unset, .unset, .unset] [(.int (97 : Int32)), (.int (3 : Int32)), (.ref b1), (.ref b1)])) rfl rfl (hb hby at_23)
  have V5 : Arv Z h5 b1 k1 .int (29 : Int32) [(.int (65 : Int32)), (.int (90 : Int32)), (.int (95 : Int32)), (.int (97 : Int32)), (.int (0 : Int32)), (.int (0 : Int32)), (.int (0 : Int32)), (.int (0 : Int32)), (.int (0 : Int32)), (.int (0 : Int32)), (.int (0 : Int32)), (.int (0 : Int32)), (.int (0 : Int32)), (.int (0 : Int32)), (.int (0 : Int32)), (.int (0 : Int32)), (.int (0 : Int32)), (.int (0 : Int32)), (.int (0 : Int32)), (.int (0 : Int32)), (.int (0 : Int32)), (.int (0 : Int32)), (.int (0 : Int32)), (.int (0 : Int32)), (.int (0 : Int32)), (.int (0 : Int32)), (.int (0 : Int32)), (.int (0 : Int32)), (.int (0 : Int32))] (.int (0 : Int32)) := Arv.set Ar5 q5 S5 M5 H5 G5 rfl W5 3 rfl (Nat.le_of_ble_eq_true rfl)
  have K5 : Keep h0 h5 [] := K4.wr W5 (Or.inr sz_b1)
  have Z5 : n0 ≤ h5.size := Nat.le_trans Z0 K5.1
  have N5 := Fr.snoc X5 N4 g_b1
  obtain ⟨J5, X5, N5⟩ := own_hide X5 N5
  refine own_Go.of (g' := (mkF m 24 #[.val (.int x0), .val (.int x1), .val (.int x2), .unset, .unset, .unset] [(.ref b1)])) (fun t k => st5 _ k) ?_
  refine og_dup (pc' := 25) X5 hx (hb hby at_24) rfl rfl ?_
  refine og_iconst (pc' := 26) (n := 4) X5 hx (hb hby at_25) rfl rfl ?_
  refine og_bipush (pc' := 28) (n := 122) X5 hx (hb hby at_26) rfl rfl ?_
  obtain ⟨cl6, Ar6, q6, S6, M6, H6, G6⟩ := id V5
  have hin6 : ¬ ((4 : Int32) < 0 ∨ cl6.slots.size ≤ ((4 : Int32)).toNatClampNeg) := inb_of S6 ⟨by decide, by decide⟩
  obtain ⟨T6, h6, X6, e6, W6, st6⟩ := stI X5 hx hZ e5 Ar6 (j := (4 : Int32)) hin6 (g := (mkF m 28 #[.val (.int x0), .val (.int x1), .val (.int x2), .unset, .unset, .unset] [(.int (122 : Int32)), (.int (4 : Int32)), (.ref b1), (.ref b1)])) rfl rfl (hb hby at_28)
  have V6 : Arv Z h6 b1 k1 .int (29 : Int32) [(.int (65 : Int32)), (.int (90 : Int32)), (.int (95 : Int32)), (.int (97 : Int32)), (.int (122 : Int32)), (.int (0 : Int32)), (.int (0 : Int32)), (.int (0 : Int32)), (.int (0 : Int32)), (.int (0 : Int32)), (.int (0 : Int32)), (.int (0 : Int32)), (.int (0 : Int32)), (.int (0 : Int32)), (.int (0 : Int32)), (.int (0 : Int32)), (.int (0 : Int32)), (.int (0 : Int32)), (.int (0 : Int32)), (.int (0 : Int32)), (.int (0 : Int32)), (.int (0 : Int32)), (.int (0 : Int32)), (.int (0 : Int32)), (.int (0 : Int32)), (.int (0 : Int32)), (.int (0 : Int32)), (.int (0 : Int32)), (.int (0 : Int32))] (.int (0 : Int32)) := Arv.set Ar6 q6 S6 M6 H6 G6 rfl W6 4 rfl (Nat.le_of_ble_eq_true rfl)
  have K6 : Keep h0 h6 [] := K5.wr W6 (Or.inr sz_b1)
  have Z6 : n0 ≤ h6.size := Nat.le_trans Z0 K6.1
  have N6 := Fr.snoc X6 N5 g_b1
  obtain ⟨J6, X6, N6⟩ := own_hide X6 N6
  refine own_Go.of (g' := (mkF m 29 #[.val (.int x0), .val (.int x1), .val (.int x2), .unset, .unset, .unset] [(.ref b1)])) (fun t k => st6 _ k) ?_
  refine og_dup (pc' := 30) X6 hx (hb hby at_29) rfl rfl ?_
  refine og_iconst (pc' := 31) (n := 5) X6 hx (hb hby at_30) rfl rfl ?_
  refine og_sipush (pc' := 34) (n := 192) X6 hx (hb hby at_31) rfl rfl ?_
  obtain ⟨cl7, Ar7, q7, S7, M7, H7, G7⟩ := id V6
  have hin7 : ¬ ((5 : Int32) < 0 ∨ cl7.slots.size ≤ ((5 : Int32)).toNatClampNeg) := inb_of S7 ⟨by decide, by decide⟩
  obtain ⟨T7, h7, X7, e7, W7, st7⟩ := stI X6 hx hZ e6 Ar7 (j := (5 : Int32)) hin7 (g := (mkF m 34 #[.val (.int x0), .val (.int x1), .val (.int x2), .unset, .unset, .unset] [(.int (192 : Int32)), (.int (5 : Int32)), (.ref b1), (.ref b1)])) rfl rfl (hb hby at_34)
  have V7 : Arv Z h7 b1 k1 .int (29 : Int32) [(.int (65 : Int32)), (.int (90 : Int32)), (.int (95 : Int32)), (.int (97 : Int32)), (.int (122 : Int32)), (.int (192 : Int32)), (.int (0 : Int32)), (.int (0 : Int32)), (.int (0 : Int32)), (.int (0 : Int32)), (.int (0 : Int32)), (.int (0 : Int32)), (.int (0 : Int32)), (.int (0 : Int32)), (.int (0 : Int32)), (.int (0 : Int32)), (.int (0 : Int32)), (.int (0 : Int32)), (.int (0 : Int32)), (.int (0 : Int32)), (.int (0 : Int32)), (.int (0 : Int32)), (.int (0 : Int32)), (.int (0 : Int32)), (.int (0 : Int32)), (.int (0 : Int32)), (.int (0 : Int32)), (.int (0 : Int32)), (.int (0 : Int32))] (.int (0 : Int32)) := Arv.set Ar7 q7 S7 M7 H7 G7 rfl W7 5 rfl (Nat.le_of_ble_eq_true rfl)
  have K7 : Keep h0 h7 [] := K6.wr W7 (Or.inr sz_b1)
  have Z7 : n0 ≤ h7.size := Nat.le_trans Z0 K7.1
  have N7 := Fr.snoc X7 N6 g_b1
  obtain ⟨J7, X7, N7⟩ := own_hide X7 N7
  refine own_Go.of (g' := (mkF m 35 #[.val (.int x0), .val (.int x1), .val (.int x2), .unset, .unset, .unset] [(.ref b1)])) (fun t k => st7 _ k) ?_
  refine og_dup (pc' := 36) X7 hx (hb hby at_35) rfl rfl ?_
  refine og_bipush (pc' := 38) (n := 6) X7 hx (hb hby at_36) rfl rfl ?_
  refine og_sipush (pc' := 41) (n := 214) X7 hx (hb hby at_38) rfl rfl ?_
  obtain ⟨cl8, Ar8, q8, S8, M8, H8, G8⟩ := id V7
  have hin8 : ¬ ((6 : Int32) < 0 ∨ cl8.slots.size ≤ ((6 : Int32)).toNatClampNeg) := inb_of S8 ⟨by decide, by decide⟩
  obtain ⟨T8, h8, X8, e8, W8, st8⟩ := stI X7 hx hZ e7 Ar8 (j := (6 : Int32)) hin8 (g := (mkF m 41 #[.val (.int x0), .val (.int x1), .val (.int x2), .unset, .unset, .unset] [(.int (214 : Int32)), (.int (6 : Int32)), (.ref b1), (.ref b1)])) rfl rfl (hb hby at_41)
  have V8 : Arv Z h8 b1 k1 .int (29 : Int32) [(.int (65 : Int32)), (.int (90 : Int32)), (.int (95 : Int32)), (.int (97 : Int32)), (.int (122 : Int32)), (.int (192 : Int32)), (.int (214 : Int32)), (.int (0 : Int32)), (.int (0 : Int32)), (.int (0 : Int32)), (.int (0 : Int32)), (.int (0 : Int32)), (.int (0 : Int32)), (.int (0 : Int32)), (.int (0 : Int32)), (.int (0 : Int32)), (.int (0 : Int32)), (.int (0 : Int32)), (.int (0 : Int32)), (.int (0 : Int32)), (.int (0 : Int32)), (.int (0 : Int32)), (.int (0 : Int32)), (.int (0 : Int32)), (.int (0 : Int32)), (.int (0 : Int32)), (.int (0 : Int32)), (.int (0 : Int32)), (.int (0 : Int32))] (.int (0 : Int32)) := Arv.set Ar8 q8 S8 M8 H8 G8 rfl W8 6 rfl (Nat.le_of_ble_eq_true rfl)
  have K8 : Keep h0 h8 [] := K7.wr W8 (Or.inr sz_b1)
  have Z8 : n0 ≤ h8.size := Nat.le_trans Z0 K8.1
  have N8 := Fr.snoc X8 N7 g_b1
  obtain ⟨J8, X8, N8⟩ := own_hide X8 N8
  refine own_Go.of (g' := (mkF m 42 #[.val (.int x0), .val (.int x1), .val (.int x2), .unset, .unset, .unset] [(.ref b1)])) (fun t k => st8 _ k) ?_
  refine og_dup (pc' := 43) X8 hx (hb hby at_42) rfl rfl ?_
  refine og_bipush (pc' := 45) (n := 7) X8 hx (hb hby at_43) rfl rfl ?_
  refine og_sipush (pc' := 48) (n := 216) X8 hx (hb hby at_45) rfl rfl ?_
  obtain ⟨cl9, Ar9, q9, S9, M9, H9, G9⟩ := id V8
  have hin9 : ¬ ((7 : Int32) < 0 ∨ cl9.slots.size ≤ ((7 : Int32)).toNatClampNeg) := inb_of S9 ⟨by decide, by decide⟩
  obtain ⟨T9, h9, X9, e9, W9, st9⟩ := stI X8 hx hZ e8 Ar9 (j := (7 : Int32)) hin9 (g := (mkF m 48 #[.val (.int x0), .val (.int x1), .val (.int x2), .unset, .unset, .unset] [(.int (216 : Int32)), (.int (7 : Int32)), (.ref b1), (.ref b1)])) rfl rfl (hb hby at_48)
  have V9 : Arv Z h9 b1 k1 .int (29 : Int32) [(.int (65 : Int32)), (.int (90 : Int32)), (.int (95 : Int32)), (.int (97 : Int32)), (.int (122 : Int32)), (.int (192 : Int32)), (.int (214 : Int32)), (.int (216 : Int32)), (.int (0 : Int32)), (.int (0 : Int32)), (.int (0 : Int32)), (.int (0 : Int32)), (.int (0 : Int32)), (.int (0 : Int32)), (.int (0 : Int32)), (.int (0 : Int32)), (.int (0 : Int32)), (.int (0 : Int32)), (.int (0 : Int32)), (.int (0 : Int32)), (.int (0 : Int32)), (.int (0 : Int32)), (.int (0 : Int32)), (.int (0 : Int32)), (.int (0 : Int32)), (.int (0 : Int32)), (.int (0 : Int32)), (.int (0 : Int32)), (.int (0 : Int32))] (.int (0 : Int32)) := Arv.set Ar9 q9 S9 M9 H9 G9 rfl W9 7 rfl (Nat.le_of_ble_eq_true rfl)
  have K9 : Keep h0 h9 [] := K8.wr W9 (Or.inr sz_b1)
  have Z9 : n0 ≤ h9.size := Nat.le_trans Z0 K9.1
  have N9 := Fr.snoc X9 N8 g_b1
  obtain ⟨J9, X9, N9⟩ := own_hide X9 N9
  refine own_Go.of (g' := (mkF m 49 #[.val (.int x0), .val (.int x1), .val (.int x2), .unset, .unset, .unset] [(.ref b1)])) (fun t k => st9 _ k) ?_
  refine og_dup (pc' := 50) X9 hx (hb hby at_49) rfl rfl ?_
  refine og_bipush (pc' := 52) (n := 8) X9 hx (hb hby at_50) rfl rfl ?_
  refine og_sipush (pc' := 55) (n := 246) X9 hx (hb hby at_52) rfl rfl ?_
  obtain ⟨cl10, Ar10, q10, S10, M10, H10, G10⟩ := id V9
  have hin10 : ¬ ((8 : Int32) < 0 ∨ cl10.slots.size ≤ ((8 : Int32)).toNatClampNeg) := inb_of S10 ⟨by decide, by decide⟩
  obtain ⟨T10, h10, X10, e10, W10, st10⟩ := stI X9 hx hZ e9 Ar10 (j := (8 : Int32)) hin10 (g := (mkF m 55 #[.val (.int x0), .val (.int x1), .val (.int x2), .unset, .unset, .unset] [(.int (246 : Int32)), (.int (8 : Int32)), (.ref b1), (.ref b1)])) rfl rfl (hb hby at_55)
  have V10 : Arv Z h10 b1 k1 .int (29 : Int32) [(.int (65 : Int32)), (.int (90 : Int32)), (.int (95 : Int32)), (.int (97 : Int32)), (.int (122 : Int32)), (.int (192 : Int32)), (.int (214 : Int32)), (.int (216 : Int32)), (.int (246 : Int32)), (.int (0 : Int32)), (.int (0 : Int32)), (.int (0 : Int32)), (.int (0 : Int32)), (.int (0 : Int32)), (.int (0 : Int32)), (.int (0 : Int32)), (.int (0 : Int32)), (.int (0 : Int32)), (.int (0 : Int32)), (.int (0 : Int32)), (.int (0 : Int32)), (.int (0 : Int32)), (.int (0 : Int32)), (.int (0 : Int32)), (.int (0 : Int32)), (.int (0 : Int32)), (.int (0 : Int32)), (.int (0 : Int32)), (.int (0 : Int32))] (.int (0 : Int32)) := Arv.set Ar10 q10 S10 M10 H10 G10 rfl W10 8 rfl (Nat.le_of_ble_eq_true rfl)
  have K10 : Keep h0 h10 [] := K9.wr W10 (Or.inr sz_b1)
  have Z10 : n0 ≤ h10.size := Nat.le_trans Z0 K10.1
  have N10 := Fr.snoc X10 N9 g_b1
  obtain ⟨J10, X10, N10⟩ := own_hide X10 N10
  refine own_Go.of (g' := (mkF m 56 #[.val (.int x0), .val (.int x1), .val (.int x2), .unset, .unset, .unset] [(.ref b1)])) (fun t k => st10 _ k) ?_
  refine og_dup (pc' := 57) X10 hx (hb hby at_56) rfl rfl ?_
  refine og_bipush (pc' := 59) (n := 9) X10 hx (hb hby at_57) rfl rfl ?_
  refine og_sipush (pc' := 62) (n := 248) X10 hx (hb hby at_59) rfl rfl ?_
  obtain ⟨cl11, Ar11, q11, S11, M11, H11, G11⟩ := id V10
  have hin11 : ¬ ((9 : Int32) < 0 ∨ cl11.slots.size ≤ ((9 : Int32)).toNatClampNeg) := inb_of S11 ⟨by decide, by decide⟩
  obtain ⟨T11, h11, X11, e11, W11, st11⟩ := stI X10 hx hZ e10 Ar11 (j := (9 : Int32)) hin11 (g := (mkF m 62 #[.val (.int x0), .val (.int x1), .val (.int x2), .unset, .unset, .unset] [(.int (248 : Int32)), (.int (9 : Int32)), (.ref b1), (.ref b1)])) rfl rfl (hb hby at_62)
  have V11 : Arv Z h11 b1 k1 .int (29 : Int32) [(.int (65 : Int32)), (.int (90 : Int32)), (.int (95 : Int32)), (.int (97 : Int32)), (.int (122 : Int32)), (.int (192 : Int32)), (.int (214 : Int32)), (.int (216 : Int32)), (.int (246 : Int32)), (.int (248 : Int32)), (.int (0 : Int32)), (.int (0 : Int32)), (.int (0 : Int32)), (.int (0 : Int32)), (.int (0 : Int32)), (.int (0 : Int32)), (.int (0 : Int32)), (.int (0 : Int32)), (.int (0 : Int32)), (.int (0 : Int32)), (.int (0 : Int32)), (.int (0 : Int32)), (.int (0 : Int32)), (.int (0 : Int32)), (.int (0 : Int32)), (.int (0 : Int32)), (.int (0 : Int32)), (.int (0 : Int32)), (.int (0 : Int32))] (.int (0 : Int32)) := Arv.set Ar11 q11 S11 M11 H11 G11 rfl W11 9 rfl (Nat.le_of_ble_eq_true rfl)
  have K11 : Keep h0 h11 [] := K10.wr W11 (Or.inr sz_b1)
  have Z11 : n0 ≤ h11.size := Nat.le_trans Z0 K11.1
  have N11 := Fr.snoc X11 N10 g_b1
  obtain ⟨J11, X11, N11⟩ := own_hide X11 N11
  refine own_Go.of (g' := (mkF m 63 #[.val (.int x0), .val (.int x1), .val (.int x2), .unset, .unset, .unset] [(.ref b1)])) (fun t k => st11 _ k) ?_
  refine og_dup (pc' := 64) X11 hx (hb hby at_63) rfl rfl ?_
  refine og_bipush (pc' := 66) (n := 10) X11 hx (hb hby at_64) rfl rfl ?_
  refine og_sipush (pc' := 69) (n := 767) X11 hx (hb hby at_66) rfl rfl ?_
  obtain ⟨cl12, Ar12, q12, S12, M12, H12, G12⟩ := id V11
  have hin12 : ¬ ((10 : Int32) < 0 ∨ cl12.slots.size ≤ ((10 : Int32)).toNatClampNeg) := inb_of S12 ⟨by decide, by decide⟩
  obtain ⟨T12, h12, X12, e12, W12, st12⟩ := stI X11 hx hZ e11 Ar12 (j := (10 : Int32)) hin12 (g := (mkF m 69 #[.val (.int x0), .val (.int x1), .val (.int x2), .unset, .unset, .unset] [(.int (767 : Int32)), (.int (10 : Int32)), (.ref b1), (.ref b1)])) rfl rfl (hb hby at_69)
  have V12 : Arv Z h12 b1 k1 .int (29 : Int32) [(.int (65 : Int32)), (.int (90 : Int32)), (.int (95 : Int32)), (.int (97 : Int32)), (.int (122 : Int32)), (.int (192 : Int32)), (.int (214 : Int32)), (.int (216 : Int32)), (.int (246 : Int32)), (.int (248 : Int32)), (.int (767 : Int32)), (.int (0 : Int32)), (.int (0 : Int32)), (.int (0 : Int32)), (.int (0 : Int32)), (.int (0 : Int32)), (.int (0 : Int32)), (.int (0 : Int32)), (.int (0 : Int32)), (.int (0 : Int32)), (.int (0 : Int32)), (.int (0 : Int32)), (.int (0 : Int32)), (.int (0 : Int32)), (.int (0 : Int32)), (.int (0 : Int32)), (.int (0 : Int32)), (.int (0 : Int32)), (.int (0 : Int32))] (.int (0 : Int32)) := Arv.set Ar12 q12 S12 M12 H12 G12 rfl W12 10 rfl (Nat.le_of_ble_eq_true rfl)
  have K12 : Keep h0 h12 [] := K11.wr W12 (Or.inr sz_b1)
  have Z12 : n0 ≤ h12.size := Nat.le_trans Z0 K12.1
  have N12 := Fr.snoc X12 N11 g_b1
  obtain ⟨J12, X12, N12⟩ := own_hide X12 N12
  refine own_Go.of (g' := (mkF m 70 #[.val (.int x0), .val (.int x1), .val (.int x2), .unset, .unset, .unset] [(.ref b1)])) (fun t k => st12 _ k) ?_
  refine og_dup (pc' := 71) X12 hx (hb hby at_70) rfl rfl ?_
  refine og_bipush (pc' := 73) (n := 11) X12 hx (hb hby at_71) rfl rfl ?_
  refine og_sipush (pc' := 76) (n := 880) X12 hx (hb hby at_73) rfl rfl ?_
  obtain ⟨cl13, Ar13, q13, S13, M13, H13, G13⟩ := id V12
  have hin13 : ¬ ((11 : Int32) < 0 ∨ cl13.slots.size ≤ ((11 : Int32)).toNatClampNeg) := inb_of S13 ⟨by decide, by decide⟩
  obtain ⟨T13, h13, X13, e13, W13, st13⟩ := stI X12 hx hZ e12 Ar13 (j := (11 : Int32)) hin13 (g := (mkF m 76 #[.val (.int x0), .val (.int x1), .val (.int x2), .unset, .unset, .unset] [(.int (880 : Int32)), (.int (11 : Int32)), (.ref b1), (.ref b1)])) rfl rfl (hb hby at_76)
  have V13 : Arv Z h13 b1 k1 .int (29 : Int32) [(.int (65 : Int32)), (.int (90 : Int32)), (.int (95 : Int32)), (.int (97 : Int32)), (.int (122 : Int32)), (.int (192 : Int32)), (.int (214 : Int32)), (.int (216 : Int32)), (.int (246 : Int32)), (.int (248 : Int32)), (.int (767 : Int32)), (.int (880 : Int32)), (.int (0 : Int32)), (.int (0 : Int32)), (.int (0 : Int32)), (.int (0 : Int32)), (.int (0 : Int32)), (.int (0 : Int32)), (.int (0 : Int32)), (.int (0 : Int32)), (.int (0 : Int32)), (.int (0 : Int32)), (.int (0 : Int32)), (.int (0 : Int32)), (.int (0 : Int32)), (.int (0 : Int32)), (.int (0 : Int32)), (.int (0 : Int32)), (.int (0 : Int32))] (.int (0 : Int32)) := Arv.set Ar13 q13 S13 M13 H13 G13 rfl W13 11 rfl (Nat.le_of_ble_eq_true rfl)
  have K13 : Keep h0 h13 [] := K12.wr W13 (Or.inr sz_b1)
  have Z13 : n0 ≤ h13.size := Nat.le_trans Z0 K13.1
  have N13 := Fr.snoc X13 N12 g_b1
  obtain ⟨J13, X13, N13⟩ := own_hide X13 N13
  refine own_Go.of (g' := (mkF m 77 #[.val (.int x0), .val (.int x1), .val (.int x2), .unset, .unset, .unset] [(.ref b1)])) (fun t k => st13 _ k) ?_
  refine og_dup (pc' := 78) X13 hx (hb hby at_77) rfl rfl ?_
  refine og_bipush (pc' := 80) (n := 12) X13 hx (hb hby at_78) rfl rfl ?_
  refine og_sipush (pc' := 83) (n := 893) X13 hx (hb hby at_80) rfl rfl ?_
  obtain ⟨cl14, Ar14, q14, S14, M14, H14, G14⟩ := id V13
  have hin14 : ¬ ((12 : Int32) < 0 ∨ cl14.slots.size ≤ ((12 : Int32)).toNatClampNeg) := inb_of S14 ⟨by decide, by decide⟩
  obtain ⟨T14, h14, X14, e14, W14, st14⟩ := stI X13 hx hZ e13 Ar14 (j := (12 : Int32)) hin14 (g := (mkF m 83 #[.val (.int x0), .val (.int x1), .val (.int x2), .unset, .unset, .unset] [(.int (893 : Int32)), (.int (12 : Int32)), (.ref b1), (.ref b1)])) rfl rfl (hb hby at_83)
  have V14 : Arv Z h14 b1 k1 .int (29 : Int32) [(.int (65 : Int32)), (.int (90 : Int32)), (.int (95 : Int32)), (.int (97 : Int32)), (.int (122 : Int32)), (.int (192 : Int32)), (.int (214 : Int32)), (.int (216 : Int32)), (.int (246 : Int32)), (.int (248 : Int32)), (.int (767 : Int32)), (.int (880 : Int32)), (.int (893 : Int32)), (.int (0 : Int32)), (.int (0 : Int32)), (.int (0 : Int32)), (.int (0 : Int32)), (.int (0 : Int32)), (.int (0 : Int32)), (.int (0 : Int32)), (.int (0 : Int32)), (.int (0 : Int32)), (.int (0 : Int32)), (.int (0 : Int32)), (.int (0 : Int32)), (.int (0 : Int32)), (.int (0 : Int32)), (.int (0 : Int32)), (.int (0 : Int32))] (.int (0 : Int32)) := Arv.set Ar14 q14 S14 M14 H14 G14 rfl W14 12 rfl (Nat.le_of_ble_eq_true rfl)
  have K14 : Keep h0 h14 [] := K13.wr W14 (Or.inr sz_b1)
  have Z14 : n0 ≤ h14.size := Nat.le_trans Z0 K14.1
  have N14 := Fr.snoc X14 N13 g_b1
  obtain ⟨J14, X14, N14⟩ := own_hide X14 N14
  refine own_Go.of (g' := (mkF m 84 #[.val (.int x0), .val (.int x1), .val (.int x2), .unset, .unset, .unset] [(.ref b1)])) (fun t k => st14 _ k) ?_
  refine og_dup (pc' := 85) X14 hx (hb hby at_84) rfl rfl ?_
  refine og_bipush (pc' := 87) (n := 13) X14 hx (hb hby at_85) rfl rfl ?_
  refine og_sipush (pc' := 90) (n := 895) X14 hx (hb hby at_87) rfl rfl ?_
  obtain ⟨cl15, Ar15, q15, S15, M15, H15, G15⟩ := id V14
  have hin15 : ¬ ((13 : Int32) < 0 ∨ cl15.slots.size ≤ ((13 : Int32)).toNatClampNeg) := inb_of S15 ⟨by decide, by decide⟩
  obtain ⟨T15, h15, X15, e15, W15, st15⟩ := stI X14 hx hZ e14 Ar15 (j := (13 : Int32)) hin15 (g := (mkF m 90 #[.val (.int x0), .val (.int x1), .val (.int x2), .unset, .unset, .unset] [(.int (895 : Int32)), (.int (13 : Int32)), (.ref b1), (.ref b1)])) rfl rfl (hb hby at_90)
  have V15 : Arv Z h15 b1 k1 .int (29 : Int32) [(.int (65 : Int32)), (.int (90 : Int32)), (.int (95 : Int32)), (.int (97 : Int32)), (.int (122 : Int32)), (.int (192 : Int32)), (.int (214 : Int32)), (.int (216 : Int32)), (.int (246 : Int32)), (.int (248 : Int32)), (.int (767 : Int32)), (.int (880 : Int32)), (.int (893 : Int32)), (.int (895 : Int32)), (.int (0 : Int32)), (.int (0 : Int32)), (.int (0 : Int32)), (.int (0 : Int32)), (.int (0 : Int32)), (.int (0 : Int32)), (.int (0 : Int32)), (.int (0 : Int32)), (.int (0 : Int32)), (.int (0 : Int32)), (.int (0 : Int32)), (.int (0 : Int32)), (.int (0 : Int32)), (.int (0 : Int32)), (.int (0 : Int32))] (.int (0 : Int32)) := Arv.set Ar15 q15 S15 M15 H15 G15 rfl W15 13 rfl (Nat.le_of_ble_eq_true rfl)
  have K15 : Keep h0 h15 [] := K14.wr W15 (Or.inr sz_b1)
  have Z15 : n0 ≤ h15.size := Nat.le_trans Z0 K15.1
  have N15 := Fr.snoc X15 N14 g_b1
  obtain ⟨J15, X15, N15⟩ := own_hide X15 N15
  refine own_Go.of (g' := (mkF m 91 #[.val (.int x0), .val (.int x1), .val (.int x2), .unset, .unset, .unset] [(.ref b1)])) (fun t k => st15 _ k) ?_
  refine og_dup (pc' := 92) X15 hx (hb hby at_91) rfl rfl ?_
  refine og_bipush (pc' := 94) (n := 14) X15 hx (hb hby at_92) rfl rfl ?_
  refine og_sipush (pc' := 97) (n := 8191) X15 hx (hb hby at_94) rfl rfl ?_
  obtain ⟨cl16, Ar16, q16, S16, M16, H16, G16⟩ := id V15
  have hin16 : ¬ ((14 : Int32) < 0 ∨ cl16.slots.size ≤ ((14 : Int32)).toNatClampNeg) := inb_of S16 ⟨by decide, by decide⟩
  obtain ⟨T16, h16, X16, e16, W16, st16⟩ := stI X15 hx hZ e15 Ar16 (j := (14 : Int32)) hin16 (g := (mkF m 97 #[.val (.int x0), .val (.int x1), .val (.int x2), .unset, .unset, .unset] [(.int (8191 : Int32)), (.int (14 : Int32)), (.ref b1), (.ref b1)])) rfl rfl (hb hby at_97)
  have V16 : Arv Z h16 b1 k1 .int (29 : Int32) [(.int (65 : Int32)), (.int (90 : Int32)), (.int (95 : Int32)), (.int (97 : Int32)), (.int (122 : Int32)), (.int (192 : Int32)), (.int (214 : Int32)), (.int (216 : Int32)), (.int (246 : Int32)), (.int (248 : Int32)), (.int (767 : Int32)), (.int (880 : Int32)), (.int (893 : Int32)), (.int (895 : Int32)), (.int (8191 : Int32)), (.int (0 : Int32)), (.int (0 : Int32)), (.int (0 : Int32)), (.int (0 : Int32)), (.int (0 : Int32)), (.int (0 : Int32)), (.int (0 : Int32)), (.int (0 : Int32)), (.int (0 : Int32)), (.int (0 : Int32)), (.int (0 : Int32)), (.int (0 : Int32)), (.int (0 : Int32)), (.int (0 : Int32))] (.int (0 : Int32)) := Arv.set Ar16 q16 S16 M16 H16 G16 rfl W16 14 rfl (Nat.le_of_ble_eq_true rfl)
  have K16 : Keep h0 h16 [] := K15.wr W16 (Or.inr sz_b1)
  have Z16 : n0 ≤ h16.size := Nat.le_trans Z0 K16.1
  have N16 := Fr.snoc X16 N15 g_b1
  obtain ⟨J16, X16, N16⟩ := own_hide X16 N16
  refine own_Go.of (g' := (mkF m 98 #[.val (.int x0), .val (.int x1), .val (.int x2), .unset, .unset, .unset] [(.ref b1)])) (fun t k => st16 _ k) ?_
  refine og_dup (pc' := 99) X16 hx (hb hby at_98) rfl rfl ?_
  refine og_bipush (pc' := 101) (n := 15) X16 hx (hb hby at_99) rfl rfl ?_
  refine og_sipush (pc' := 104) (n := 8204) X16 hx (hb hby at_101) rfl rfl ?_
  obtain ⟨cl17, Ar17, q17, S17, M17, H17, G17⟩ := id V16
  have hin17 : ¬ ((15 : Int32) < 0 ∨ cl17.slots.size ≤ ((15 : Int32)).toNatClampNeg) := inb_of S17 ⟨by decide, by decide⟩
  obtain ⟨T17, h17, X17, e17, W17, st17⟩ := stI X16 hx hZ e16 Ar17 (j := (15 : Int32)) hin17 (g := (mkF m 104 #[.val (.int x0), .val (.int x1), .val (.int x2), .unset, .unset, .unset] [(.int (8204 : Int32)), (.int (15 : Int32)), (.ref b1), (.ref b1)])) rfl rfl (hb hby at_104)
  have V17 : Arv Z h17 b1 k1 .int (29 : Int32) [(.int (65 : Int32)), (.int (90 : Int32)), (.int (95 : Int32)), (.int (97 : Int32)), (.int (122 : Int32)), (.int (192 : Int32)), (.int (214 : Int32)), (.int (216 : Int32)), (.int (246 : Int32)), (.int (248 : Int32)), (.int (767 : Int32)), (.int (880 : Int32)), (.int (893 : Int32)), (.int (895 : Int32)), (.int (8191 : Int32)), (.int (8204 : Int32)), (.int (0 : Int32)), (.int (0 : Int32)), (.int (0 : Int32)), (.int (0 : Int32)), (.int (0 : Int32)), (.int (0 : Int32)), (.int (0 : Int32)), (.int (0 : Int32)), (.int (0 : Int32)), (.int (0 : Int32)), (.int (0 : Int32)), (.int (0 : Int32)), (.int (0 : Int32))] (.int (0 : Int32)) := Arv.set Ar17 q17 S17 M17 H17 G17 rfl W17 15 rfl (Nat.le_of_ble_eq_true rfl)
  have K17 : Keep h0 h17 [] := K16.wr W17 (Or.inr sz_b1)
  have Z17 : n0 ≤ h17.size := Nat.le_trans Z0 K17.1
  have N17 := Fr.snoc X17 N16 g_b1
  obtain ⟨J17, X17, N17⟩ := own_hide X17 N17
  refine own_Go.of (g' := (mkF m 105 #[.val (.int x0), .val (.int x1), .val (.int x2), .unset, .unset, .unset] [(.ref b1)])) (fun t k => st17 _ k) ?_
  refine og_dup (pc' := 106) X17 hx (hb hby at_105) rfl rfl ?_
  refine og_bipush (pc' := 108) (n := 16) X17 hx (hb hby at_106) rfl rfl ?_
  refine og_sipush (pc' := 111) (n := 8205) X17 hx (hb hby at_108) rfl rfl ?_
  obtain ⟨cl18, Ar18, q18, S18, M18, H18, G18⟩ := id V17
  have hin18 : ¬ ((16 : Int32) < 0 ∨ cl18.slots.size ≤ ((16 : Int32)).toNatClampNeg) := inb_of S18 ⟨by decide, by decide⟩
  obtain ⟨T18, h18, X18, e18, W18, st18⟩ := stI X17 hx hZ e17 Ar18 (j := (16 : Int32)) hin18 (g := (mkF m 111 #[.val (.int x0), .val (.int x1), .val (.int x2), .unset, .unset, .unset] [(.int (8205 : Int32)), (.int (16 : Int32)), (.ref b1), (.ref b1)])) rfl rfl (hb hby at_111)
  have V18 : Arv Z h18 b1 k1 .int (29 : Int32) [(.int (65 : Int32)), (.int (90 : Int32)), (.int (95 : Int32)), (.int (97 : Int32)), (.int (122 : Int32)), (.int (192 : Int32)), (.int (214 : Int32)), (.int (216 : Int32)), (.int (246 : Int32)), (.int (248 : Int32)), (.int (767 : Int32)), (.int (880 : Int32)), (.int (893 : Int32)), (.int (895 : Int32)), (.int (8191 : Int32)), (.int (8204 : Int32)), (.int (8205 : Int32)), (.int (0 : Int32)), (.int (0 : Int32)), (.int (0 : Int32)), (.int (0 : Int32)), (.int (0 : Int32)), (.int (0 : Int32)), (.int (0 : Int32)), (.int (0 : Int32)), (.int (0 : Int32)), (.int (0 : Int32)), (.int (0 : Int32)), (.int (0 : Int32))] (.int (0 : Int32)) := Arv.set Ar18 q18 S18 M18 H18 G18 rfl W18 16 rfl (Nat.le_of_ble_eq_true rfl)
  have K18 : Keep h0 h18 [] := K17.wr W18 (Or.inr sz_b1)
  have Z18 : n0 ≤ h18.size := Nat.le_trans Z0 K18.1
  have N18 := Fr.snoc X18 N17 g_b1
  obtain ⟨J18, X18, N18⟩ := own_hide X18 N18
  refine own_Go.of (g' := (mkF m 112 #[.val (.int x0), .val (.int x1), .val (.int x2), .unset, .unset, .unset] [(.ref b1)])) (fun t k => st18 _ k) ?_
  refine og_dup (pc' := 113) X18 hx (hb hby at_112) rfl rfl ?_
  refine og_bipush (pc' := 115) (n := 17) X18 hx (hb hby at_113) rfl rfl ?_
  refine og_sipush (pc' := 118) (n := 8304) X18 hx (hb hby at_115) rfl rfl ?_
  obtain ⟨cl19, Ar19, q19, S19, M19, H19, G19⟩ := id V18
  have hin19 : ¬ ((17 : Int32) < 0 ∨ cl19.slots.size ≤ ((17 : Int32)).toNatClampNeg) := inb_of S19 ⟨by decide, by decide⟩
  obtain ⟨T19, h19, X19, e19, W19, st19⟩ := stI X18 hx hZ e18 Ar19 (j := (17 : Int32)) hin19 (g := (mkF m 118 #[.val (.int x0), .val (.int x1), .val (.int x2), .unset, .unset, .unset] [(.int (8304 : Int32)), (.int (17 : Int32)), (.ref b1), (.ref b1)])) rfl rfl (hb hby at_118)
  have V19 : Arv Z h19 b1 k1 .int (29 : Int32) [(.int (65 : Int32)), (.int (90 : Int32)), (.int (95 : Int32)), (.int (97 : Int32)), (.int (122 : Int32)), (.int (192 : Int32)), (.int (214 : Int32)), (.int (216 : Int32)), (.int (246 : Int32)), (.int (248 : Int32)), (.int (767 : Int32)), (.int (880 : Int32)), (.int (893 : Int32)), (.int (895 : Int32)), (.int (8191 : Int32)), (.int (8204 : Int32)), (.int (8205 : Int32)), (.int (8304 : Int32)), (.int (0 : Int32)), (.int (0 : Int32)), (.int (0 : Int32)), (.int (0 : Int32)), (.int (0 : Int32)), (.int (0 : Int32)), (.int (0 : Int32)), (.int (0 : Int32)), (.int (0 : Int32)), (.int (0 : Int32)), (.int (0 : Int32))] (.int (0 : Int32)) := Arv.set Ar19 q19 S19 M19 H19 G19 rfl W19 17 rfl (Nat.le_of_ble_eq_true rfl)
  have K19 : Keep h0 h19 [] := K18.wr W19 (Or.inr sz_b1)
  have Z19 : n0 ≤ h19.size := Nat.le_trans Z0 K19.1
  have N19 := Fr.snoc X19 N18 g_b1
  obtain ⟨J19, X19, N19⟩ := own_hide X19 N19
  refine own_Go.of (g' := (mkF m 119 #[.val (.int x0), .val (.int x1), .val (.int x2), .unset, .unset, .unset] [(.ref b1)])) (fun t k => st19 _ k) ?_
  refine og_dup (pc' := 120) X19 hx (hb hby at_119) rfl rfl ?_
  refine og_bipush (pc' := 122) (n := 18) X19 hx (hb hby at_120) rfl rfl ?_
  refine og_sipush (pc' := 125) (n := 8591) X19 hx (hb hby at_122) rfl rfl ?_
  obtain ⟨cl20, Ar20, q20, S20, M20, H20, G20⟩ := id V19
  have hin20 : ¬ ((18 : Int32) < 0 ∨ cl20.slots.size ≤ ((18 : Int32)).toNatClampNeg) := inb_of S20 ⟨by decide, by decide⟩
  obtain ⟨T20, h20, X20, e20, W20, st20⟩ := stI X19 hx hZ e19 Ar20 (j := (18 : Int32)) hin20 (g := (mkF m 125 #[.val (.int x0), .val (.int x1), .val (.int x2), .unset, .unset, .unset] [(.int (8591 : Int32)), (.int (18 : Int32)), (.ref b1), (.ref b1)])) rfl rfl (hb hby at_125)
  have V20 : Arv Z h20 b1 k1 .int (29 : Int32) [(.int (65 : Int32)), (.int (90 : Int32)), (.int (95 : Int32)), (.int (97 : Int32)), (.int (122 : Int32)), (.int (192 : Int32)), (.int (214 : Int32)), (.int (216 : Int32)), (.int (246 : Int32)), (.int (248 : Int32)), (.int (767 : Int32)), (.int (880 : Int32)), (.int (893 : Int32)), (.int (895 : Int32)), (.int (8191 : Int32)), (.int (8204 : Int32)), (.int (8205 : Int32)), (.int (8304 : Int32)), (.int (8591 : Int32)), (.int (0 : Int32)), (.int (0 : Int32)), (.int (0 : Int32)), (.int (0 : Int32)), (.int (0 : Int32)), (.int (0 : Int32)), (.int (0 : Int32)), (.int (0 : Int32)), (.int (0 : Int32)), (.int (0 : Int32))] (.int (0 : Int32)) := Arv.set Ar20 q20 S20 M20 H20 G20 rfl W20 18 rfl (Nat.le_of_ble_eq_true rfl)
  have K20 : Keep h0 h20 [] := K19.wr W20 (Or.inr sz_b1)
  have Z20 : n0 ≤ h20.size := Nat.le_trans Z0 K20.1
  have N20 := Fr.snoc X20 N19 g_b1
  obtain ⟨J20, X20, N20⟩ := own_hide X20 N20
  refine own_Go.of (g' := (mkF m 126 #[.val (.int x0), .val (.int x1), .val (.int x2), .unset, .unset, .unset] [(.ref b1)])) (fun t k => st20 _ k) ?_
  refine og_dup (pc' := 127) X20 hx (hb hby at_126) rfl rfl ?_
  refine og_bipush (pc' := 129) (n := 19) X20 hx (hb hby at_127) rfl rfl ?_
  refine og_sipush (pc' := 132) (n := 11264) X20 hx (hb hby at_129) rfl rfl ?_
  obtain ⟨cl21, Ar21, q21, S21, M21, H21, G21⟩ := id V20
  have hin21 : ¬ ((19 : Int32) < 0 ∨ cl21.slots.size ≤ ((19 : Int32)).toNatClampNeg) := inb_of S21 ⟨by decide, by decide⟩
  obtain ⟨T21, h21, X21, e21, W21, st21⟩ := stI X20 hx hZ e20 Ar21 (j := (19 : Int32)) hin21 (g := (mkF m 132 #[.val (.int x0), .val (.int x1), .val (.int x2), .unset, .unset, .unset] [(.int (11264 : Int32)), (.int (19 : Int32)), (.ref b1), (.ref b1)])) rfl rfl (hb hby at_132)
  have V21 : Arv Z h21 b1 k1 .int (29 : Int32) [(.int (65 : Int32)), (.int (90 : Int32)), (.int (95 : Int32)), (.int (97 : Int32)), (.int (122 : Int32)), (.int (192 : Int32)), (.int (214 : Int32)), (.int (216 : Int32)), (.int (246 : Int32)), (.int (248 : Int32)), (.int (767 : Int32)), (.int (880 : Int32)), (.int (893 : Int32)), (.int (895 : Int32)), (.int (8191 : Int32)), (.int (8204 : Int32)), (.int (8205 : Int32)), (.int (8304 : Int32)), (.int (8591 : Int32)), (.int (11264 : Int32)), (.int (0 : Int32)), (.int (0 : Int32)), (.int (0 : Int32)), (.int (0 : Int32)), (.int (0 : Int32)), (.int (0 : Int32)), (.int (0 : Int32)), (.int (0 : Int32)), (.int (0 : Int32))] (.int (0 : Int32)) := Arv.set Ar21 q21 S21 M21 H21 G21 rfl W21 19 rfl (Nat.le_of_ble_eq_true rfl)
  have K21 : Keep h0 h21 [] := K20.wr W21 (Or.inr sz_b1)
  have Z21 : n0 ≤ h21.size := Nat.le_trans Z0 K21.1
  have N21 := Fr.snoc X21 N20 g_b1
  obtain ⟨J21, X21, N21⟩ := own_hide X21 N21
  refine own_Go.of (g' := (mkF m 133 #[.val (.int x0), .val (.int x1), .val (.int x2), .unset, .unset, .unset] [(.ref b1)])) (fun t k => st21 _ k) ?_
  refine og_dup (pc' := 134) X21 hx (hb hby at_133) rfl rfl ?_
  refine og_bipush (pc' := 136) (n := 20) X21 hx (hb hby at_134) rfl rfl ?_
  refine og_sipush (pc' := 139) (n := 12271) X21 hx (hb hby at_136) rfl rfl ?_
  obtain ⟨cl22, Ar22, q22, S22, M22, H22, G22⟩ := id V21
  have hin22 : ¬ ((20 : Int32) < 0 ∨ cl22.slots.size ≤ ((20 : Int32)).toNatClampNeg) := inb_of S22 ⟨by decide, by decide⟩
  obtain ⟨T22, h22, X22, e22, W22, st22⟩ := stI X21 hx hZ e21 Ar22 (j := (20 : Int32)) hin22 (g := (mkF m 139 #[.val (.int x0), .val (.int x1), .val (.int x2), .unset, .unset, .unset] [(.int (12271 : Int32)), (.int (20 : Int32)), (.ref b1), (.ref b1)])) rfl rfl (hb hby at_139)
  have V22 : Arv Z h22 b1 k1 .int (29 : Int32) [(.int (65 : Int32)), (.int (90 : Int32)), (.int (95 : Int32)), (.int (97 : Int32)), (.int (122 : Int32)), (.int (192 : Int32)), (.int (214 : Int32)), (.int (216 : Int32)), (.int (246 : Int32)), (.int (248 : Int32)), (.int (767 : Int32)), (.int (880 : Int32)), (.int (893 : Int32)), (.int (895 : Int32)), (.int (8191 : Int32)), (.int (8204 : Int32)), (.int (8205 : Int32)), (.int (8304 : Int32)), (.int (8591 : Int32)), (.int (11264 : Int32)), (.int (12271 : Int32)), (.int (0 : Int32)), (.int (0 : Int32)), (.int (0 : Int32)), (.int (0 : Int32)), (.int (0 : Int32)), (.int (0 : Int32)), (.int (0 : Int32)), (.int (0 : Int32))] (.int (0 : Int32)) := Arv.set Ar22 q22 S22 M22 H22 G22 rfl W22 20 rfl (Nat.le_of_ble_eq_true rfl)
  have K22 : Keep h0 h22 [] := K21.wr W22 (Or.inr sz_b1)
  have Z22 : n0 ≤ h22.size := Nat.le_trans Z0 K22.1
  have N22 := Fr.snoc X22 N21 g_b1
  obtain ⟨J22, X22, N22⟩ := own_hide X22 N22
  refine own_Go.of (g' := (mkF m 140 #[.val (.int x0), .val (.int x1), .val (.int x2), .unset, .unset, .unset] [(.ref b1)])) (fun t k => st22 _ k) ?_
  refine og_dup (pc' := 141) X22 hx (hb hby at_140) rfl rfl ?_
  refine og_bipush (pc' := 143) (n := 21) X22 hx (hb hby at_141) rfl rfl ?_
  refine og_sipush (pc' := 146) (n := 12289) X22 hx (hb hby at_143) rfl rfl ?_
  obtain ⟨cl23, Ar23, q23, S23, M23, H23, G23⟩ := id V22
  have hin23 : ¬ ((21 : Int32) < 0 ∨ cl23.slots.size ≤ ((21 : Int32)).toNatClampNeg) := inb_of S23 ⟨by decide, by decide⟩
  obtain ⟨T23, h23, X23, e23, W23, st23⟩ := stI X22 hx hZ e22 Ar23 (j := (21 : Int32)) hin23 (g := (mkF m 146 #[.val (.int x0), .val (.int x1), .val (.int x2), .unset, .unset, .unset] [(.int (12289 : Int32)), (.int (21 : Int32)), (.ref b1), (.ref b1)])) rfl rfl (hb hby at_146)
  have V23 : Arv Z h23 b1 k1 .int (29 : Int32) [(.int (65 : Int32)), (.int (90 : Int32)), (.int (95 : Int32)), (.int (97 : Int32)), (.int (122 : Int32)), (.int (192 : Int32)), (.int (214 : Int32)), (.int (216 : Int32)), (.int (246 : Int32)), (.int (248 : Int32)), (.int (767 : Int32)), (.int (880 : Int32)), (.int (893 : Int32)), (.int (895 : Int32)), (.int (8191 : Int32)), (.int (8204 : Int32)), (.int (8205 : Int32)), (.int (8304 : Int32)), (.int (8591 : Int32)), (.int (11264 : Int32)), (.int (12271 : Int32)), (.int (12289 : Int32)), (.int (0 : Int32)), (.int (0 : Int32)), (.int (0 : Int32)), (.int (0 : Int32)), (.int (0 : Int32)), (.int (0 : Int32)), (.int (0 : Int32))] (.int (0 : Int32)) := Arv.set Ar23 q23 S23 M23 H23 G23 rfl W23 21 rfl (Nat.le_of_ble_eq_true rfl)
  have K23 : Keep h0 h23 [] := K22.wr W23 (Or.inr sz_b1)
  have Z23 : n0 ≤ h23.size := Nat.le_trans Z0 K23.1
  have N23 := Fr.snoc X23 N22 g_b1
  obtain ⟨J23, X23, N23⟩ := own_hide X23 N23
  refine own_Go.of (g' := (mkF m 147 #[.val (.int x0), .val (.int x1), .val (.int x2), .unset, .unset, .unset] [(.ref b1)])) (fun t k => st23 _ k) ?_
  refine og_dup (pc' := 148) X23 hx (hb hby at_147) rfl rfl ?_
  refine og_bipush (pc' := 150) (n := 22) X23 hx (hb hby at_148) rfl rfl ?_
  refine og_ldc (pc' := 152) X23 hx (hb hby at_150) hown (mvT hZ (hw _ (List.mem_of_getElem? (i := 1) rfl))) rfl ?_
  obtain ⟨cl24, Ar24, q24, S24, M24, H24, G24⟩ := id V23
  have hin24 : ¬ ((22 : Int32) < 0 ∨ cl24.slots.size ≤ ((22 : Int32)).toNatClampNeg) := inb_of S24 ⟨by decide, by decide⟩
  obtain ⟨T24, h24, X24, e24, W24, st24⟩ := stI X23 hx hZ e23 Ar24 (j := (22 : Int32)) hin24 (g := (mkF m 152 #[.val (.int x0), .val (.int x1), .val (.int x2), .unset, .unset, .unset] [(.int (55295 : Int32)), (.int (22 : Int32)), (.ref b1), (.ref b1)])) rfl rfl (hb hby at_152)
  have V24 : Arv Z h24 b1 k1 .int (29 : Int32) [(.int (65 : Int32)), (.int (90 : Int32)), (.int (95 : Int32)), (.int (97 : Int32)), (.int (122 : Int32)), (.int (192 : Int32)), (.int (214 : Int32)), (.int (216 : Int32)), (.int (246 : Int32)), (.int (248 : Int32)), (.int (767 : Int32)), (.int (880 : Int32)), (.int (893 : Int32)), (.int (895 : Int32)), (.int (8191 : Int32)), (.int (8204 : Int32)), (.int (8205 : Int32)), (.int (8304 : Int32)), (.int (8591 : Int32)), (.int (11264 : Int32)), (.int (12271 : Int32)), (.int (12289 : Int32)), (.int (55295 : Int32)), (.int (0 : Int32)), (.int (0 : Int32)), (.int (0 : Int32)), (.int (0 : Int32)), (.int (0 : Int32)), (.int (0 : Int32))] (.int (0 : Int32)) := Arv.set Ar24 q24 S24 M24 H24 G24 rfl W24 22 rfl (Nat.le_of_ble_eq_true rfl)
  have K24 : Keep h0 h24 [] := K23.wr W24 (Or.inr sz_b1)
  have Z24 : n0 ≤ h24.size := Nat.le_trans Z0 K24.1
  have N24 := Fr.snoc X24 N23 g_b1
  obtain ⟨J24, X24, N24⟩ := own_hide X24 N24
  refine own_Go.of (g' := (mkF m 153 #[.val (.int x0), .val (.int x1), .val (.int x2), .unset, .unset, .unset] [(.ref b1)])) (fun t k => st24 _ k) ?_
  refine og_dup (pc' := 154) X24 hx (hb hby at_153) rfl rfl ?_
  refine og_bipush (pc' := 156) (n := 23) X24 hx (hb hby at_154) rfl rfl ?_
  refine og_ldc (pc' := 158) X24 hx (hb hby at_156) hown (mvT hZ (hw _ (List.mem_of_getElem? (i := 2) rfl))) rfl ?_
  obtain ⟨cl25, Ar25, q25, S25, M25, H25, G25⟩ := id V24
  have hin25 : ¬ ((23 : Int32) < 0 ∨ cl25.slots.size ≤ ((23 : Int32)).toNatClampNeg) := inb_of S25 ⟨by decide, by decide⟩
  obtain ⟨T25, h25, X25, e25, W25, st25⟩ := stI X24 hx hZ e24 Ar25 (j := (23 : Int32)) hin25 (g := (mkF m 158 #[.val (.int x0), .val (.int x1), .val (.int x2), .unset, .unset, .unset] [(.int (63744 : Int32)), (.int (23 : Int32)), (.ref b1), (.ref b1)])) rfl rfl (hb hby at_158)
  have V25 : Arv Z h25 b1 k1 .int (29 : Int32) [(.int (65 : Int32)), (.int (90 : Int32)), (.int (95 : Int32)), (.int (97 : Int32)), (.int (122 : Int32)), (.int (192 : Int32)), (.int (214 : Int32)), (.int (216 : Int32)), (.int (246 : Int32)), (.int (248 : Int32)), (.int (767 : Int32)), (.int (880 : Int32)), (.int (893 : Int32)), (.int (895 : Int32)), (.int (8191 : Int32)), (.int (8204 : Int32)), (.int (8205 : Int32)), (.int (8304 : Int32)), (.int (8591 : Int32)), (.int (11264 : Int32)), (.int (12271 : Int32)), (.int (12289 : Int32)), (.int (55295 : Int32)), (.int (63744 : Int32)), (.int (0 : Int32)), (.int (0 : Int32)), (.int (0 : Int32)), (.int (0 : Int32)), (.int (0 : Int32))] (.int (0 : Int32)) := Arv.set Ar25 q25 S25 M25 H25 G25 rfl W25 23 rfl (Nat.le_of_ble_eq_true rfl)
  have K25 : Keep h0 h25 [] := K24.wr W25 (Or.inr sz_b1)
  have Z25 : n0 ≤ h25.size := Nat.le_trans Z0 K25.1
  have N25 := Fr.snoc X25 N24 g_b1
  obtain ⟨J25, X25, N25⟩ := own_hide X25 N25
  refine own_Go.of (g' := (mkF m 159 #[.val (.int x0), .val (.int x1), .val (.int x2), .unset, .unset, .unset] [(.ref b1)])) (fun t k => st25 _ k) ?_
  refine og_dup (pc' := 160) X25 hx (hb hby at_159) rfl rfl ?_
  refine og_bipush (pc' := 162) (n := 24) X25 hx (hb hby at_160) rfl rfl ?_
  refine og_ldc (pc' := 164) X25 hx (hb hby at_162) hown (mvT hZ (hw _ (List.mem_of_getElem? (i := 3) rfl))) rfl ?_
  obtain ⟨cl26, Ar26, q26, S26, M26, H26, G26⟩ := id V25
  have hin26 : ¬ ((24 : Int32) < 0 ∨ cl26.slots.size ≤ ((24 : Int32)).toNatClampNeg) := inb_of S26 ⟨by decide, by decide⟩
  obtain ⟨T26, h26, X26, e26, W26, st26⟩ := stI X25 hx hZ e25 Ar26 (j := (24 : Int32)) hin26 (g := (mkF m 164 #[.val (.int x0), .val (.int x1), .val (.int x2), .unset, .unset, .unset] [(.int (64975 : Int32)), (.int (24 : Int32)), (.ref b1), (.ref b1)])) rfl rfl (hb hby at_164)
  have V26 : Arv Z h26 b1 k1 .int (29 : Int32) [(.int (65 : Int32)), (.int (90 : Int32)), (.int (95 : Int32)), (.int (97 : Int32)), (.int (122 : Int32)), (.int (192 : Int32)), (.int (214 : Int32)), (.int (216 : Int32)), (.int (246 : Int32)), (.int (248 : Int32)), (.int (767 : Int32)), (.int (880 : Int32)), (.int (893 : Int32)), (.int (895 : Int32)), (.int (8191 : Int32)), (.int (8204 : Int32)), (.int (8205 : Int32)), (.int (8304 : Int32)), (.int (8591 : Int32)), (.int (11264 : Int32)), (.int (12271 : Int32)), (.int (12289 : Int32)), (.int (55295 : Int32)), (.int (63744 : Int32)), (.int (64975 : Int32)), (.int (0 : Int32)), (.int (0 : Int32)), (.int (0 : Int32)), (.int (0 : Int32))] (.int (0 : Int32)) := Arv.set Ar26 q26 S26 M26 H26 G26 rfl W26 24 rfl (Nat.le_of_ble_eq_true rfl)
  have K26 : Keep h0 h26 [] := K25.wr W26 (Or.inr sz_b1)
  have Z26 : n0 ≤ h26.size := Nat.le_trans Z0 K26.1
  have N26 := Fr.snoc X26 N25 g_b1
  obtain ⟨J26, X26, N26⟩ := own_hide X26 N26
  refine own_Go.of (g' := (mkF m 165 #[.val (.int x0), .val (.int x1), .val (.int x2), .unset, .unset, .unset] [(.ref b1)])) (fun t k => st26 _ k) ?_
  refine og_dup (pc' := 166) X26 hx (hb hby at_165) rfl rfl ?_
  refine og_bipush (pc' := 168) (n := 25) X26 hx (hb hby at_166) rfl rfl ?_
  refine og_ldc (pc' := 170) X26 hx (hb hby at_168) hown (mvT hZ (hw _ (List.mem_of_getElem? (i := 4) rfl))) rfl ?_
  obtain ⟨cl27, Ar27, q27, S27, M27, H27, G27⟩ := id V26
  have hin27 : ¬ ((25 : Int32) < 0 ∨ cl27.slots.size ≤ ((25 : Int32)).toNatClampNeg) := inb_of S27 ⟨by decide, by decide⟩
  obtain ⟨T27, h27, X27, e27, W27, st27⟩ := stI X26 hx hZ e26 Ar27 (j := (25 : Int32)) hin27 (g := (mkF m 170 #[.val (.int x0), .val (.int x1), .val (.int x2), .unset, .unset, .unset] [(.int (65008 : Int32)), (.int (25 : Int32)), (.ref b1), (.ref b1)])) rfl rfl (hb hby at_170)
  have V27 : Arv Z h27 b1 k1 .int (29 : Int32) [(.int (65 : Int32)), (.int (90 : Int32)), (.int (95 : Int32)), (.int (97 : Int32)), (.int (122 : Int32)), (.int (192 : Int32)), (.int (214 : Int32)), (.int (216 : Int32)), (.int (246 : Int32)), (.int (248 : Int32)), (.int (767 : Int32)), (.int (880 : Int32)), (.int (893 : Int32)), (.int (895 : Int32)), (.int (8191 : Int32)), (.int (8204 : Int32)), (.int (8205 : Int32)), (.int (8304 : Int32)), (.int (8591 : Int32)), (.int (11264 : Int32)), (.int (12271 : Int32)), (.int (12289 : Int32)), (.int (55295 : Int32)), (.int (63744 : Int32)), (.int (64975 : Int32)), (.int (65008 : Int32)), (.int (0 : Int32)), (.int (0 : Int32)), (.int (0 : Int32))] (.int (0 : Int32)) := Arv.set Ar27 q27 S27 M27 H27 G27 rfl W27 25 rfl (Nat.le_of_ble_eq_true rfl)
  have K27 : Keep h0 h27 [] := K26.wr W27 (Or.inr sz_b1)
  have Z27 : n0 ≤ h27.size := Nat.le_trans Z0 K27.1
  have N27 := Fr.snoc X27 N26 g_b1
  obtain ⟨J27, X27, N27⟩ := own_hide X27 N27
  refine own_Go.of (g' := (mkF m 171 #[.val (.int x0), .val (.int x1), .val (.int x2), .unset, .unset, .unset] [(.ref b1)])) (fun t k => st27 _ k) ?_
  refine og_dup (pc' := 172) X27 hx (hb hby at_171) rfl rfl ?_
  refine og_bipush (pc' := 174) (n := 26) X27 hx (hb hby at_172) rfl rfl ?_
  refine og_ldc (pc' := 176) X27 hx (hb hby at_174) hown (mvT hZ (hw _ (List.mem_of_getElem? (i := 5) rfl))) rfl ?_
  obtain ⟨cl28, Ar28, q28, S28, M28, H28, G28⟩ := id V27
  have hin28 : ¬ ((26 : Int32) < 0 ∨ cl28.slots.size ≤ ((26 : Int32)).toNatClampNeg) := inb_of S28 ⟨by decide, by decide⟩
  obtain ⟨T28, h28, X28, e28, W28, st28⟩ := stI X27 hx hZ e27 Ar28 (j := (26 : Int32)) hin28 (g := (mkF m 176 #[.val (.int x0), .val (.int x1), .val (.int x2), .unset, .unset, .unset] [(.int (65533 : Int32)), (.int (26 : Int32)), (.ref b1), (.ref b1)])) rfl rfl (hb hby at_176)
  have V28 : Arv Z h28 b1 k1 .int (29 : Int32) [(.int (65 : Int32)), (.int (90 : Int32)), (.int (95 : Int32)), (.int (97 : Int32)), (.int (122 : Int32)), (.int (192 : Int32)), (.int (214 : Int32)), (.int (216 : Int32)), (.int (246 : Int32)), (.int (248 : Int32)), (.int (767 : Int32)), (.int (880 : Int32)), (.int (893 : Int32)), (.int (895 : Int32)), (.int (8191 : Int32)), (.int (8204 : Int32)), (.int (8205 : Int32)), (.int (8304 : Int32)), (.int (8591 : Int32)), (.int (11264 : Int32)), (.int (12271 : Int32)), (.int (12289 : Int32)), (.int (55295 : Int32)), (.int (63744 : Int32)), (.int (64975 : Int32)), (.int (65008 : Int32)), (.int (65533 : Int32)), (.int (0 : Int32)), (.int (0 : Int32))] (.int (0 : Int32)) := Arv.set Ar28 q28 S28 M28 H28 G28 rfl W28 26 rfl (Nat.le_of_ble_eq_true rfl)
  have K28 : Keep h0 h28 [] := K27.wr W28 (Or.inr sz_b1)
  have Z28 : n0 ≤ h28.size := Nat.le_trans Z0 K28.1
  have N28 := Fr.snoc X28 N27 g_b1
  obtain ⟨J28, X28, N28⟩ := own_hide X28 N28
  refine own_Go.of (g' := (mkF m 177 #[.val (.int x0), .val (.int x1), .val (.int x2), .unset, .unset, .unset] [(.ref b1)])) (fun t k => st28 _ k) ?_
  refine og_dup (pc' := 178) X28 hx (hb hby at_177) rfl rfl ?_
  refine og_bipush (pc' := 180) (n := 27) X28 hx (hb hby at_178) rfl rfl ?_
  refine og_ldc (pc' := 182) X28 hx (hb hby at_180) hown (mvT hZ (hw _ (List.mem_of_getElem? (i := 6) rfl))) rfl ?_
  obtain ⟨cl29, Ar29, q29, S29, M29, H29, G29⟩ := id V28
  have hin29 : ¬ ((27 : Int32) < 0 ∨ cl29.slots.size ≤ ((27 : Int32)).toNatClampNeg) := inb_of S29 ⟨by decide, by decide⟩
  obtain ⟨T29, h29, X29, e29, W29, st29⟩ := stI X28 hx hZ e28 Ar29 (j := (27 : Int32)) hin29 (g := (mkF m 182 #[.val (.int x0), .val (.int x1), .val (.int x2), .unset, .unset, .unset] [(.int (65536 : Int32)), (.int (27 : Int32)), (.ref b1), (.ref b1)])) rfl rfl (hb hby at_182)
  have V29 : Arv Z h29 b1 k1 .int (29 : Int32) [(.int (65 : Int32)), (.int (90 : Int32)), (.int (95 : Int32)), (.int (97 : Int32)), (.int (122 : Int32)), (.int (192 : Int32)), (.int (214 : Int32)), (.int (216 : Int32)), (.int (246 : Int32)), (.int (248 : Int32)), (.int (767 : Int32)), (.int (880 : Int32)), (.int (893 : Int32)), (.int (895 : Int32)), (.int (8191 : Int32)), (.int (8204 : Int32)), (.int (8205 : Int32)), (.int (8304 : Int32)), (.int (8591 : Int32)), (.int (11264 : Int32)), (.int (12271 : Int32)), (.int (12289 : Int32)), (.int (55295 : Int32)), (.int (63744 : Int32)), (.int (64975 : Int32)), (.int (65008 : Int32)), (.int (65533 : Int32)), (.int (65536 : Int32)), (.int (0 : Int32))] (.int (0 : Int32)) := Arv.set Ar29 q29 S29 M29 H29 G29 rfl W29 27 rfl (Nat.le_of_ble_eq_true rfl)
  have K29 : Keep h0 h29 [] := K28.wr W29 (Or.inr sz_b1)
  have Z29 : n0 ≤ h29.size := Nat.le_trans Z0 K29.1
  have N29 := Fr.snoc X29 N28 g_b1
  obtain ⟨J29, X29, N29⟩ := own_hide X29 N29
  refine own_Go.of (g' := (mkF m 183 #[.val (.int x0), .val (.int x1), .val (.int x2), .unset, .unset, .unset] [(.ref b1)])) (fun t k => st29 _ k) ?_
  refine og_dup (pc' := 184) X29 hx (hb hby at_183) rfl rfl ?_
  refine og_bipush (pc' := 186) (n := 28) X29 hx (hb hby at_184) rfl rfl ?_
  refine og_ldc (pc' := 188) X29 hx (hb hby at_186) hown (mvT hZ (hw _ (List.mem_of_getElem? (i := 7) rfl))) rfl ?_
  obtain ⟨cl30, Ar30, q30, S30, M30, H30, G30⟩ := id V29
  have hin30 : ¬ ((28 : Int32) < 0 ∨ cl30.slots.size ≤ ((28 : Int32)).toNatClampNeg) := inb_of S30 ⟨by decide, by decide⟩
  obtain ⟨T30, h30, X30, e30, W30, st30⟩ := stI X29 hx hZ e29 Ar30 (j := (28 : Int32)) hin30 (g := (mkF m 188 #[.val (.int x0), .val (.int x1), .val (.int x2), .unset, .unset, .unset] [(.int (983039 : Int32)), (.int (28 : Int32)), (.ref b1), (.ref b1)])) rfl rfl (hb hby at_188)
  have V30 : Arv Z h30 b1 k1 .int (29 : Int32) [(.int (65 : Int32)), (.int (90 : Int32)), (.int (95 : Int32)), (.int (97 : Int32)), (.int (122 : Int32)), (.int (192 : Int32)), (.int (214 : Int32)), (.int (216 : Int32)), (.int (246 : Int32)), (.int (248 : Int32)), (.int (767 : Int32)), (.int (880 : Int32)), (.int (893 : Int32)), (.int (895 : Int32)), (.int (8191 : Int32)), (.int (8204 : Int32)), (.int (8205 : Int32)), (.int (8304 : Int32)), (.int (8591 : Int32)), (.int (11264 : Int32)), (.int (12271 : Int32)), (.int (12289 : Int32)), (.int (55295 : Int32)), (.int (63744 : Int32)), (.int (64975 : Int32)), (.int (65008 : Int32)), (.int (65533 : Int32)), (.int (65536 : Int32)), (.int (983039 : Int32))] (.int (0 : Int32)) := Arv.set Ar30 q30 S30 M30 H30 G30 rfl W30 28 rfl (Nat.le_of_ble_eq_true rfl)
  have K30 : Keep h0 h30 [] := K29.wr W30 (Or.inr sz_b1)
  have Z30 : n0 ≤ h30.size := Nat.le_trans Z0 K30.1
  have N30 := Fr.snoc X30 N29 g_b1
  obtain ⟨J30, X30, N30⟩ := own_hide X30 N30
  refine own_Go.of (g' := (mkF m 189 #[.val (.int x0), .val (.int x1), .val (.int x2), .unset, .unset, .unset] [(.ref b1)])) (fun t k => st30 _ k) ?_
  refine og_astoreN (pc' := 190) (L' := #[.val (.int x0), .val (.int x1), .val (.int x2), .val (.ref b1), .unset, .unset]) X30 hx (hb hby at_189) rfl rfl rfl ?_
  refine og_iloadN (pc' := 191) X30 hx (hb hby at_190) rfl rfl ?_
  refine og_ldc (pc' := 193) X30 hx (hb hby at_191) hown (mvT hZ (hw _ (List.mem_of_getElem? (i := 8) rfl))) rfl ?_
  refine og_iand (pc' := 194) X30 hx (hb hby at_193) rfl ?_
  refine og_istore (pc' := 196) (L' := #[.val (.int x0), .val (.int x1), .val (.int x2), .val (.ref b1), .val (.int (x1 &&& (2147483647 : Int32))), .unset]) X30 hx (hb hby at_194) rfl rfl ?_
  refine og_iloadN (pc' := 197) X30 hx (hb hby at_196) rfl rfl ?_
  refine og_iconst (pc' := 198) (n := 1) X30 hx (hb hby at_197) rfl rfl ?_
  refine og_iand (pc' := 199) X30 hx (hb hby at_198) rfl ?_
  by_cases hc199_1 : (x2 &&& (1 : Int32)) = (0 : Int32)
  · refine og_ifNo (pc' := 202) X30 hx (hb hby at_199) ((if0 _ _).trans (teq hc199_1).2) rfl ?_
    refine og_iloadN (pc' := 203) X30 hx (hb hby at_202) rfl rfl ?_
    refine og_istore (pc' := 205) (L' := #[.val (.int x0), .val (.int x1), .val (.int x2), .val (.ref b1), .val (.int (x1 &&& (2147483647 : Int32))), .val (.int x0)]) X30 hx (hb hby at_203) rfl rfl ?_
    refine og_goto (pc' := 227) X30 hx (hb hby at_205) (by decide) (by decide) ?_
    refine og_iload (pc' := 229) X30 hx (hb hby at_227) rfl rfl ?_
    obtain ⟨_, _, ⟨T31, L31, k31, n31⟩, -, X31, ⟨Lc31, hQ31, l31, y31, z31⟩, st31⟩ := Jvm.LawKit.callS X30 hx (y := (⟨"com/example/ragtable/ragtable/rdfio/TermTokens", "isPnCharsU", "(I)Z"⟩ : MethodName)) hown (mvT hZ (hw _ (List.mem_of_getElem? (i := 9) rfl))) (mvT hZ (hw _ (List.mem_of_getElem? (i := 10) rfl))) (mvT hZ (hw _ (List.mem_of_getElem? (i := 11) rfl))) (mvT hZ (hw _ (List.mem_of_getElem? (i := 12) rfl))) (by decide) (backOf (W := 0) (rmu l Z a0 hw [] x0 h30 n0 Z30 ) hZ (hw _ (List.mem_of_getElem? (i := 12) rfl)) (hw _ (List.mem_of_getElem? (i := 11) rfl)) (by decide) (by decide)) (g := (mkF m 229 #[.val (.int x0), .val (.int x1), .val (.int x2), .val (.ref b1), .val (.int (x1 &&& (2147483647 : Int32))), .val (.int x0)] [(.int x0)])) rfl (by rw [hml]; rfl) (argsL := [(.int x0)]) (rest := []) (lenOf pd_0 rfl) rfl (by show 2 * 0 + _ ≤ _; exact Nat.le_of_eq rfl) (hb hby at_229) (fun _ _ => ⟨rfl, e30, (by decide : 1 + 0 ≤ _), (by decide : 29 + 0 ≤ _)⟩)
    dsimp only [Pt.U, Pt.locs, Pt.cells, Pt.slots] at X31 l31 y31 z31 st31 hQ31
    subst l31 y31 z31
    obtain ⟨rfl, N31q, e31⟩ := hQ31
    have N31 := Fr.app N30 N31q
    obtain ⟨J31, X31, N31⟩ := own_hide X31 N31
    refine own_Go.of (g' := (mkF m 232 #[.val (.int x0), .val (.int x1), .val (.int x2), .val (.ref b1), .val (.int (x1 &&& (2147483647 : Int32))), .val (.int x0)] [(.int (own_u x0))])) (fun t k => st31 _ k) ?_
    refine og_iload (pc' := 234) X31 hx (hb hby at_232) rfl rfl ?_
    obtain ⟨_, _, ⟨T32, L32, k32, n32⟩, -, X32, ⟨Lc32, hQ32, l32, y32, z32⟩, st32⟩ := Jvm.LawKit.callS X31 hx (y := (⟨"com/example/ragtable/ragtable/rdfio/TermTokensIsPnCharsUPinLaw", "ref", "(I)Z"⟩ : MethodName)) hown (mvT hZ (hw _ (List.mem_of_getElem? (i := 19) rfl))) (mvT hZ (hw _ (List.mem_of_getElem? (i := 20) rfl))) (mvT hZ (hw _ (List.mem_of_getElem? (i := 21) rfl))) (mvT hZ (hw _ (List.mem_of_getElem? (i := 22) rfl))) (by decide) (backOf (W := 1) (rmg l Z a0 hw [] x0 h30 n0 Z30 ) hZ (hw _ (List.mem_of_getElem? (i := 22) rfl)) (hw _ (List.mem_of_getElem? (i := 21) rfl)) (by decide) (by decide)) (g := (mkF m 234 #[.val (.int x0), .val (.int x1), .val (.int x2), .val (.ref b1), .val (.int (x1 &&& (2147483647 : Int32))), .val (.int x0)] [(.int x0), (.int (own_u x0))])) rfl (by rw [hml]; rfl) (argsL := [(.int x0)]) (rest := [(.int (own_u x0))]) (lenOf pd_0 rfl) rfl (by show 2 * 0 + _ ≤ _; exact Nat.le_of_eq rfl) (hb hby at_234) (fun _ _ => ⟨rfl, e31, (by decide : 1 + 0 ≤ _), (by decide : 29 + 0 ≤ _)⟩)
    dsimp only [Pt.U, Pt.locs, Pt.cells, Pt.slots] at X32 l32 y32 z32 st32 hQ32
    subst l32 y32 z32
    obtain ⟨rfl, N32q, e32⟩ := hQ32
    have N32 := Fr.app N31 N32q
    obtain ⟨J32, X32, N32⟩ := own_hide X32 N32
    refine own_Go.of (g' := (mkF m 237 #[.val (.int x0), .val (.int x1), .val (.int x2), .val (.ref b1), .val (.int (x1 &&& (2147483647 : Int32))), .val (.int x0)] [(.int (own_g x0)), (.int (own_u x0))])) (fun t k => st32 _ k) ?_
    refine og_icmpNo (pc' := 240) X32 hx (hb hby at_237) (teq (own_ug _)).2 rfl ?_
    refine og_iconst (pc' := 241) (n := 1) X32 hx (hb hby at_240) rfl rfl ?_
    refine og_goto (pc' := 245) X32 hx (hb hby at_241) (by decide) (by decide) ?_
    obtain ⟨fs, hr, hrun, hended, hW, hsame⟩ := X32.leave (v := some (.int (1 : Int32))) (fun h => by rw [Bd.returns] at h; cases h) (BodyLoose.notSynchronized Bd)
    refine ⟨_, _, retN X32 hx (t := .boolean) Bd.returns (by simp) (hb hby at_245) hr, hrun, hended, some (.int (1 : Int32)), _, rfl, ?_, ⟨_, rfl⟩, hW, hsame.mono (by decide) (by decide)⟩
    show Q0 Z x0 x1 x2 h0 n0 _ T32.heap _
    rw [e32]
    exact ⟨rfl, N32⟩
  · refine og_ifYes (pc' := 208) X30 hx (hb hby at_199) ((if0 _ _).trans (feq hc199_1).2) (by decide) (by decide) ?_
    refine og_aloadN (pc' := 209) X30 hx (hb hby at_208) rfl rfl rfl ?_
    refine og_iload (pc' := 211) X30 hx (hb hby at_209) rfl rfl ?_
    refine og_bipush (pc' := 213) (n := 29) X30 hx (hb hby at_211) rfl rfl ?_
    refine og_irem (pc' := 214) X30 hx (hb hby at_213) (by decide) rfl ?_
    obtain ⟨zr, hzr⟩ : ∃ z : Int32, ([(.int (65 : Int32)), (.int (90 : Int32)), (.int (95 : Int32)), (.int (97 : Int32)), (.int (122 : Int32)), (.int (192 : Int32)), (.int (214 : Int32)), (.int (216 : Int32)), (.int (246 : Int32)), (.int (248 : Int32)), (.int (767 : Int32)), (.int (880 : Int32)), (.int (893 : Int32)), (.int (895 : Int32)), (.int (8191 : Int32)), (.int (8204 : Int32)), (.int (8205 : Int32)), (.int (8304 : Int32)), (.int (8591 : Int32)), (.int (11264 : Int32)), (.int (12271 : Int32)), (.int (12289 : Int32)), (.int (55295 : Int32)), (.int (63744 : Int32)), (.int (64975 : Int32)), (.int (65008 : Int32)), (.int (65533 : Int32)), (.int (65536 : Int32)), (.int (983039 : Int32))] : List Value).getD (((x1 &&& (2147483647 : Int32)) % (29 : Int32))).toNatClampNeg (.int (0 : Int32)) = .int z := own_getD_int [(65 : Int32), (90 : Int32), (95 : Int32), (97 : Int32), (122 : Int32), (192 : Int32), (214 : Int32), (216 : Int32), (246 : Int32), (248 : Int32), (767 : Int32), (880 : Int32), (893 : Int32), (895 : Int32), (8191 : Int32), (8204 : Int32), (8205 : Int32), (8304 : Int32), (8591 : Int32), (11264 : Int32), (12271 : Int32), (12289 : Int32), (55295 : Int32), (63744 : Int32), (64975 : Int32), (65008 : Int32), (65533 : Int32), (65536 : Int32), (983039 : Int32)] _
    obtain ⟨cl33, Ar33, q33, S33, M33, H33, G33⟩ := id V30
    have hin33 : ¬ (((x1 &&& (2147483647 : Int32)) % (29 : Int32)) < 0 ∨ cl33.slots.size ≤ (((x1 &&& (2147483647 : Int32)) % (29 : Int32))).toNatClampNeg) := inb_of S33 (own_k _)
    have hat33 : cl33.slots[(((x1 &&& (2147483647 : Int32)) % (29 : Int32))).toNatClampNeg]? = some (.int zr) := Has.at H33 hin33 hzr
    refine own_Go.of (g' := (mkF m 215 #[.val (.int x0), .val (.int x1), .val (.int x2), .val (.ref b1), .val (.int (x1 &&& (2147483647 : Int32))), .unset] [(.int zr)])) (fun t k => X30.iaload hx (j := ((x1 &&& (2147483647 : Int32)) % (29 : Int32))) (v := (.int zr)) (by rw [e30]; exact Ar33.1) (State.isArrayOf_alike hZ.alike Ar33.2.1) Ar33.2.2 hin33 hat33 (g := (mkF m 214 #[.val (.int x0), .val (.int x1), .val (.int x2), .val (.ref b1), .val (.int (x1 &&& (2147483647 : Int32))), .unset] [(.int ((x1 &&& (2147483647 : Int32)) % (29 : Int32))), (.ref b1)])) rfl rfl (hb hby at_214) _ k) ?_
    refine og_iload (pc' := 217) X30 hx (hb hby at_215) rfl rfl ?_
    refine og_bipush (pc' := 219) (n := 29) X30 hx (hb hby at_217) rfl rfl ?_
    refine og_idiv (pc' := 220) X30 hx (hb hby at_219) (by decide) rfl ?_
    refine og_iconst (pc' := 221) (n := 3) X30 hx (hb hby at_220) rfl rfl ?_
    refine og_irem (pc' := 222) X30 hx (hb hby at_221) (by decide) rfl ?_
    refine og_iadd (pc' := 223) X30 hx (hb hby at_222) rfl ?_
    refine og_iconst (pc' := 224) (n := 1) X30 hx (hb hby at_223) rfl rfl ?_
    refine og_isub (pc' := 225) X30 hx (hb hby at_224) rfl ?_
    refine og_istore (pc' := 227) (L' := #[.val (.int x0), .val (.int x1), .val (.int x2), .val (.ref b1), .val (.int (x1 &&& (2147483647 : Int32))), .val (.int ((zr + (((x1 &&& (2147483647 : Int32)) / (29 : Int32)) % (3 : Int32))) - (1 : Int32)))]) X30 hx (hb hby at_225) rfl rfl ?_
    refine og_iload (pc' := 229) X30 hx (hb hby at_227) rfl rfl ?_
    obtain ⟨_, _, ⟨T34, L34, k34, n34⟩, -, X34, ⟨Lc34, hQ34, l34, y34, z34⟩, st34⟩ := Jvm.LawKit.callS X30 hx (y := (⟨"com/example/ragtable/ragtable/rdfio/TermTokens", "isPnCharsU", "(I)Z"⟩ : MethodName)) hown (mvT hZ (hw _ (List.mem_of_getElem? (i := 9) rfl))) (mvT hZ (hw _ (List.mem_of_getElem? (i := 10) rfl))) (mvT hZ (hw _ (List.mem_of_getElem? (i := 11) rfl))) (mvT hZ (hw _ (List.mem_of_getElem? (i := 12) rfl))) (by decide) (backOf (W := 0) (rmu l Z a0 hw [] ((zr + (((x1 &&& (2147483647 : Int32)) / (29 : Int32)) % (3 : Int32))) - (1 : Int32)) h30 n0 Z30 ) hZ (hw _ (List.mem_of_getElem? (i := 12) rfl)) (hw _ (List.mem_of_getElem? (i := 11) rfl)) (by decide) (by decide)) (g := (mkF m 229 #[.val (.int x0), .val (.int x1), .val (.int x2), .val (.ref b1), .val (.int (x1 &&& (2147483647 : Int32))), .val (.int ((zr + (((x1 &&& (2147483647 : Int32)) / (29 : Int32)) % (3 : Int32))) - (1 : Int32)))] [(.int ((zr + (((x1 &&& (2147483647 : Int32)) / (29 : Int32)) % (3 : Int32))) - (1 : Int32)))])) rfl (by rw [hml]; rfl) (argsL := [(.int ((zr + (((x1 &&& (2147483647 : Int32)) / (29 : Int32)) % (3 : Int32))) - (1 : Int32)))]) (rest := []) (lenOf pd_0 rfl) rfl (by show 2 * 0 + _ ≤ _; exact Nat.le_of_eq rfl) (hb hby at_229) (fun _ _ => ⟨rfl, e30, (by decide : 1 + 0 ≤ _), (by decide : 29 + 0 ≤ _)⟩)
    dsimp only [Pt.U, Pt.locs, Pt.cells, Pt.slots] at X34 l34 y34 z34 st34 hQ34
    subst l34 y34 z34
    obtain ⟨rfl, N34q, e34⟩ := hQ34
    have N34 := Fr.app N30 N34q
    obtain ⟨J34, X34, N34⟩ := own_hide X34 N34
    refine own_Go.of (g' := (mkF m 232 #[.val (.int x0), .val (.int x1), .val (.int x2), .val (.ref b1), .val (.int (x1 &&& (2147483647 : Int32))), .val (.int ((zr + (((x1 &&& (2147483647 : Int32)) / (29 : Int32)) % (3 : Int32))) - (1 : Int32)))] [(.int (own_u ((zr + (((x1 &&& (2147483647 : Int32)) / (29 : Int32)) % (3 : Int32))) - (1 : Int32))))])) (fun t k => st34 _ k) ?_
    refine og_iload (pc' := 234) X34 hx (hb hby at_232) rfl rfl ?_
    obtain ⟨_, _, ⟨T35, L35, k35, n35⟩, -, X35, ⟨Lc35, hQ35, l35, y35, z35⟩, st35⟩ := Jvm.LawKit.callS X34 hx (y := (⟨"com/example/ragtable/ragtable/rdfio/TermTokensIsPnCharsUPinLaw", "ref", "(I)Z"⟩ : MethodName)) hown (mvT hZ (hw _ (List.mem_of_getElem? (i := 19) rfl))) (mvT hZ (hw _ (List.mem_of_getElem? (i := 20) rfl))) (mvT hZ (hw _ (List.mem_of_getElem? (i := 21) rfl))) (mvT hZ (hw _ (List.mem_of_getElem? (i := 22) rfl))) (by decide) (backOf (W := 1) (rmg l Z a0 hw [] ((zr + (((x1 &&& (2147483647 : Int32)) / (29 : Int32)) % (3 : Int32))) - (1 : Int32)) h30 n0 Z30 ) hZ (hw _ (List.mem_of_getElem? (i := 22) rfl)) (hw _ (List.mem_of_getElem? (i := 21) rfl)) (by decide) (by decide)) (g := (mkF m 234 #[.val (.int x0), .val (.int x1), .val (.int x2), .val (.ref b1), .val (.int (x1 &&& (2147483647 : Int32))), .val (.int ((zr + (((x1 &&& (2147483647 : Int32)) / (29 : Int32)) % (3 : Int32))) - (1 : Int32)))] [(.int ((zr + (((x1 &&& (2147483647 : Int32)) / (29 : Int32)) % (3 : Int32))) - (1 : Int32))), (.int (own_u ((zr + (((x1 &&& (2147483647 : Int32)) / (29 : Int32)) % (3 : Int32))) - (1 : Int32))))])) rfl (by rw [hml]; rfl) (argsL := [(.int ((zr + (((x1 &&& (2147483647 : Int32)) / (29 : Int32)) % (3 : Int32))) - (1 : Int32)))]) (rest := [(.int (own_u ((zr + (((x1 &&& (2147483647 : Int32)) / (29 : Int32)) % (3 : Int32))) - (1 : Int32))))]) (lenOf pd_0 rfl) rfl (by show 2 * 0 + _ ≤ _; exact Nat.le_of_eq rfl) (hb hby at_234) (fun _ _ => ⟨rfl, e34, (by decide : 1 + 0 ≤ _), (by decide : 29 + 0 ≤ _)⟩)
    dsimp only [Pt.U, Pt.locs, Pt.cells, Pt.slots] at X35 l35 y35 z35 st35 hQ35
    subst l35 y35 z35
    obtain ⟨rfl, N35q, e35⟩ := hQ35
    have N35 := Fr.app N34 N35q
    obtain ⟨J35, X35, N35⟩ := own_hide X35 N35
    refine own_Go.of (g' := (mkF m 237 #[.val (.int x0), .val (.int x1), .val (.int x2), .val (.ref b1), .val (.int (x1 &&& (2147483647 : Int32))), .val (.int ((zr + (((x1 &&& (2147483647 : Int32)) / (29 : Int32)) % (3 : Int32))) - (1 : Int32)))] [(.int (own_g ((zr + (((x1 &&& (2147483647 : Int32)) / (29 : Int32)) % (3 : Int32))) - (1 : Int32)))), (.int (own_u ((zr + (((x1 &&& (2147483647 : Int32)) / (29 : Int32)) % (3 : Int32))) - (1 : Int32))))])) (fun t k => st35 _ k) ?_
    refine og_icmpNo (pc' := 240) X35 hx (hb hby at_237) (teq (own_ug _)).2 rfl ?_
    refine og_iconst (pc' := 241) (n := 1) X35 hx (hb hby at_240) rfl rfl ?_
    refine og_goto (pc' := 245) X35 hx (hb hby at_241) (by decide) (by decide) ?_
    obtain ⟨fs, hr, hrun, hended, hW, hsame⟩ := X35.leave (v := some (.int (1 : Int32))) (fun h => by rw [Bd.returns] at h; cases h) (BodyLoose.notSynchronized Bd)
    refine ⟨_, _, retN X35 hx (t := .boolean) Bd.returns (by simp) (hb hby at_245) hr, hrun, hended, some (.int (1 : Int32)), _, rfl, ?_, ⟨_, rfl⟩, hW, hsame.mono (by decide) (by decide)⟩
    show Q0 Z x0 x1 x2 h0 n0 _ T35.heap _
    rw [e35]
    exact ⟨rfl, N35⟩

set_option maxRecDepth 65536 in
set_option maxHeartbeats 40000000 in
theorem comes_1 {Post : Tables → Env → Array Value → State → Outcome → State → Prop} (hpost : ∀ tb e args s v u, (limb_1_1.after args s (.returned v) u = true ∧ limb_1_2.after args s (.returned v) u = true ∧ True) → FrameEnd s (.returned v) u (Jvm.fieldLocs frame_1_writes args s ++ Jvm.arrayLocs frame_1_arrays args s ++ Jvm.staticLocs frame_1_statics s) 16 128 → Post tb e args s (.returned v) u) :
    ArmFor flags0 classFile x code maxLocals ret World_1 tables_1 room_1 Calls_1 rest_1 Pre_1 Post := by
  intro l hfl _ _ p e ha hc hk s m args below hf hA hF happ hP
  obtain ⟨hcalls, hrest, hpre⟩ := hP
  obtain ⟨-, -, -, hnamed, -, -, -, hat⟩ := (Spec.applies_iff hf).mp happ
  obtain ⟨hg, hn⟩ := and_e (Cond.before_iff.mp (show (Jvm.Cond.and given_1 narrow_1).before args s = true from hpre))
  obtain ⟨hcnt, hg0⟩ := and_e hg
  obtain ⟨a0, hg1⟩ := and_e hg0
  obtain ⟨a1, hg2⟩ := and_e hg1
  obtain ⟨w0, w1, w2, rfl⟩ : ∃ w0 w1 w2 : Value, args = #[w0, w1, w2] := by
    have hs : args.size = 3 := by simpa [Cond.value, given_1] using hcnt
    obtain ⟨L⟩ := args
    match L, hs with
    | [w0, w1, w2], _ => exact ⟨w0, w1, w2, rfl⟩
  have hw := fun d (hd : d ∈ tables_1) => atoms_spec (ws := Jvm.Cond.code x code maxLocals ret :: tables_1) hat d (List.mem_cons_of_mem _ hd)
  have hfit : Fit s := fun {y c} hc i hi => by
    obtain ⟨ha, rfl⟩ := Array.getElem?_eq_some_iff.mp hc
    have q := List.all_eq_true.mp ((Array.all_eq_true_iff_forall_mem.mp hF) _ (Array.getElem_mem ha)) i (List.mem_range.mpr hi)
    simpa [Array.getElem?_eq_getElem hi] using q
  obtain ⟨i0, ei0⟩ := is_v a0
  obtain rfl : w0 = (.int i0) := Option.some.inj ei0
  obtain ⟨i1, ei1⟩ := is_v a1
  obtain rfl : w1 = (.int i1) := Option.some.inj ei1
  obtain ⟨i2, ei2⟩ := is_v hg2
  obtain rfl : w2 = (.int i2) := Option.some.inj ei2
  obtain ⟨n, o, h1, h2, h3, _, L, rfl, ⟨rfl, N⟩, hq⟩ := rm0 l s _ hw tables_1 i0 i1 i2  s.heap s.heap.size (Nat.le_refl _)  p e ha hc hk s m _ below hf ((Spec.applies_iff_loose hf).mp happ).1 ⟨rfl, State.Warmed39.refl s, rfl⟩ trivial
  refine ⟨n, _, h1, h2, h3, hpost _ _ _ _ _ _ ⟨Cond.after_iff.mpr rfl, Cond.after_iff.mpr (eq_i res_at (Term.int_eval (1)) rfl), trivial⟩ ⟨hq.1, hq.2.1, (hq.2.2.sift fun y hy => Or.inr (N y hy)).mono (by decide) (by decide)⟩⟩
theorem main_1_1 : Claimed_1_1 := comes_1 fun _ _ _ _ _ _ h hF => ⟨h.1, hF⟩
theorem main_1_2 : Claimed_1_2 := comes_1 fun _ _ _ _ _ _ h hF => ⟨h.2.1, hF⟩

end Jvm.Pilot.@@N@@
namespace Jvm.Pilot.@@N@@
open Jvm Jvm.ClassFile Sem Op Lib Jvm.Free Jvm.Stand Jvm.Pilot.@@N@@.Jvm.D
/-! MADE BY PROGRAM (witnessworld.py) out of the Statement's table words and the real class files: 9 classes; the members and pool entries that the words name. The judged class is class 1, her method 1. -/
namespace start1
open Jvm.ClassFile
def u (s : String) : CpInfo := .utf8 (stringToUtf16 s)
/-- a pool by its gaps: so many unusable entries, then the entry; so many at the end -/
def gap : Nat → List CpInfo → List CpInfo
  | 0, r => r
  | n + 1, r => .unusable :: gap n r
def poolList (es : List (Nat × CpInfo)) (last : Nat) : List CpInfo := es.foldr (fun e r => gap e.1 (e.2 :: r)) (gap last [])
def pool (es : List (Nat × CpInfo)) (last : Nat) : Array CpInfo := ⟨poolList es last⟩
def fileOf (pool : Array CpInfo) (this : Nat) (attrs : Array Attribute := #[]) (ms : Array MethodInfo := #[]) (fl : Nat := 33) (sup : Nat := 0) (ifs : Array Nat := #[]) (fds : Array FieldInfo := #[]) : ClassFile where
  minorVersion := 0
  majorVersion := 65
  constantPool := pool
  accessFlags := fl
  thisClass := this
  superClass := sup
  interfaces := ifs
  fields := fds
  methods := ms
  attributes := attrs
def plain (name : String) (sup : Option ClassId) : Class where
  name := name
  kind := .ordinary
  loader := none
  accessFlags := 33
  super := sup
  interfaces := #[]
  cf := none
  fields := #[]
  methods := #[]
  instanceTypes := #[]
  staticTypes := #[]
  resolved := #[]
  callSites := []
  init := .initialized
  statics := none
  mirror := none

def pool0 : Array CpInfo := pool [(5, u "<init>"), (0, u "()V"), (1, .class_ 10), (1, u "java/lang/Object")] 113

def k0m0 : Method := { name := "<init>", desc := "()V", sig := { parameters := [], returnType := none }, accessFlags := 1, code := none }
/-- java/lang/Object -/
def k0 : Class := { plain "java/lang/Object" none with
  accessFlags := 33
  interfaces := #[]
  cf := some (fileOf pool0 8 #[] #[{ accessFlags := 1, nameIndex := 5, descriptorIndex := 6, attributes := #[] }] 33 0 #[] #[])
  fields := #[]
  methods := #[k0m0]
  instanceTypes := #[]
  staticTypes := #[]
  resolved := Array.replicate 124 none
  statics := none }

def pool1 : Array CpInfo := pool [(2, .class_ 4), (1, u "java/lang/Object"), (0, u "<init>"), (0, u "()V"), (0, .integer 55295), (0, .integer 63744), (0, .integer 64975), (0, .integer 65008), (0, .integer 65533), (0, .integer 65536), (0, .integer 983039), (0, .integer 2147483647), (0, .methodref 16 17), (0, .class_ 18), (0, .nameAndType 19 20), (0, u "com/example/ragtable/ragtable/rdfio/TermTokens"), (0, u "isPnCharsU"), (0, u "(I)Z"), (0, .methodref 22 23), (0, .class_ 24), (0, .nameAndType 25 20), (0, u "com/example/ragtable/ragtable/rdfio/TermTokensIsPnCharsUPinLaw"), (0, u "ref"), (0, .integer 55296), (0, .integer 63743), (0, .integer 64976), (0, .integer 65007), (0, .integer 65534), (0, .integer 65535), (2, u "law"), (0, u "(III)Z")] 5

def k1m0 : Method := { name := "<init>", desc := "()V", sig := { parameters := [], returnType := none }, accessFlags := 2, code := none }
def k1c1 : Code := { maxStack := 4, maxLocals := 6, code := code, exceptionTable := #[], attributes := #[] }
def k1m1 : Method := { name := "law", desc := "(III)Z", sig := { parameters := [.int, .int, .int], returnType := some .boolean }, accessFlags := 9, code := some k1c1 }
def k1c2 : Code := { maxStack := 2, maxLocals := 1, code := method_3_code, exceptionTable := #[], attributes := #[] }
def k1m2 : Method := { name := "ref", desc := "(I)Z", sig := { parameters := [.int], returnType := some .boolean }, accessFlags := 10, code := some k1c2 }
/-- com/example/ragtable/ragtable/rdfio/TermTokensIsPnCharsUPinLaw -/
def k1 : Class := { plain "com/example/ragtable/ragtable/rdfio/TermTokensIsPnCharsUPinLaw" (some 0) with
  accessFlags := 49
  interfaces := #[]
  cf := some (fileOf pool1 22 #[] #[{ accessFlags := 2, nameIndex := 5, descriptorIndex := 6, attributes := #[] }, { accessFlags := 9, nameIndex := 34, descriptorIndex := 35, attributes := #[] }, { accessFlags := 10, nameIndex := 25, descriptorIndex := 20, attributes := #[] }] 49 2 #[] #[])
  fields := #[]
  methods := #[k1m0, k1m1, k1m2]
  instanceTypes := #[]
  staticTypes := #[]
  resolved := Array.replicate 41 none
  statics := none }

def pool2 : Array CpInfo := pool [(2, .class_ 4), (1, u "java/lang/Object"), (0, u "<init>"), (0, u "()V"), (26, .integer 55295), (0, .integer 63744), (0, .integer 64975), (0, .integer 65008), (0, .integer 65533), (0, .integer 65536), (0, .integer 983039), (0, .methodref 41 42), (0, .class_ 43), (0, .nameAndType 44 45), (0, u "com/example/ragtable/ragtable/rdfio/TermTokens"), (0, u "isPnCharsBase"), (0, u "(I)Z"), (2, u "isPnCharsU"), (142, .class_ 192), (0, u "com/example/ragtable/ragtable/rdfio/TermTokens$NumericToken"), (44, .class_ 238), (0, u "com/example/ragtable/ragtable/rdfio/TermTokens$SyntaxPlace"), (104, u "MAX_TERM_LENGTH"), (0, u "I"), (1, u "LOCAL_ESCAPES"), (0, u "Ljava/lang/String;"), (0, u "IRI_EXCLUDED")] 67

def k2m0 : Method := { name := "<init>", desc := "()V", sig := { parameters := [], returnType := none }, accessFlags := 2, code := none }
def k2c1 : Code := { maxStack := 2, maxLocals := 1, code := prog_144_method_3_code, exceptionTable := #[], attributes := #[] }
def k2m1 : Method := { name := "isPnCharsBase", desc := "(I)Z", sig := { parameters := [.int], returnType := some .boolean }, accessFlags := 9, code := some k2c1 }
def k2c2 : Code := { maxStack := 2, maxLocals := 1, code := prog_144_method_4_code, exceptionTable := #[], attributes := #[] }
def k2m2 : Method := { name := "isPnCharsU", desc := "(I)Z", sig := { parameters := [.int], returnType := some .boolean }, accessFlags := 9, code := some k2c2 }
/-- com/example/ragtable/ragtable/rdfio/TermTokens -/
def k2 : Class := { plain "com/example/ragtable/ragtable/rdfio/TermTokens" (some 0) with
  accessFlags := 49
  interfaces := #[]
  cf := some (fileOf pool2 41 #[.nestMembers #[191, 237]] #[{ accessFlags := 2, nameIndex := 5, descriptorIndex := 6, attributes := #[] }, { accessFlags := 9, nameIndex := 44, descriptorIndex := 45, attributes := #[] }, { accessFlags := 9, nameIndex := 48, descriptorIndex := 45, attributes := #[] }] 49 2 #[] #[{ accessFlags := 25, nameIndex := 343, descriptorIndex := 344, attributes := #[] }, { accessFlags := 26, nameIndex := 346, descriptorIndex := 347, attributes := #[] }, { accessFlags := 26, nameIndex := 348, descriptorIndex := 347, attributes := #[] }])
  fields := #[{ name := "MAX_TERM_LENGTH", type := .int, accessFlags := 25, slot := 0, constantValue := 0 }, { name := "LOCAL_ESCAPES", type := (.object "java/lang/String"), accessFlags := 26, slot := 1, constantValue := 0 }, { name := "IRI_EXCLUDED", type := (.object "java/lang/String"), accessFlags := 26, slot := 2, constantValue := 0 }]
  methods := #[k2m0, k2m1, k2m2]
  instanceTypes := #[]
  staticTypes := #[.int, (.object "java/lang/String"), (.object "java/lang/String")]
  resolved := Array.replicate 416 none
  statics := none }

def pool3 : Array CpInfo := pool [(1, u "java/lang/Cloneable"), (0, .class_ 1), (0, u "java/lang/Object"), (0, .class_ 3)] 3

/-- java/lang/Cloneable -/
def k3 : Class := { plain "java/lang/Cloneable" (some 0) with
  accessFlags := 1537
  interfaces := #[]
  cf := some (fileOf pool3 2 #[] #[] 1537 4 #[] #[])
  fields := #[]
  methods := #[]
  instanceTypes := #[]
  staticTypes := #[]
  resolved := Array.replicate 8 none
  statics := none }

def pool4 : Array CpInfo := pool [(1, u "java/io/Serializable"), (0, .class_ 1), (0, u "java/lang/Object"), (0, .class_ 3)] 3

/-- java/io/Serializable -/
def k4 : Class := { plain "java/io/Serializable" (some 0) with
  accessFlags := 1537
  interfaces := #[]
  cf := some (fileOf pool4 2 #[] #[] 1537 4 #[] #[])
  fields := #[]
  methods := #[]
  instanceTypes := #[]
  staticTypes := #[]
  resolved := Array.replicate 8 none
  statics := none }

/-- the primitive byte -/
def k5 : Class := { plain "byte" none with kind := .primitive 'B', accessFlags := 0x411 }
/-- [B -/
def k6 : Class := { plain "[B" (some 0) with kind := .array 5 .byte, interfaces := #[3, 4], accessFlags := 1041 }

/-- the primitive int -/
def k7 : Class := { plain "int" none with kind := .primitive 'I', accessFlags := 0x411 }
/-- [I -/
def k8 : Class := { plain "[I" (some 0) with kind := .array 7 .int, interfaces := #[3, 4], accessFlags := 1041 }

def heap : Heap := #[]
def classes : Array Class := #[k0, k1, k2, k3, k4, k5, k6, k7, k8]
def interned : List (Array UInt16 × Addr) := []
def slotsUsed : Nat := 0
def theMethod : MethodId := ⟨1, 1⟩
def args0 : Array Value := #[.int 5, .int 6, .int 7]
def aboutOver (below : List Frame) : State where
  vm := { classes := classes, interned := interned.toArray }
  heap := heap
  slotsUsed := slotsUsed
  threads := #[{ frames := .invoking theMethod args0 :: below }]
def below0 : List Frame := [.native { method := ⟨0, 0⟩, args := #[] }]
def about1 : State := aboutOver below0
def p0 : Program := .bare "" "" ""
def e0 : Env := launch0.env 0 0 0
theorem w_frames : about1.frames = Frame.invoking theMethod args0 :: below0 := rfl
set_option maxRecDepth 65536 in
theorem w_args : argsFit about1.vm theMethod args0 = true := by decide +kernel
set_option maxRecDepth 65536 in
theorem w_heap : heapFits about1 = true := by decide +kernel
set_option maxRecDepth 65536 in
theorem w_runnable : about1.curStatus? = some .runnable := by decide +kernel
set_option maxRecDepth 65536 in
theorem w_alone : about1.alone = true := by decide +kernel
set_option maxRecDepth 65536 in
theorem w_named : about1.methodNamed? x = some theMethod := by decide +kernel
set_option maxRecDepth 65536 in
theorem w_hears : about1.hears theMethod below0 = true := by decide +kernel
set_option maxRecDepth 65536 in
theorem w_ripe : about1.ripe theMethod args0 below0 = true := by decide +kernel
theorem w_running : about1.status = .running := rfl
set_option maxRecDepth 65536 in
theorem w_room : about1.hasRoom e0.platform room_1 = true :=
  launch0.hasRoom_least _ room_1 (by decide +kernel) (by decide +kernel) (by decide +kernel) (by decide +kernel) (by decide +kernel) (by decide +kernel)
theorem allAtoms_all (ts : List Jvm.Cond) (a : Array Jvm.Value) (st : Jvm.State) : (allAtoms ts).before a st = ts.all (fun c => c.before a st) := by
  induction ts with
  | nil => rfl
  | cons c t ih =>
    show (Jvm.Cond.and c (allAtoms t)).before a st = _
    rw [Jvm.Cond.before_and, ih, List.all_cons]
def words1 : List Jvm.Cond := Jvm.Cond.code x code maxLocals ret :: tables_1
/-- a 'code' word, met by the world's own term for the bytes: nothing is compared byte by byte -/
theorem code_word {y : MethodName} {bytes : ByteArray} {mx : Nat} {rt : Option FieldType} {a : Array Value} {s : State} {m : MethodId} {meth : Method} {c : Code} (h1 : s.methodNamed? y = some m) (h2 : s.vm.method? m = some meth) (h3 : meth.code = some c) (h4 : c.code = bytes)
    (h5 : (c.maxLocals == mx && c.exceptionTable.isEmpty && decide (c.maxStack ≤ mostOperands) && decide (meth.sig.returnType = rt) && !meth.locks && decide (parseMethodDescriptor y.desc = some meth.sig)) = true) : (Jvm.Cond.code y bytes mx rt).before a s = true := by
  simp only [Bool.and_eq_true, beq_iff_eq, Bool.not_eq_true', decide_eq_true_eq] at h5
  obtain ⟨⟨⟨⟨⟨g1, g2⟩, g3⟩, g4⟩, g5⟩, g6⟩ := h5
  simp [Cond.before, Cond.holds, Cond.value, h1, h2, h3, h4, g1, g2, g3, g4, g5, g6]
def isCode : Jvm.Cond → Bool
  | .code _ _ _ _ => true
  | _ => false
theorem all_split {L : List Jvm.Cond} {P : Jvm.Cond → Bool} (h1 : L.all (fun c => isCode c || P c) = true) (h2 : ∀ c ∈ L.filter isCode, P c = true) : L.all P = true := by
  refine List.all_eq_true.mpr fun c hc => ?_
  have h := List.all_eq_true.mp h1 c hc
  rcases Bool.eq_false_or_eq_true (isCode c) with hi | hi
  · exact h2 c (List.mem_filter.mpr ⟨hc, hi⟩)
  · simpa [hi] using h
set_option maxRecDepth 65536 in
theorem w_c0 : (Jvm.Cond.code x code maxLocals ret).before args0 about1 = true := code_word (m := ⟨1, 1⟩) (meth := k1m1) (c := k1c1) (by decide +kernel) rfl rfl rfl (by decide +kernel)
set_option maxRecDepth 65536 in
theorem w_c1 : (Jvm.Cond.code ({ cls := "com/example/ragtable/ragtable/rdfio/TermTokens", name := "isPnCharsU", desc := "(I)Z" } : Jvm.MethodName) prog_144_method_4_code (1 : Nat) (Option.some Jvm.ClassFile.FieldType.boolean)).before args0 about1 = true := code_word (m := ⟨2, 2⟩) (meth := k2m2) (c := k2c2) (by decide +kernel) rfl rfl rfl (by decide +kernel)
set_option maxRecDepth 65536 in
theorem w_c2 : (Jvm.Cond.code ({ cls := "com/example/ragtable/ragtable/rdfio/TermTokens", name := "isPnCharsBase", desc := "(I)Z" } : Jvm.MethodName) prog_144_method_3_code (1 : Nat) (Option.some Jvm.ClassFile.FieldType.boolean)).before args0 about1 = true := code_word (m := ⟨2, 1⟩) (meth := k2m1) (c := k2c1) (by decide +kernel) rfl rfl rfl (by decide +kernel)
set_option maxRecDepth 65536 in
theorem w_c3 : (Jvm.Cond.code ({ cls := "com/example/ragtable/ragtable/rdfio/TermTokensIsPnCharsUPinLaw", name := "ref", desc := "(I)Z" } : Jvm.MethodName) method_3_code (1 : Nat) (Option.some Jvm.ClassFile.FieldType.boolean)).before args0 about1 = true := code_word (m := ⟨1, 2⟩) (meth := k1m2) (c := k1c2) (by decide +kernel) rfl rfl rfl (by decide +kernel)
def codes1 : List Jvm.Cond := [Jvm.Cond.code x code maxLocals ret, Jvm.Cond.code ({ cls := "com/example/ragtable/ragtable/rdfio/TermTokens", name := "isPnCharsU", desc := "(I)Z" } : Jvm.MethodName) prog_144_method_4_code (1 : Nat) (Option.some Jvm.ClassFile.FieldType.boolean), Jvm.Cond.code ({ cls := "com/example/ragtable/ragtable/rdfio/TermTokens", name := "isPnCharsBase", desc := "(I)Z" } : Jvm.MethodName) prog_144_method_3_code (1 : Nat) (Option.some Jvm.ClassFile.FieldType.boolean), Jvm.Cond.code ({ cls := "com/example/ragtable/ragtable/rdfio/TermTokensIsPnCharsUPinLaw", name := "ref", desc := "(I)Z" } : Jvm.MethodName) method_3_code (1 : Nat) (Option.some Jvm.ClassFile.FieldType.boolean)]
set_option maxRecDepth 65536 in
theorem codes_eq : words1.filter isCode = codes1 := rfl
theorem w_codes : ∀ c ∈ words1.filter isCode, c.before args0 about1 = true := by
  rw [codes_eq]
  intro c hc
  simp only [codes1, List.mem_cons, List.not_mem_nil, or_false] at hc
  rcases hc with rfl | rfl | rfl | rfl
  · exact w_c0
  · exact w_c1
  · exact w_c2
  · exact w_c3
set_option maxRecDepth 65536 in
theorem w_t1 : (words1.take 24).all (fun c => isCode c || c.before args0 about1) = true := by decide +kernel
set_option maxRecDepth 65536 in
theorem w_t2 : (words1.drop 24).all (fun c => isCode c || c.before args0 about1) = true := by decide +kernel
theorem w_tables : (allAtoms (Jvm.Cond.code x code maxLocals ret :: tables_1)).before args0 about1 = true := by
  rw [allAtoms_all]
  show words1.all (fun c => c.before args0 about1) = true
  refine all_split ?_ w_codes
  rw [← List.take_append_drop 24 words1, List.all_append, w_t1, w_t2]
  rfl
set_option maxRecDepth 65536 in
theorem w_case : (Jvm.Cond.and given_1 narrow_1).before args0 about1 = true := by decide +kernel
theorem w_applies : (headSpec (Jvm.Cond.code x code maxLocals ret :: tables_1) room_1).applies x e0.platform about1 = true :=
  (Spec.applies_iff w_frames).mpr ⟨w_running, w_runnable, w_alone, w_named, w_hears, w_ripe, w_room, w_tables⟩
theorem atStart : AtStart classFile x code maxLocals ret World_1 tables_1 room_1 Calls_1 rest_1 Pre_1 launch0 p0 e0 about1 theMethod args0 below0 :=
  ⟨lists_1, trivial, launch0.admits_env _ _ _, launch0.least_env, fairChoices_fair.cas, fairChoices_fair.clock, w_frames, w_args, w_heap, w_applies, trivial, trivial, w_case⟩
end start1
theorem witness_1 : WitnessClaimed_1 := ⟨start1.p0, start1.e0, start1.about1, start1.theMethod, start1.args0, start1.below0, start1.atStart⟩
end Jvm.Pilot.@@N@@
